import PyProof.Rows.All
import Wide.All
import OpenK.AllK
import Wide.FinOn
import PySem.Challenge.RW_tl0010_01
set_option Elab.async false
set_option linter.unusedVariables false
section
open PySem PySem.W PyProof.Rows PySem.Calls
set_option maxRecDepth 100000
namespace Mine
noncomputable section
abbrev p0 : Program := PySem.Challenge.pw_tl0010_01
def tokL : List (List Nat × Int × Nat × Nat) := [([33],54,534,532),([33,61],28,536,480),([37],24,538,472),([37,61],40,540,504),([38],19,542,462),([38,61],41,544,506),([40],7,546,438),([41],8,548,440),([42],16,550,456),([42,42],35,552,494),([42,42,61],46,554,516),([42,61],38,556,500),([43],14,558,452),([43,61],36,560,496),([44],12,562,448),([45],15,564,454),([45,61],37,566,498),([45,62],51,568,526),([46],23,570,470),([46,46,46],52,572,528),([47],17,574,458),([47,47],47,576,518),([47,47,61],48,578,520),([47,61],39,580,502),([58],11,582,446),([58,61],53,584,530),([59],13,586,450),([60],20,588,464),([60,60],33,590,490),([60,60,61],44,592,512),([60,61],29,594,482),([61],22,596,468),([61,61],27,598,478),([62],21,600,466),([62,61],30,602,484),([62,62],34,603,492),([62,62,61],45,604,514),([64],49,605,522),([64,61],50,606,524),([91],9,607,442),([93],10,608,444),([94],32,609,488),([94,61],43,610,510),([123],25,611,474),([124],18,612,460),([124,61],42,613,508),([125],26,614,476),([126],31,615,486)]
def tokE (P : Params) (x : List Nat × Int × Nat × Nat) : DictEntry := ⟨PyData.keyHash P ⟨x.1.toArray⟩, .str ⟨x.1.toArray⟩ x.2.2.1, .int x.2.1 x.2.2.2⟩
def rawTup (l : List Int) : Obj := { cls := .type "tuple", data := .seq (l.map fun i => Value.int i 0).toArray }
def code1 : List Int := [14, 4, 0, 1, 1, 6, 1, 16, 46, 1]
def code2 : List Int := [14, 9, 4, 1, 2, 16, 10, 16, 13, 0, 7, 7, 16, 13, 16, 10, 15, 18, 5, 16, 10, 15, 13, 11, 16, 13, 5, 5, 0, 16, 10, 1, 15, 2, 0, 1]
def patObj (x : List Nat) (t : Tok) (fl : Int) (ft : Tok) (a : Addr) : Obj := { cls := .type "re.Pattern", data := .fields #[.str ⟨x.toArray⟩ t, .int fl ft, .int 0 0, .none, .none, .ref a, .int 0 0] }
def KF (P : Params) : Frag := [(98, rawTup code1), (99, patObj [40, 63, 109, 41, 94, 92, 46] 365 40 378 98), (103, rawTup code2),
  (104, patObj [40, 63, 58, 92, 114, 92, 110, 124, 92, 110, 124, 92, 114, 40, 63, 33, 92, 110, 41, 41] 381 32 420 103),
  (119, { cls := .type "dict", data := .dict (tokL.map (tokE P)).toArray 48 })]
def nmL : List Str := ["_twin_re_1", "_twin_re_2", "EXACT_TOKEN_TYPES"]
def nmV : List (Option Value) := [some (.ref 99), some (.ref 104), some (.ref 119)]
def fnAt (i : Nat) : Option (Str × Arguments × List Stmt × Scope) := match p0.main.body[i]? with
  | some (.FunctionDef n a b _ _ _ sc _ _ _) => some (n, a, b, sc)
  | _ => none
def defIds : List Nat := [2, 3, 4, 5, 6, 7, 8, 9, 10, 15, 16, 67, 68, 69, 70, 71, 72, 73, 74]
/-- what the calls ask of the heap behind the top -/
structure Gd (w : World) (mg mb : Str → Option Value) (h : Heap) : Prop where
  g : h.Ns mainGlobals mg
  b : h.Ns builtinsNs mb
  lim : h.NoLimit
  bt : ∀ x : Str, x ≠ "__name__" → mb x = bootBuiltins x
  fn : ∀ i ∈ defIds, ∀ n a b sc, fnAt i = some (n, a, b, sc) → ∃ f o pm cd doc, mg n = some (.ref f) ∧ h.get? f = some o ∧ o.data = .func (docDef n a b sc pm cd doc) ∧ h.CodeRec cd n
  free : ∀ x ∈ (["hasattr", "type", "range", "len", "enumerate"] : List Str), mg x = none
  crlf : ∃ t, mg "CRLF" = some (.str ⟨#[13, 10]⟩ t)
  k : (KF w.params).In h
  n1 : mg "_twin_re_1" = some (.ref 99)
  n2 : mg "_twin_re_2" = some (.ref 104)
  n3 : mg "EXACT_TOKEN_TYPES" = some (.ref 119)
theorem Gd.keeps {w : World} {mg mb : Str → Option Value} {h h' : Heap} (G : Gd w mg mb h) (k : ∀ b o, h.get? b = some o → h'.get? b = some o) : Gd w mg mb h' where
  g := G.g.keeps k
  b := G.b.keeps k
  lim := G.lim.keeps k
  bt := G.bt
  fn i hi n a b sc e := let ⟨f, o, pm, cd, doc, h1, h2, h3, h4⟩ := G.fn i hi n a b sc e; ⟨f, o, pm, cd, doc, h1, k _ _ h2, h3, h4.keeps k⟩
  free := G.free
  crlf := G.crlf
  k := G.k.keeps k
  n1 := G.n1
  n2 := G.n2
  n3 := G.n3
/-- room for k more calls -/
structure Rm (k : Nat) (A : Around) : Prop where
  hh : A.handled = none
  d : A.depth + k ≤ 900
  u : A.units + 10 * k ≤ 9000
theorem Rm.mono {k k' : Nat} {A : Around} (r : Rm k A) (h : k' ≤ k) : Rm k' A := ⟨r.hh, by have := r.d; omega, by have := r.u; omega⟩
/-- what a def hands back: the caller's frame and ledger stand, the ledger has grown -/
def Back (h₀ : Heap) (L : Addr) (m : Str → Option Value) (g : Heap) (Q : Value → Shared → Prop) (v : Value) (s' : Shared) : Prop :=
  ∃ L' m' news', Fr g L' s'.heap m' ∧ News g L' s'.heap news' ∧ (Fr h₀ L s'.heap m → News h₀ L s'.heap news' → Q v s')
section
variable {prog : Program} {w : World} {A : Around} {E : Value → Shared → Prop} {s : Shared} {h₀ : Heap} {L : Addr} {m : Str → Option Value} {news : List (Addr × Obj)}
theorem enter {Q : Value → Shared → Prop} {name : Str} {params : Arguments} {body : List Stmt} {scope : Scope} {doc pm cd : Value} {f : Addr} {o : Obj} {args : List Value} {binds : List (Str × Value)}
    (F : Fr h₀ L s.heap m) (N : News h₀ L s.heap news) (hlim : h₀.NoLimit)
    (ho : h₀.get? f = some o) (hd : o.data = .func (docDef name params body scope pm cd doc)) (hcd : h₀.CodeRec cd name) (hroom : A.depth < recursionLimit)
    (hbind : bindArgs (docDef name params body scope pm cd doc) ⟨args, []⟩ = pure binds) (hloc : ∀ y ∈ binds, scope.names.lookup y.1 = some .local)
    (h : ∀ g L' h₁, (∀ b o, s.heap.get? b = some o → h₁.get? b = some o) → Fr h₀ L g m → Fr g L' h₁ (fun y => binds.reverse.lookup y) → News g L' h₁ news → h₀.StaysIn g →
      wpAny (model prog w) (A.deeper (envOf name scope L' f cd)) (execs body (envOf name scope L' f cd))
        (fun fl s' => Back h₀ L m g Q (match fl with | .ret v => v | _ => .none) s') (fun _ _ => False)
        { s with heap := h₁, toks := s.toks + binds.length })
    (hco : scope.isCoroutine = false := by rfl) (hgen : scope.isGenerator = false := by rfl) (hk : scope.kind = .function := by rfl)
    (hcell : ∀ x ∈ scope.names, x.2 ≠ .cell := by decide) : wpAny (model prog w) A (call (.ref f) args) Q E s := by
  refine wpAny_call (codeAny_call_def (fd := docDef name params body scope pm cd doc) (body := body) (binds := binds) hroom (F.keep _ _ ho) hd (hlim.keeps F.keep) (hcd.keeps F.keep) rfl (BindsTo.of_eq hbind) hcell hloc (fun h₁ hns hk₁ => ?_) hco hgen hk)
  have nm : ∀ b o, h₀.get? b = some o → b ∉ news.map (·.1) := fun b o e q => by
    obtain ⟨p, hp, rfl⟩ := List.mem_map.mp q
    rw [(N p hp).2.2] at e; cases e
  have st : h₀.StaysIn (hideAll s.heap (news.map (·.1))) := fun b o e => hideAll_get _ (F.keep b o e) (nm b o e)
  obtain ⟨oL, es, ep, hL, hLd, hLk, hLf⟩ := F.ns
  have nL : L ∉ news.map (·.1) := fun q => by
    obtain ⟨p, hp, e⟩ := List.mem_map.mp q
    exact (N p hp).2.1 e
  have hLg := hideAll_get (news.map (·.1)) hL nL
  refine wpAny_mono (h _ s.heap.objs.size h₁ hk₁ ⟨⟨oL, es, ep, hLg, hLd, hLk, hLf⟩, st, F.above⟩ ⟨hns, fun b o e => hk₁ b o (of_hideAll _ e), Nat.le_of_eq (hideAll_size _ _)⟩
    (fun p hp => ⟨hk₁ _ _ (N p hp).1, Nat.ne_of_lt (Heap.lt_size (N p hp).1), hideAll_none _ (List.mem_map_of_mem hp)⟩) st) (fun fl s' hl => ?_) fun _ _ y => y.elim
  obtain ⟨L', m', news', F', N', k⟩ := hl
  refine k ⟨⟨oL, es, ep, F'.keep L oL hLg, hLd, hLk, hLf⟩, fun b o e => F'.keep b o (st b o e), F.above⟩ fun p hp => ⟨(N' p hp).1, fun q => ?_, ?_⟩
  · have := (N' p hp).2.2; rw [q, hLg] at this; cases this
  · cases q : h₀.get? p.1 with
    | none => rfl
    | some o => have := (N' p hp).2.2; rw [st _ _ q] at this; cases this
end
def nmAt (i : Nat) : Str := ((fnAt i).map (·.1)).getD default
def scAt (i : Nat) : Scope := ((fnAt i).map (·.2.2.2)).getD default
def bdAt (i : Nat) : List Stmt := ((fnAt i).map (·.2.2.1)).getD default
def paAt (i : Nat) : Arguments := ((fnAt i).map (·.2.1)).getD default
def ev (i : Nat) (L f : Addr) (cd : Value) : Env := envOf (nmAt i) (scAt i) L f cd
def mp (l : List (Str × Value)) : Str → Option Value := fun y => l.lookup y
section
variable {w : World} {mg mb : Str → Option Value} {A : Around} {E : Value → Shared → Prop} {s : Shared} {h₀ : Heap} {L : Addr} {m : Str → Option Value} {news : List (Addr × Obj)}
theorem enterUp {Q : Value → Shared → Prop} {f : Addr} {args : List Value} (i : Nat) (k : Nat) (binds : List (Str × Value)) (G : Gd w mg mb h₀) (hf : mg (nmAt i) = some (.ref f)) (r : Rm (k + 1) A) (F : Fr h₀ L s.heap m) (N : News h₀ L s.heap news)
    (h : ∀ A' g L' h₁ tk cd, (∀ b o, s.heap.get? b = some o → h₁.get? b = some o) → s.toks ≤ tk → Rm k A' → Gd w mg mb g → Fr g L' h₁ (mp binds.reverse) → News g L' h₁ news →
      wpAny (model p0 w) A' (execs (bdAt i) (ev i L' f cd)) (fun fl s' => Back h₀ L m g Q (match fl with | .ret v => v | _ => .none) s') (fun _ _ => False) { s with heap := h₁, toks := tk })
    (hbind : ∀ pm cd doc, bindArgs (docDef (nmAt i) (paAt i) (bdAt i) (scAt i) pm cd doc) ⟨args, []⟩ = pure binds := by intros; rfl)
    (hi : i ∈ defIds := by decide) (e : fnAt i = some (nmAt i, paAt i, bdAt i, scAt i) := by rfl) (hloc : (binds.all fun x => decide ((scAt i).names.lookup x.1 = some .local)) = true := by rfl)
    (hco : (scAt i).isCoroutine = false := by rfl) (hgen : (scAt i).isGenerator = false := by rfl) (hk : (scAt i).kind = .function := by rfl)
    (hcell : ∀ x ∈ (scAt i).names, x.2 ≠ .cell := by decide) :
    wpAny (model p0 w) A (call (.ref f) args) Q E s := by
  obtain ⟨f', o, pm, cd, doc, h1, h2, h3, h4⟩ := G.fn i hi _ _ _ _ e
  obtain rfl : f = f' := Value.ref.inj (Option.some.inj (hf.symm.trans h1))
  refine enter F N G.lim h2 h3 h4 (by have := r.d; show A.depth < 1000; omega) (hbind pm cd doc) (locs hloc) (fun g L' h₁ up FG F' N' st => ?_) hco hgen hk hcell
  exact h _ g L' h₁ _ cd up (Nat.le_add_right _ _) ⟨r.hh, by have := r.d; show A.depth + 1 + k ≤ 900; omega, by have := r.u; show A.units + 3 + 10 * k ≤ 9000; omega⟩ (G.keeps st) F' N'
theorem enterAt {Q : Value → Shared → Prop} {f : Addr} {args : List Value} (i : Nat) (k : Nat) (binds : List (Str × Value)) (G : Gd w mg mb h₀) (hf : mg (nmAt i) = some (.ref f)) (r : Rm (k + 1) A) (F : Fr h₀ L s.heap m) (N : News h₀ L s.heap news)
    (h : ∀ A' g L' h₁ tk cd, Rm k A' → Gd w mg mb g → Fr g L' h₁ (mp binds.reverse) → News g L' h₁ news →
      wpAny (model p0 w) A' (execs (bdAt i) (ev i L' f cd)) (fun fl s' => Back h₀ L m g Q (match fl with | .ret v => v | _ => .none) s') (fun _ _ => False) { s with heap := h₁, toks := tk })
    (hbind : ∀ pm cd doc, bindArgs (docDef (nmAt i) (paAt i) (bdAt i) (scAt i) pm cd doc) ⟨args, []⟩ = pure binds := by intros; rfl)
    (hi : i ∈ defIds := by decide) (e : fnAt i = some (nmAt i, paAt i, bdAt i, scAt i) := by rfl) (hloc : (binds.all fun x => decide ((scAt i).names.lookup x.1 = some .local)) = true := by rfl)
    (hco : (scAt i).isCoroutine = false := by rfl) (hgen : (scAt i).isGenerator = false := by rfl) (hk : (scAt i).kind = .function := by rfl)
    (hcell : ∀ x ∈ (scAt i).names, x.2 ≠ .cell := by decide) :
    wpAny (model p0 w) A (call (.ref f) args) Q E s :=
  enterUp i k binds G hf r F N (fun A' g L' h₁ tk cd _ _ => h A' g L' h₁ tk cd) hbind hi e hloc hco hgen hk hcell
theorem Back.ret {g : Heap} {L' : Addr} {h' : Heap} {m' : Str → Option Value} {news' : List (Addr × Obj)} {Q : Value → Shared → Prop} {v : Value} {s' : Shared} (F : Fr g L' s'.heap m') (N : News g L' s'.heap news')
    (k : Fr h₀ L s'.heap m → News h₀ L s'.heap news' → Q v s') : Back h₀ L m g Q v s' := ⟨L', m', news', F, N, k⟩
theorem c_lt {Q : Value → Shared → Prop} {f : Addr} {x y : Int} {t u : Tok} (G : Gd w mg mb h₀) (hf : mg "lt" = some (.ref f)) (r : Rm 1 A) (F : Fr h₀ L s.heap m) (N : News h₀ L s.heap news)
    (k : ∀ h' tk, Fr h₀ L h' m → News h₀ L h' news → Q (.bool (decide (x < y))) { s with heap := h', toks := tk }) : wpAny (model p0 w) A (call (.ref f) [.int x t, .int y u]) Q E s := by
  refine enterAt 2 0 [("a", .int x t), ("b", .int y u)] G hf r F N fun A' g L' h₁ tk cd r' G' F' N' => ?_
  clear F N
  refine wpAny_execs_cons (wpAny_Return_some (wpAny_Compare1 (ld F' rfl (ld F' rfl (lt_int ?_)))))
  exact ⟨_, _, _, F', N', fun F N => k _ _ F N⟩
theorem c_le {Q : Value → Shared → Prop} {f : Addr} {x y : Int} {t u : Tok} (G : Gd w mg mb h₀) (hf : mg "le" = some (.ref f)) (r : Rm 1 A) (F : Fr h₀ L s.heap m) (N : News h₀ L s.heap news)
    (k : ∀ h' tk, Fr h₀ L h' m → News h₀ L h' news → Q (.bool (decide (x ≤ y))) { s with heap := h', toks := tk }) : wpAny (model p0 w) A (call (.ref f) [.int x t, .int y u]) Q E s := by
  refine enterAt 3 0 [("a", .int x t), ("b", .int y u)] G hf r F N fun A' g L' h₁ tk cd r' G' F' N' => ?_
  clear F N
  refine wpAny_execs_cons (wpAny_Return_some (wpAny_Compare1 (ld F' rfl (ld F' rfl (le_int ?_)))))
  exact ⟨_, _, _, F', N', fun F N => k _ _ F N⟩
theorem c_ge {Q : Value → Shared → Prop} {f : Addr} {x y : Int} {t u : Tok} (G : Gd w mg mb h₀) (hf : mg "ge" = some (.ref f)) (r : Rm 1 A) (F : Fr h₀ L s.heap m) (N : News h₀ L s.heap news)
    (k : ∀ h' tk, Fr h₀ L h' m → News h₀ L h' news → Q (.bool (decide (y ≤ x))) { s with heap := h', toks := tk }) : wpAny (model p0 w) A (call (.ref f) [.int x t, .int y u]) Q E s := by
  refine enterAt 4 0 [("a", .int x t), ("b", .int y u)] G hf r F N fun A' g L' h₁ tk cd r' G' F' N' => ?_
  clear F N
  refine wpAny_execs_cons (wpAny_Return_some (wpAny_Compare1 (ld F' rfl (ld F' rfl (ge_int ?_)))))
  exact ⟨_, _, _, F', N', fun F N => k _ _ F N⟩
theorem c_gt {Q : Value → Shared → Prop} {f : Addr} {x y : Int} {t u : Tok} (G : Gd w mg mb h₀) (hf : mg "gt" = some (.ref f)) (r : Rm 1 A) (F : Fr h₀ L s.heap m) (N : News h₀ L s.heap news)
    (k : ∀ h' tk, Fr h₀ L h' m → News h₀ L h' news → Q (.bool (decide (y < x))) { s with heap := h', toks := tk }) : wpAny (model p0 w) A (call (.ref f) [.int x t, .int y u]) Q E s := by
  refine enterAt 5 0 [("a", .int x t), ("b", .int y u)] G hf r F N fun A' g L' h₁ tk cd r' G' F' N' => ?_
  clear F N
  refine wpAny_execs_cons (wpAny_Return_some (wpAny_Compare1 (ld F' rfl (ld F' rfl (gt_int ?_)))))
  exact ⟨_, _, _, F', N', fun F N => k _ _ F N⟩
end
end
end Mine
end
section
open PySem PySem.W PyProof.Rows PySem.Calls
set_option maxRecDepth 100000
namespace Mine
noncomputable def E (P : Params) (k : Str) (t : Nat) (v : Value) : DictEntry := ⟨PyData.keyHash P k, .str k t, v⟩
noncomputable def a_0 (P : Params) : Obj := ⟨(.type "dict"), none, (.dict #[E P "__name__" 1 (.str "builtins" 160), E P "__doc__" 2 (.builtin "builtins.__doc__:str#opaque"), E P "__package__" 3 (.builtin "builtins.__package__:str#opaque"), E P "__loader__" 4 (.builtin "builtins.__loader__:shared#opaque"), E P "__spec__" 5 (.builtin "builtins.__spec__#opaque"), E P "__build_class__" 6 (.builtin "__build_class__"), E P "__import__" 7 (.builtin "__import__"), E P "abs" 8 (.builtin "abs"), E P "all" 9 (.builtin "all"), E P "any" 10 (.builtin "any"), E P "ascii" 11 (.builtin "ascii"), E P "bin" 12 (.builtin "bin"), E P "breakpoint" 13 (.builtin "breakpoint"), E P "callable" 14 (.builtin "callable"), E P "chr" 15 (.builtin "chr"), E P "compile" 16 (.builtin "compile"), E P "delattr" 17 (.builtin "delattr"), E P "dir" 18 (.builtin "dir"), E P "divmod" 19 (.builtin "divmod"), E P "eval" 20 (.builtin "eval"), E P "exec" 21 (.builtin "exec"), E P "format" 22 (.builtin "format"), E P "getattr" 23 (.builtin "getattr"), E P "globals" 24 (.builtin "globals"), E P "hasattr" 25 (.builtin "hasattr"), E P "hash" 26 (.builtin "hash"), E P "hex" 27 (.builtin "hex"), E P "id" 28 (.builtin "id"), E P "input" 29 (.builtin "input"), E P "isinstance" 30 (.builtin "isinstance"), E P "issubclass" 31 (.builtin "issubclass"), E P "iter" 32 (.builtin "iter"), E P "aiter" 33 (.builtin "aiter"), E P "len" 34 (.builtin "len"), E P "locals" 35 (.builtin "locals"), E P "max" 36 (.builtin "max"), E P "min" 37 (.builtin "min"), E P "next" 38 (.builtin "next"), E P "anext" 39 (.builtin "anext"), E P "oct" 40 (.builtin "oct"), E P "ord" 41 (.builtin "ord"), E P "pow" 42 (.builtin "pow"), E P "print" 43 (.builtin "print"), E P "repr" 44 (.builtin "repr"), E P "round" 45 (.builtin "round"), E P "setattr" 46 (.builtin "setattr"), E P "sorted" 47 (.builtin "sorted"), E P "sum" 48 (.builtin "sum"), E P "vars" 49 (.builtin "vars"), E P "None" 50 PySem.Value.none, E P "Ellipsis" 51 PySem.Value.ellipsis, E P "NotImplemented" 52 PySem.Value.notImplemented, E P "False" 53 (.bool Bool.false), E P "True" 54 (.bool Bool.true), E P "bool" 55 (.type "bool"), E P "memoryview" 56 (.type "memoryview"), E P "bytearray" 57 (.type "bytearray"), E P "bytes" 58 (.type "bytes"), E P "classmethod" 59 (.type "classmethod"), E P "complex" 60 (.type "complex"), E P "dict" 61 (.type "dict"), E P "enumerate" 62 (.type "enumerate"), E P "filter" 63 (.type "filter"), E P "float" 64 (.type "float"), E P "frozenset" 65 (.type "frozenset"), E P "property" 66 (.type "property"), E P "int" 67 (.type "int"), E P "list" 68 (.type "list"), E P "map" 69 (.type "map"), E P "object" 70 (.type "object"), E P "range" 71 (.type "range"), E P "reversed" 72 (.type "reversed"), E P "set" 73 (.type "set"), E P "slice" 74 (.type "slice"), E P "staticmethod" 75 (.type "staticmethod"), E P "str" 76 (.type "str"), E P "super" 77 (.type "super"), E P "tuple" 78 (.type "tuple"), E P "type" 79 (.type "type"), E P "zip" 80 (.type "zip"), E P "__debug__" 81 (.bool Bool.true), E P "BaseException" 82 (.type "BaseException"), E P "BaseExceptionGroup" 83 (.type "BaseExceptionGroup"), E P "Exception" 84 (.type "Exception"), E P "GeneratorExit" 85 (.type "GeneratorExit"), E P "KeyboardInterrupt" 86 (.type "KeyboardInterrupt"), E P "SystemExit" 87 (.type "SystemExit"), E P "ArithmeticError" 88 (.type "ArithmeticError"), E P "AssertionError" 89 (.type "AssertionError"), E P "AttributeError" 90 (.type "AttributeError"), E P "BufferError" 91 (.type "BufferError"), E P "EOFError" 92 (.type "EOFError"), E P "ImportError" 93 (.type "ImportError"), E P "LookupError" 94 (.type "LookupError"), E P "MemoryError" 95 (.type "MemoryError"), E P "NameError" 96 (.type "NameError"), E P "OSError" 97 (.type "OSError"), E P "ReferenceError" 98 (.type "ReferenceError"), E P "RuntimeError" 99 (.type "RuntimeError"), E P "StopAsyncIteration" 100 (.type "StopAsyncIteration"), E P "StopIteration" 101 (.type "StopIteration"), E P "SyntaxError" 102 (.type "SyntaxError"), E P "SystemError" 103 (.type "SystemError"), E P "TypeError" 104 (.type "TypeError"), E P "ValueError" 105 (.type "ValueError"), E P "Warning" 106 (.type "Warning"), E P "FloatingPointError" 107 (.type "FloatingPointError"), E P "OverflowError" 108 (.type "OverflowError"), E P "ZeroDivisionError" 109 (.type "ZeroDivisionError"), E P "BytesWarning" 110 (.type "BytesWarning"), E P "DeprecationWarning" 111 (.type "DeprecationWarning"), E P "EncodingWarning" 112 (.type "EncodingWarning"), E P "FutureWarning" 113 (.type "FutureWarning"), E P "ImportWarning" 114 (.type "ImportWarning"), E P "PendingDeprecationWarning" 115 (.type "PendingDeprecationWarning"), E P "ResourceWarning" 116 (.type "ResourceWarning"), E P "RuntimeWarning" 117 (.type "RuntimeWarning"), E P "SyntaxWarning" 118 (.type "SyntaxWarning"), E P "UnicodeWarning" 119 (.type "UnicodeWarning"), E P "UserWarning" 120 (.type "UserWarning"), E P "BlockingIOError" 121 (.type "BlockingIOError"), E P "ChildProcessError" 122 (.type "ChildProcessError"), E P "ConnectionError" 123 (.type "ConnectionError"), E P "FileExistsError" 124 (.type "FileExistsError"), E P "FileNotFoundError" 125 (.type "FileNotFoundError"), E P "InterruptedError" 126 (.type "InterruptedError"), E P "IsADirectoryError" 127 (.type "IsADirectoryError"), E P "NotADirectoryError" 128 (.type "NotADirectoryError"), E P "PermissionError" 129 (.type "PermissionError"), E P "ProcessLookupError" 130 (.type "ProcessLookupError"), E P "TimeoutError" 131 (.type "TimeoutError"), E P "IndentationError" 132 (.type "IndentationError"), E P "_IncompleteInputError" 133 (.type "_IncompleteInputError"), E P "IndexError" 134 (.type "IndexError"), E P "KeyError" 135 (.type "KeyError"), E P "ModuleNotFoundError" 136 (.type "ModuleNotFoundError"), E P "NotImplementedError" 137 (.type "NotImplementedError"), E P "PythonFinalizationError" 138 (.type "PythonFinalizationError"), E P "RecursionError" 139 (.type "RecursionError"), E P "UnboundLocalError" 140 (.type "UnboundLocalError"), E P "UnicodeError" 141 (.type "UnicodeError"), E P "BrokenPipeError" 142 (.type "BrokenPipeError"), E P "ConnectionAbortedError" 143 (.type "ConnectionAbortedError"), E P "ConnectionRefusedError" 144 (.type "ConnectionRefusedError"), E P "ConnectionResetError" 145 (.type "ConnectionResetError"), E P "TabError" 146 (.type "TabError"), E P "UnicodeDecodeError" 147 (.type "UnicodeDecodeError"), E P "UnicodeEncodeError" 148 (.type "UnicodeEncodeError"), E P "UnicodeTranslateError" 149 (.type "UnicodeTranslateError"), E P "ExceptionGroup" 150 (.type "ExceptionGroup"), E P "EnvironmentError" 151 (.type "OSError"), E P "IOError" 152 (.type "OSError"), E P "open" 153 (.builtin "open"), E P "quit" 154 (.builtin "builtins.quit#opaque"), E P "exit" 155 (.builtin "builtins.exit#opaque"), E P "copyright" 156 (.builtin "builtins.copyright#opaque"), E P "credits" 157 (.builtin "builtins.credits#opaque"), E P "license" 158 (.builtin "builtins.license#opaque"), E P "help" 159 (.builtin "builtins.help#opaque")] 159), #[]⟩
noncomputable def a_1 (P : Params) : Obj := ⟨(.type "dict"), none, (.dict #[E P "builtins" 162 (.ref 4), E P "__main__" 163 (.ref 5), E P "_sre" 244 (.ref 12)] 3), #[]⟩
noncomputable def a_2 (P : Params) : Obj := ⟨PySem.Value.none, none, (.dict #[E P "\x69mport.loaded._sre" 183 (.bool Bool.true), E P "class._frozen_importlib.BuiltinImporter" 185 (.ref 14), E P "watched.\x69mport" 206 (.ref 18), E P "class._frozen_importlib.ModuleSpec" 216 (.ref 22), E P "sys.modules.booked-epoch" 245 (.int 3 0), E P "\x69mport.later-laid._sre" 270 (.bool Bool.true), E P "watched.library" 272 (.ref 27), E P "watched.library-objects" 0 (.str ⟨#[12]⟩ 0), E P "watched.library-deep._sre" 273 (.str ⟨#[4, 0, 0, 11, 4, 0, 0, 11, 4, 0, 0, 3, 4, 0, 0, 11, 8, 4, 100, 105, 99, 116, 2]⟩ 0)] 9), #[]⟩
noncomputable def a_3 (P : Params) : Obj := ⟨(.type "dict"), none, (.dict #[E P "__name__" 165 (.str "__main__" 164), E P "__doc__" 166 PySem.Value.none, E P "__package__" 167 PySem.Value.none, E P "__loader__" 168 (.builtin "__main__.__loader__#opaque"), E P "__spec__" 169 PySem.Value.none, E P "__annotations__" 170 (.ref 6), E P "__builtins__" 171 (.ref 4), E P "__file__" 173 (.str "/claim/cut.py" 172), E P "__cached__" 174 PySem.Value.none, E P "_sre" 275 (.ref 12)] 10), #[]⟩
noncomputable def a_4 (P : Params) : Obj := ⟨(.type "module"), (some 0), PySem.Data.plain, #[]⟩
noncomputable def a_5 (P : Params) : Obj := ⟨(.type "module"), (some 3), PySem.Data.plain, #[]⟩
noncomputable def a_6 (P : Params) : Obj := ⟨(.type "dict"), none, (.dict #[] 0), #[]⟩
noncomputable def a_7 (P : Params) : Obj := ⟨(.type "tuple"), none, (.seq #[] 0), #[]⟩
noncomputable def a_8 (P : Params) : Obj := ⟨PySem.Value.none, none, (.fields #[]), #[]⟩
noncomputable def a_9 (P : Params) : Obj := ⟨(.type "code"), none, (.fields #[(.str "<module>" 176), (.str "<module>" 177), (.str "/claim/cut.py" 178), (.int 1 0), (.int 0 0), (.int 0 0), (.int 0 0), (.int 0 0), (.ref 7), (.bool Bool.false), (.int 175 0), (.ref 8), PySem.Value.none, PySem.Value.none, PySem.Value.none, PySem.Value.none, (.int 179 0), (.int 1 0), (.str "/claim/cut.py" 180)]), #[]⟩
noncomputable def a_10 (P : Params) : Obj := ⟨(.type "frame"), none, PySem.Data.plain, #[(some (.ref 9)), (some (.ref 3)), (some (.ref 3)), none, (some (.str "__main__" 164)), none, (some (.ref 0))]⟩
noncomputable def a_11 (P : Params) : Obj := ⟨(.type "dict"), none, (.dict #[E P "__name__" 247 (.str "_sre" 246), E P "__doc__" 248 PySem.Value.none, E P "__package__" 250 (.str "" 249), E P "__loader__" 251 (.ref 14), E P "__spec__" 252 (.ref 26), E P "compile" 253 (.builtin "_sre.compile"), E P "template" 254 (.builtin "_sre.template"), E P "getcodesize" 255 (.builtin "_sre.getcodesize"), E P "ascii_iscased" 256 (.builtin "_sre.ascii_iscased"), E P "unicode_iscased" 257 (.builtin "_sre.unicode_iscased"), E P "ascii_tolower" 258 (.builtin "_sre.ascii_tolower"), E P "unicode_tolower" 259 (.builtin "_sre.unicode_tolower"), E P "MAGIC" 261 (.int 20230612 260), E P "CODESIZE" 263 (.int 4 262), E P "MAXREPEAT" 265 (.int 4294967295 264), E P "MAXGROUPS" 267 (.int 1073741823 266), E P "copyright" 269 (.str " SRE 2.2.2 Copyright (c) 1997-2002 by Secret Labs AB " 268)] 17), #[]⟩
noncomputable def a_12 (P : Params) : Obj := ⟨(.type "module"), (some 11), PySem.Data.plain, #[]⟩
noncomputable def a_13 (P : Params) : Obj := ⟨(.type "dict"), none, (.dict #[E P "__module__" 189 (.str "_frozen_importlib" 186), E P "__firstlineno__" 190 (.int 971 187), E P "__doc__" 191 (.builtin "_frozen_importlib.BuiltinImporter.__doc__:str#opaque"), E P "_ORIGIN" 192 (.str "built-in" 188), E P "find_spec" 193 (.builtin "_frozen_importlib.BuiltinImporter.find_spec#opaque"), E P "create_module" 194 (.builtin "_frozen_importlib.BuiltinImporter.create_module#opaque"), E P "exec_module" 195 (.builtin "_frozen_importlib.BuiltinImporter.exec_module#opaque"), E P "get_code" 196 (.builtin "_frozen_importlib.BuiltinImporter.get_code#opaque"), E P "get_source" 197 (.builtin "_frozen_importlib.BuiltinImporter.get_source#opaque"), E P "is_package" 198 (.builtin "_frozen_importlib.BuiltinImporter.is_package#opaque"), E P "load_module" 199 (.builtin "_frozen_importlib.BuiltinImporter.load_module#opaque"), E P "__static_attributes__" 200 (.ref 15), E P "__dict__" 202 (.ref 16), E P "__weakref__" 204 (.ref 17)] 14), #[]⟩
noncomputable def a_14 (P : Params) : Obj := ⟨(.type "type"), none, (.cls (PySem.ClassData.mk "BuiltinImporter" [(.type "object")] [(.ref 14), (.type "object")] 13 "BuiltinImporter" Bool.true [] [] Bool.false none Bool.false)), #[]⟩
noncomputable def a_15 (P : Params) : Obj := ⟨(.type "tuple"), none, (.seq #[] 0), #[]⟩
noncomputable def a_16 (P : Params) : Obj := ⟨(.type "getset_descriptor"), none, (.fields #[(.str "__dict__" 201), (.ref 14), (.builtin "function.__dict__"), (.builtin "function.__dict__#set")]), #[]⟩
noncomputable def a_17 (P : Params) : Obj := ⟨(.type "getset_descriptor"), none, (.fields #[(.str "__weakref__" 203), (.ref 14), (.builtin "ExceptionGroup.__weakref__"), PySem.Value.none]), #[]⟩
noncomputable def a_18 (P : Params) : Obj := ⟨PySem.Value.none, none, (.seq #[(.int 13 0), (.str ⟨#[6, 189, 10, 95, 95, 109, 111, 100, 117, 108, 101, 95, 95, 6, 186, 17, 95, 102, 114, 111, 122, 101, 110, 95, 105, 109, 112, 111, 114, 116, 108, 105, 98, 6, 190, 15, 95, 95, 102, 105, 114, 115, 116, 108, 105, 110, 101, 110, 111, 95, 95, 4, 187, 0, 971, 6, 191, 7, 95, 95, 100, 111, 99, 95, 95, 9, 52, 95, 102, 114, 111, 122, 101, 110, 95, 105, 109, 112, 111, 114, 116, 108, 105, 98, 46, 66, 117, 105, 108, 116, 105, 110, 73, 109, 112, 111, 114, 116, 101, 114, 46, 95, 95, 100, 111, 99, 95, 95, 58, 115, 116, 114, 35, 111, 112, 97, 113, 117, 101, 6, 192, 7, 95, 79, 82, 73, 71, 73, 78, 6, 188, 8, 98, 117, 105, 108, 116, 45, 105, 110, 6, 193, 9, 102, 105, 110, 100, 95, 115, 112, 101, 99, 9, 50, 95, 102, 114, 111, 122, 101, 110, 95, 105, 109, 112, 111, 114, 116, 108, 105, 98, 46, 66, 117, 105, 108, 116, 105, 110, 73, 109, 112, 111, 114, 116, 101, 114, 46, 102, 105, 110, 100, 95, 115, 112, 101, 99, 35, 111, 112, 97, 113, 117, 101, 6, 194, 13, 99, 114, 101, 97, 116, 101, 95, 109, 111, 100, 117, 108, 101, 9, 54, 95, 102, 114, 111, 122, 101, 110, 95, 105, 109, 112, 111, 114, 116, 108, 105, 98, 46, 66, 117, 105, 108, 116, 105, 110, 73, 109, 112, 111, 114, 116, 101, 114, 46, 99, 114, 101, 97, 116, 101, 95, 109, 111, 100, 117, 108, 101, 35, 111, 112, 97, 113, 117, 101, 6, 195, 11, 101, 120, 101, 99, 95, 109, 111, 100, 117, 108, 101, 9, 52, 95, 102, 114, 111, 122, 101, 110, 95, 105, 109, 112, 111, 114, 116, 108, 105, 98, 46, 66, 117, 105, 108, 116, 105, 110, 73, 109, 112, 111, 114, 116, 101, 114, 46, 101, 120, 101, 99, 95, 109, 111, 100, 117, 108, 101, 35, 111, 112, 97, 113, 117, 101, 6, 196, 8, 103, 101, 116, 95, 99, 111, 100, 101, 9, 49, 95, 102, 114, 111, 122, 101, 110, 95, 105, 109, 112, 111, 114, 116, 108, 105, 98, 46, 66, 117, 105, 108, 116, 105, 110, 73, 109, 112, 111, 114, 116, 101, 114, 46, 103, 101, 116, 95, 99, 111, 100, 101, 35, 111, 112, 97, 113, 117, 101, 6, 197, 10, 103, 101, 116, 95, 115, 111, 117, 114, 99, 101, 9, 51, 95, 102, 114, 111, 122, 101, 110, 95, 105, 109, 112, 111, 114, 116, 108, 105, 98, 46, 66, 117, 105, 108, 116, 105, 110, 73, 109, 112, 111, 114, 116, 101, 114, 46, 103, 101, 116, 95, 115, 111, 117, 114, 99, 101, 35, 111, 112, 97, 113, 117, 101, 6, 198, 10, 105, 115, 95, 112, 97, 99, 107, 97, 103, 101, 9, 51, 95, 102, 114, 111, 122, 101, 110, 95, 105, 109, 112, 111, 114, 116, 108, 105, 98, 46, 66, 117, 105, 108, 116, 105, 110, 73, 109, 112, 111, 114, 116, 101, 114, 46, 105, 115, 95, 112, 97, 99, 107, 97, 103, 101, 35, 111, 112, 97, 113, 117, 101, 6, 199, 11, 108, 111, 97, 100, 95, 109, 111, 100, 117, 108, 101, 9, 52, 95, 102, 114, 111, 122, 101, 110, 95, 105, 109, 112, 111, 114, 116, 108, 105, 98, 46, 66, 117, 105, 108, 116, 105, 110, 73, 109, 112, 111, 114, 116, 101, 114, 46, 108, 111, 97, 100, 95, 109, 111, 100, 117, 108, 101, 35, 111, 112, 97, 113, 117, 101, 6, 200, 21, 95, 95, 115, 116, 97, 116, 105, 99, 95, 97, 116, 116, 114, 105, 98, 117, 116, 101, 115, 95, 95, 4, 0, 0, 15, 6, 202, 8, 95, 95, 100, 105, 99, 116, 95, 95, 4, 0, 0, 16, 6, 204, 11, 95, 95, 119, 101, 97, 107, 114, 101, 102, 95, 95, 4, 0, 0, 17]⟩ 0), (.bool Bool.true), (.bool Bool.true), (.str "" 205), (.int 21 0), (.str ⟨#[6, 227, 10, 95, 95, 109, 111, 100, 117, 108, 101, 95, 95, 6, 217, 17, 95, 102, 114, 111, 122, 101, 110, 95, 105, 109, 112, 111, 114, 116, 108, 105, 98, 6, 228, 15, 95, 95, 102, 105, 114, 115, 116, 108, 105, 110, 101, 110, 111, 95, 95, 4, 218, 0, 562, 6, 229, 7, 95, 95, 100, 111, 99, 95, 95, 9, 47, 95, 102, 114, 111, 122, 101, 110, 95, 105, 109, 112, 111, 114, 116, 108, 105, 98, 46, 77, 111, 100, 117, 108, 101, 83, 112, 101, 99, 46, 95, 95, 100, 111, 99, 95, 95, 58, 115, 116, 114, 35, 111, 112, 97, 113, 117, 101, 6, 230, 8, 95, 95, 105, 110, 105, 116, 95, 95, 9, 44, 95, 102, 114, 111, 122, 101, 110, 95, 105, 109, 112, 111, 114, 116, 108, 105, 98, 46, 77, 111, 100, 117, 108, 101, 83, 112, 101, 99, 46, 95, 95, 105, 110, 105, 116, 95, 95, 35, 111, 112, 97, 113, 117, 101, 6, 231, 8, 95, 95, 114, 101, 112, 114, 95, 95, 9, 44, 95, 102, 114, 111, 122, 101, 110, 95, 105, 109, 112, 111, 114, 116, 108, 105, 98, 46, 77, 111, 100, 117, 108, 101, 83, 112, 101, 99, 46, 95, 95, 114, 101, 112, 114, 95, 95, 35, 111, 112, 97, 113, 117, 101, 6, 232, 6, 95, 95, 101, 113, 95, 95, 9, 42, 95, 102, 114, 111, 122, 101, 110, 95, 105, 109, 112, 111, 114, 116, 108, 105, 98, 46, 77, 111, 100, 117, 108, 101, 83, 112, 101, 99, 46, 95, 95, 101, 113, 95, 95, 35, 111, 112, 97, 113, 117, 101, 6, 233, 6, 99, 97, 99, 104, 101, 100, 9, 42, 95, 102, 114, 111, 122, 101, 110, 95, 105, 109, 112, 111, 114, 116, 108, 105, 98, 46, 77, 111, 100, 117, 108, 101, 83, 112, 101, 99, 46, 99, 97, 99, 104, 101, 100, 35, 111, 112, 97, 113, 117, 101, 6, 234, 6, 112, 97, 114, 101, 110, 116, 9, 42, 95, 102, 114, 111, 122, 101, 110, 95, 105, 109, 112, 111, 114, 116, 108, 105, 98, 46, 77, 111, 100, 117, 108, 101, 83, 112, 101, 99, 46, 112, 97, 114, 101, 110, 116, 35, 111, 112, 97, 113, 117, 101, 6, 235, 12, 104, 97, 115, 95, 108, 111, 99, 97, 116, 105, 111, 110, 9, 48, 95, 102, 114, 111, 122, 101, 110, 95, 105, 109, 112, 111, 114, 116, 108, 105, 98, 46, 77, 111, 100, 117, 108, 101, 83, 112, 101, 99, 46, 104, 97, 115, 95, 108, 111, 99, 97, 116, 105, 111, 110, 35, 111, 112, 97, 113, 117, 101, 6, 236, 21, 95, 95, 115, 116, 97, 116, 105, 99, 95, 97, 116, 116, 114, 105, 98, 117, 116, 101, 115, 95, 95, 4, 0, 0, 23, 6, 238, 8, 95, 95, 100, 105, 99, 116, 95, 95, 4, 0, 0, 24, 6, 240, 11, 95, 95, 119, 101, 97, 107, 114, 101, 102, 95, 95, 4, 0, 0, 25, 6, 241, 8, 95, 95, 104, 97, 115, 104, 95, 95, 0]⟩ 0), (.bool Bool.true), (.bool Bool.true), (.str "" 242)] 1), #[]⟩
noncomputable def a_19 (P : Params) : Obj := ⟨(.type "list"), none, (.seq #[] 0), #[]⟩
noncomputable def a_20 (P : Params) : Obj := ⟨(.type "dict"), none, (.dict #[E P "name" 208 (.str "_sre" 207), E P "loader" 209 (.ref 14), E P "origin" 210 (.str "built-in" 184), E P "loader_state" 211 PySem.Value.none, E P "submodule_search_locations" 212 PySem.Value.none, E P "_uninitialized_submodules" 213 (.ref 19), E P "_set_fileattr" 214 (.bool Bool.false), E P "_cached" 215 PySem.Value.none, E P "_initializing" 243 (.bool Bool.false)] 9), #[]⟩
noncomputable def a_21 (P : Params) : Obj := ⟨(.type "dict"), none, (.dict #[E P "__module__" 227 (.str "_frozen_importlib" 217), E P "__firstlineno__" 228 (.int 562 218), E P "__doc__" 229 (.builtin "_frozen_importlib.ModuleSpec.__doc__:str#opaque"), E P "__init__" 230 (.builtin "_frozen_importlib.ModuleSpec.__init__#opaque"), E P "__repr__" 231 (.builtin "_frozen_importlib.ModuleSpec.__repr__#opaque"), E P "__eq__" 232 (.builtin "_frozen_importlib.ModuleSpec.__eq__#opaque"), E P "cached" 233 (.builtin "_frozen_importlib.ModuleSpec.cached#opaque"), E P "parent" 234 (.builtin "_frozen_importlib.ModuleSpec.parent#opaque"), E P "has_location" 235 (.builtin "_frozen_importlib.ModuleSpec.has_location#opaque"), E P "__static_attributes__" 236 (.ref 23), E P "__dict__" 238 (.ref 24), E P "__weakref__" 240 (.ref 25), E P "__hash__" 241 PySem.Value.none] 13), #[]⟩
noncomputable def a_22 (P : Params) : Obj := ⟨(.type "type"), none, (.cls (PySem.ClassData.mk "ModuleSpec" [(.type "object")] [(.ref 22), (.type "object")] 21 "ModuleSpec" Bool.true [] [] Bool.false none Bool.false)), #[]⟩
noncomputable def a_23 (P : Params) : Obj := ⟨(.type "tuple"), none, (.seq #[(.str "_cached" 219), (.str "_set_fileattr" 220), (.str "_uninitialized_submodules" 221), (.str "loader" 222), (.str "loader_state" 223), (.str "name" 224), (.str "origin" 225), (.str "submodule_search_locations" 226)] 0), #[]⟩
noncomputable def a_24 (P : Params) : Obj := ⟨(.type "getset_descriptor"), none, (.fields #[(.str "__dict__" 237), (.ref 22), (.builtin "function.__dict__"), (.builtin "function.__dict__#set")]), #[]⟩
noncomputable def a_25 (P : Params) : Obj := ⟨(.type "getset_descriptor"), none, (.fields #[(.str "__weakref__" 239), (.ref 22), (.builtin "ExceptionGroup.__weakref__"), PySem.Value.none]), #[]⟩
noncomputable def a_26 (P : Params) : Obj := ⟨(.ref 22), (some 20), PySem.Data.plain, #[]⟩
noncomputable def a_27 (P : Params) : Obj := ⟨PySem.Value.none, none, (.seq #[(.int 11 0), (.str (PySem.Str.mk #[6, 247, 8, 95, 95, 110, 97, 109, 101, 95, 95, 6, 246, 4, 95, 115, 114, 101, 6, 248, 7, 95, 95, 100, 111, 99, 95, 95, 0, 6, 250, 11, 95, 95, 112, 97, 99, 107, 97, 103, 101, 95, 95, 6, 249, 0, 6, 251, 10, 95, 95, 108, 111, 97, 100, 101, 114, 95, 95, 4, 0, 0, 14, 6, 252, 8, 95, 95, 115, 112, 101, 99, 95, 95, 4, 0, 0, 26, 6, 253, 7, 99, 111, 109, 112, 105, 108, 101, 9, 12, 95, 115, 114, 101, 46, 99, 111, 109, 112, 105, 108, 101, 6, 254, 8, 116, 101, 109, 112, 108, 97, 116, 101, 9, 13, 95, 115, 114, 101, 46, 116, 101, 109, 112, 108, 97, 116, 101, 6, 255, 11, 103, 101, 116, 99, 111, 100, 101, 115, 105, 122, 101, 9, 16, 95, 115, 114, 101, 46, 103, 101, 116, 99, 111, 100, 101, 115, 105, 122, 101, 6, 256, 13, 97, 115, 99, 105, 105, 95, 105, 115, 99, 97, 115, 101, 100, 9, 18, 95, 115, 114, 101, 46, 97, 115, 99, 105, 105, 95, 105, 115, 99, 97, 115, 101, 100, 6, 257, 15, 117, 110, 105, 99, 111, 100, 101, 95, 105, 115, 99, 97, 115, 101, 100, 9, 20, 95, 115, 114, 101, 46, 117, 110, 105, 99, 111, 100, 101, 95, 105, 115, 99, 97, 115, 101, 100, 6, 258, 13, 97, 115, 99, 105, 105, 95, 116, 111, 108, 111, 119, 101, 114, 9, 18, 95, 115, 114, 101, 46, 97, 115, 99, 105, 105, 95, 116, 111, 108, 111, 119, 101, 114, 6, 259, 15, 117, 110, 105, 99, 111, 100, 101, 95, 116, 111, 108, 111, 119, 101, 114, 9, 20, 95, 115, 114, 101, 46, 117, 110, 105, 99, 111, 100, 101, 95, 116, 111, 108, 111, 119, 101, 114, 6, 261, 5, 77, 65, 71, 73, 67, 4, 260, 0, 20230612, 6, 263, 8, 67, 79, 68, 69, 83, 73, 90, 69, 4, 262, 0, 4, 6, 265, 9, 77, 65, 88, 82, 69, 80, 69, 65, 84, 4, 264, 0, 4294967295, 6, 267, 9, 77, 65, 88, 71, 82, 79, 85, 80, 83, 4, 266, 0, 1073741823, 6, 269, 9, 99, 111, 112, 121, 114, 105, 103, 104, 116, 6, 268, 53, 32, 83, 82, 69, 32, 50, 46, 50, 46, 50, 32, 67, 111, 112, 121, 114, 105, 103, 104, 116, 32, 40, 99, 41, 32, 49, 57, 57, 55, 45, 50, 48, 48, 50, 32, 98, 121, 32, 83, 101, 99, 114, 101, 116, 32, 76, 97, 98, 115, 32, 65, 66, 32]) 0), (.bool Bool.true), (.bool Bool.false), (.str "_sre" 271)] 0), #[]⟩
noncomputable def lf : Life := (PySem.Life.mk [] [] [] 0 [] [] Bool.false #[] [] 0 Bool.false Bool.false Bool.false 0 [2000, 10, 10] Bool.false 0 Bool.true [] [] 0 Bool.false)
noncomputable def dn : Drawn := (PySem.Drawn.mk 0 0 0 0)
noncomputable def He (P : Params) : Heap := ⟨#[a_0 P, a_1 P, a_2 P, a_3 P, a_4 P, a_5 P, a_6 P, a_7 P, a_8 P, a_9 P, a_10 P, a_11 P, a_12 P, a_13 P, a_14 P, a_15 P, a_16 P, a_17 P, a_18 P, a_19 P, a_20 P, a_21 P, a_22 P, a_23 P, a_24 P, a_25 P, a_26 P, a_27 P], lf⟩
theorem imp_end (w : World) : importEnds treeTable (opening p0) w 1000 (start (opening p0)).1 (start (opening p0)).2 = some ⟨He w.params, #[], dn, 276, (start (opening p0)).1.os⟩ := by kernel_rfl!
end Mine
end
section
open PySem PySem.W PyProof.Rows PySem.Calls
set_option maxRecDepth 100000
set_option linter.unusedVariables false
namespace Mine
noncomputable def f_11 (P : Params) : Obj := ⟨(.type "dict"), none, (.dict #[E P "__name__" 247 (.str "_sre" 246), E P "__doc__" 248 PySem.Value.none, E P "__package__" 250 (.str "" 249), E P "__loader__" 251 (.builtin "off-the-table:_sre.__loader__:shared#opaque"), E P "__spec__" 252 (.builtin "off-the-table:_sre.__spec__:shared#opaque"), E P "compile" 253 (.builtin "_sre.compile"), E P "template" 254 (.builtin "off-the-table:_sre.template:shared#opaque"), E P "getcodesize" 255 (.builtin "off-the-table:_sre.getcodesize:shared#opaque"), E P "ascii_iscased" 256 (.builtin "off-the-table:_sre.ascii_iscased:shared#opaque"), E P "unicode_iscased" 257 (.builtin "off-the-table:_sre.unicode_iscased:shared#opaque"), E P "ascii_tolower" 258 (.builtin "off-the-table:_sre.ascii_tolower:shared#opaque"), E P "unicode_tolower" 259 (.builtin "off-the-table:_sre.unicode_tolower:shared#opaque"), E P "MAGIC" 261 (.int 20230612 260), E P "CODESIZE" 263 (.int 4 262), E P "MAXREPEAT" 265 (.int 4294967295 264), E P "MAXGROUPS" 267 (.int 1073741823 266), E P "copyright" 269 (.str " SRE 2.2.2 Copyright (c) 1997-2002 by Secret Labs AB " 268)] 17), #[]⟩
noncomputable def lff : Life := (PySem.Life.mk [] [] [] 0 [] [] Bool.false #[] [] 0 Bool.false Bool.false Bool.false 0 [2000, 10, 10] Bool.false 0 Bool.true [] [] 0 Bool.false)
noncomputable def dnf : Drawn := (PySem.Drawn.mk 0 0 0 0)
noncomputable def Hf (P : Params) : Heap := ⟨#[a_0 P, a_1 P, a_2 P, a_3 P, a_4 P, a_5 P, a_6 P, a_7 P, a_8 P, a_9 P, a_10 P, f_11 P, a_12 P, a_13 P, a_14 P, a_15 P, a_16 P, a_17 P, a_18 P, a_19 P, a_20 P, a_21 P, a_22 P, a_23 P, a_24 P, a_25 P, a_26 P, a_27 P], lff⟩
noncomputable abbrev Sf (w : World) (os : OsState) : Shared := ⟨Hf w.params, #[], dnf, 276, os⟩
noncomputable def p_28 (P : Params) : Obj := ⟨(.type "tuple"), none, (.seq #[] 0), #[]⟩
noncomputable def p_29 (P : Params) : Obj := ⟨PySem.Value.none, none, (.fields #[]), #[]⟩
noncomputable def p_30 (P : Params) : Obj := ⟨(.type "code"), none, (.fields #[(.str "<module>" 277), (.str "<module>" 278), (.str "/claim/cut.py" 279), (.int 1 0), (.int 0 0), (.int 0 0), (.int 0 0), (.int 0 0), (.ref 28), (.bool Bool.false), (.int 276 0), (.ref 29), PySem.Value.none, PySem.Value.none, PySem.Value.none, PySem.Value.none, (.int 280 0), (.int 1 0), (.str "/claim/cut.py" 281)]), #[]⟩
noncomputable def p_31 (P : Params) : Obj := ⟨(.type "frame"), none, PySem.Data.plain, #[(some (.ref 30)), (some (.ref 3)), (some (.ref 3)), none, (some (.str "__main__" 164)), none, (some (.ref 0))]⟩
noncomputable def lfp : Life := (PySem.Life.mk [] [] [] 0 [] [] Bool.false #[] [] 0 Bool.false Bool.false Bool.false 0 [2000, 10, 10] Bool.false 0 Bool.true [] [] 0 Bool.false)
noncomputable def dnp : Drawn := (PySem.Drawn.mk 0 0 0 0)
noncomputable def Hp (P : Params) : Heap := ⟨#[a_0 P, a_1 P, a_2 P, a_3 P, a_4 P, a_5 P, a_6 P, a_7 P, a_8 P, a_9 P, a_10 P, f_11 P, a_12 P, a_13 P, a_14 P, a_15 P, a_16 P, a_17 P, a_18 P, a_19 P, a_20 P, a_21 P, a_22 P, a_23 P, a_24 P, a_25 P, a_26 P, a_27 P, p_28 P, p_29 P, p_30 P, p_31 P], lfp⟩
noncomputable abbrev Sp (w : World) (os : OsState) : Shared := ⟨Hp w.params, #[], dnp, 282, os⟩
noncomputable def lfq : Life := (PySem.Life.mk [] [] [] 0 [] [] Bool.false #[] [] 0 Bool.false Bool.false Bool.false 0 [2000, 10, 10] Bool.false 0 Bool.true [] [] 0 Bool.false)
noncomputable def dnq : Drawn := (PySem.Drawn.mk 0 0 0 0)
noncomputable def Hq (P : Params) : Heap := ⟨#[a_0 P, a_1 P, a_2 P, a_3 P, a_4 P, a_5 P, a_6 P, a_7 P, a_8 P, a_9 P, a_10 P, f_11 P, a_12 P, a_13 P, a_14 P, a_15 P, a_16 P, a_17 P, a_18 P, a_19 P, a_20 P, a_21 P, a_22 P, a_23 P, a_24 P, a_25 P, a_26 P, a_27 P, p_28 P, p_29 P, p_30 P, p_31 P], lfq⟩
noncomputable abbrev Sq (w : World) (os : OsState) : Shared := ⟨Hq w.params, #[], dnq, 282, os⟩
noncomputable def r0_3 (P : Params) : Obj := ⟨(.type "dict"), none, (.dict #[E P "__name__" 165 (.str "cpy313.smtplib" 362), E P "__doc__" 166 PySem.Value.none, E P "__package__" 167 PySem.Value.none, E P "__loader__" 168 (.builtin "__main__.__loader__#opaque"), E P "__spec__" 169 PySem.Value.none, E P "__annotations__" 170 (.ref 6), E P "__builtins__" 171 (.ref 4), E P "__file__" 173 (.str "/claim/cut.py" 172), E P "__cached__" 174 PySem.Value.none, E P "_sre" 275 (.ref 12), E P "lt" 291 (.ref 38), E P "le" 299 (.ref 45), E P "ge" 307 (.ref 52), E P "gt" 315 (.ref 59), E P "concat" 324 (.ref 66), E P "countOf" 334 (.ref 73), E P "getitem" 342 (.ref 80), E P "indexOf" 352 (.ref 87), E P "setitem" 361 (.ref 94), E P "_twin_re_1" 379 (.ref 99), E P "_twin_re_2" 421 (.ref 104), E P "CRLF" 423 (.str ⟨#[13, 10]⟩ 422), E P "quotedata" 430 (.ref 111), E P "_fix_eols" 437 (.ref 118)] 24), #[]⟩
noncomputable def r0_29 (P : Params) : Obj := ⟨PySem.Value.none, none, (.fields #[(.int 3 0), (.int 0 0), (.ref 37), (.int 5 0), (.int 0 0), (.ref 44), (.int 7 0), (.int 0 0), (.ref 51), (.int 9 0), (.int 0 0), (.ref 58), (.int 11 0), (.int 0 0), (.ref 65), (.int 16 0), (.int 0 0), (.ref 72), (.int 22 0), (.int 0 0), (.ref 79), (.int 24 0), (.int 0 0), (.ref 86), (.int 30 0), (.int 0 0), (.ref 93), (.int 36 0), (.int 0 0), (.ref 110), (.int 38 0), (.int 0 0), (.ref 117)]), #[]⟩
noncomputable def r0_32 (P : Params) : Obj := ⟨(.type "tuple"), none, (.seq #[] 0), #[]⟩
noncomputable def r0_33 (P : Params) : Obj := ⟨PySem.Value.none, none, (.fields #[]), #[]⟩
noncomputable def r0_34 (P : Params) : Obj := ⟨(.type "tuple"), none, (.seq #[(.str "a" 287), (.str "b" 288)] 0), #[]⟩
noncomputable def r0_35 (P : Params) : Obj := ⟨(.type "tuple"), none, (.seq #[] 0), #[]⟩
noncomputable def r0_36 (P : Params) : Obj := ⟨PySem.Value.none, none, .func ⟨(nmAt 2), (nmAt 2), (paAt 2), (.stmts (bdAt 2)), (scAt 2), 0, [], PySem.Value.none, PySem.Value.none, PySem.Value.none, PySem.Value.none, none, PySem.Value.none, PySem.Value.none, 0⟩, #[]⟩
noncomputable def r0_37 (P : Params) : Obj := ⟨(.type "code"), none, (.fields #[(.str "lt" 284), (.str "lt" 285), (.str "/claim/cut.py" 286), (.int 3 0), (.int 2 0), (.int 0 0), (.int 0 0), (.int 3 0), (.ref 32), (.bool Bool.true), (.int 276 0), (.ref 33), PySem.Value.none, (.ref 34), (.ref 35), (.ref 36), (.int 289 0), (.int 3 0), (.str "/claim/cut.py" 290)]), #[]⟩
noncomputable def r0_38 (P : Params) : Obj := ⟨(.type "function"), none, .func (docDef (nmAt 2) (paAt 2) (bdAt 2) (scAt 2) (.str "cpy313.operator" 282) (.ref 37) PySem.Value.none), #[]⟩
noncomputable def r0_39 (P : Params) : Obj := ⟨(.type "tuple"), none, (.seq #[] 0), #[]⟩
noncomputable def r0_40 (P : Params) : Obj := ⟨PySem.Value.none, none, (.fields #[]), #[]⟩
noncomputable def r0_41 (P : Params) : Obj := ⟨(.type "tuple"), none, (.seq #[(.str "a" 295), (.str "b" 296)] 0), #[]⟩
noncomputable def r0_42 (P : Params) : Obj := ⟨(.type "tuple"), none, (.seq #[] 0), #[]⟩
noncomputable def r0_43 (P : Params) : Obj := ⟨PySem.Value.none, none, .func ⟨(nmAt 3), (nmAt 3), (paAt 3), (.stmts (bdAt 3)), (scAt 3), 0, [], PySem.Value.none, PySem.Value.none, PySem.Value.none, PySem.Value.none, none, PySem.Value.none, PySem.Value.none, 0⟩, #[]⟩
noncomputable def r0_44 (P : Params) : Obj := ⟨(.type "code"), none, (.fields #[(.str "le" 292), (.str "le" 293), (.str "/claim/cut.py" 294), (.int 5 0), (.int 2 0), (.int 0 0), (.int 0 0), (.int 3 0), (.ref 39), (.bool Bool.true), (.int 276 0), (.ref 40), PySem.Value.none, (.ref 41), (.ref 42), (.ref 43), (.int 297 0), (.int 5 0), (.str "/claim/cut.py" 298)]), #[]⟩
noncomputable def r0_45 (P : Params) : Obj := ⟨(.type "function"), none, .func (docDef (nmAt 3) (paAt 3) (bdAt 3) (scAt 3) (.str "cpy313.operator" 282) (.ref 44) PySem.Value.none), #[]⟩
noncomputable def r0_46 (P : Params) : Obj := ⟨(.type "tuple"), none, (.seq #[] 0), #[]⟩
noncomputable def r0_47 (P : Params) : Obj := ⟨PySem.Value.none, none, (.fields #[]), #[]⟩
noncomputable def r0_48 (P : Params) : Obj := ⟨(.type "tuple"), none, (.seq #[(.str "a" 303), (.str "b" 304)] 0), #[]⟩
noncomputable def r0_49 (P : Params) : Obj := ⟨(.type "tuple"), none, (.seq #[] 0), #[]⟩
noncomputable def r0_50 (P : Params) : Obj := ⟨PySem.Value.none, none, .func ⟨(nmAt 4), (nmAt 4), (paAt 4), (.stmts (bdAt 4)), (scAt 4), 0, [], PySem.Value.none, PySem.Value.none, PySem.Value.none, PySem.Value.none, none, PySem.Value.none, PySem.Value.none, 0⟩, #[]⟩
noncomputable def r0_51 (P : Params) : Obj := ⟨(.type "code"), none, (.fields #[(.str "ge" 300), (.str "ge" 301), (.str "/claim/cut.py" 302), (.int 7 0), (.int 2 0), (.int 0 0), (.int 0 0), (.int 3 0), (.ref 46), (.bool Bool.true), (.int 276 0), (.ref 47), PySem.Value.none, (.ref 48), (.ref 49), (.ref 50), (.int 305 0), (.int 7 0), (.str "/claim/cut.py" 306)]), #[]⟩
noncomputable def r0_52 (P : Params) : Obj := ⟨(.type "function"), none, .func (docDef (nmAt 4) (paAt 4) (bdAt 4) (scAt 4) (.str "cpy313.operator" 282) (.ref 51) PySem.Value.none), #[]⟩
noncomputable def r0_53 (P : Params) : Obj := ⟨(.type "tuple"), none, (.seq #[] 0), #[]⟩
noncomputable def r0_54 (P : Params) : Obj := ⟨PySem.Value.none, none, (.fields #[]), #[]⟩
noncomputable def r0_55 (P : Params) : Obj := ⟨(.type "tuple"), none, (.seq #[(.str "a" 311), (.str "b" 312)] 0), #[]⟩
noncomputable def r0_56 (P : Params) : Obj := ⟨(.type "tuple"), none, (.seq #[] 0), #[]⟩
noncomputable def r0_57 (P : Params) : Obj := ⟨PySem.Value.none, none, .func ⟨(nmAt 5), (nmAt 5), (paAt 5), (.stmts (bdAt 5)), (scAt 5), 0, [], PySem.Value.none, PySem.Value.none, PySem.Value.none, PySem.Value.none, none, PySem.Value.none, PySem.Value.none, 0⟩, #[]⟩
noncomputable def r0_58 (P : Params) : Obj := ⟨(.type "code"), none, (.fields #[(.str "gt" 308), (.str "gt" 309), (.str "/claim/cut.py" 310), (.int 9 0), (.int 2 0), (.int 0 0), (.int 0 0), (.int 3 0), (.ref 53), (.bool Bool.true), (.int 276 0), (.ref 54), PySem.Value.none, (.ref 55), (.ref 56), (.ref 57), (.int 313 0), (.int 9 0), (.str "/claim/cut.py" 314)]), #[]⟩
noncomputable def r0_59 (P : Params) : Obj := ⟨(.type "function"), none, .func (docDef (nmAt 5) (paAt 5) (bdAt 5) (scAt 5) (.str "cpy313.operator" 282) (.ref 58) PySem.Value.none), #[]⟩
noncomputable def r0_60 (P : Params) : Obj := ⟨(.type "tuple"), none, (.seq #[] 0), #[]⟩
noncomputable def r0_61 (P : Params) : Obj := ⟨PySem.Value.none, none, (.fields #[]), #[]⟩
noncomputable def r0_62 (P : Params) : Obj := ⟨(.type "tuple"), none, (.seq #[(.str "a" 319), (.str "b" 320), (.str "msg" 321)] 0), #[]⟩
noncomputable def r0_63 (P : Params) : Obj := ⟨(.type "tuple"), none, (.seq #[] 0), #[]⟩
noncomputable def r0_64 (P : Params) : Obj := ⟨PySem.Value.none, none, .func ⟨(nmAt 6), (nmAt 6), (paAt 6), (.stmts (bdAt 6)), (scAt 6), 0, [], PySem.Value.none, PySem.Value.none, PySem.Value.none, PySem.Value.none, none, PySem.Value.none, PySem.Value.none, 0⟩, #[]⟩
noncomputable def r0_65 (P : Params) : Obj := ⟨(.type "code"), none, (.fields #[(.str "concat" 316), (.str "concat" 317), (.str "/claim/cut.py" 318), (.int 11 0), (.int 2 0), (.int 0 0), (.int 0 0), (.int 3 0), (.ref 60), (.bool Bool.true), (.int 276 0), (.ref 61), PySem.Value.none, (.ref 62), (.ref 63), (.ref 64), (.int 322 0), (.int 11 0), (.str "/claim/cut.py" 323)]), #[]⟩
noncomputable def r0_66 (P : Params) : Obj := ⟨(.type "function"), none, .func (docDef (nmAt 6) (paAt 6) (bdAt 6) (scAt 6) (.str "cpy313.operator" 282) (.ref 65) PySem.Value.none), #[]⟩
noncomputable def r0_67 (P : Params) : Obj := ⟨(.type "tuple"), none, (.seq #[] 0), #[]⟩
noncomputable def r0_68 (P : Params) : Obj := ⟨PySem.Value.none, none, (.fields #[]), #[]⟩
noncomputable def r0_69 (P : Params) : Obj := ⟨(.type "tuple"), none, (.seq #[(.str "a" 328), (.str "b" 329), (.str "count" 330), (.str "i" 331)] 0), #[]⟩
noncomputable def r0_70 (P : Params) : Obj := ⟨(.type "tuple"), none, (.seq #[] 0), #[]⟩
noncomputable def r0_71 (P : Params) : Obj := ⟨PySem.Value.none, none, .func ⟨(nmAt 7), (nmAt 7), (paAt 7), (.stmts (bdAt 7)), (scAt 7), 0, [], PySem.Value.none, PySem.Value.none, PySem.Value.none, PySem.Value.none, none, PySem.Value.none, PySem.Value.none, 0⟩, #[]⟩
noncomputable def r0_72 (P : Params) : Obj := ⟨(.type "code"), none, (.fields #[(.str "countOf" 325), (.str "countOf" 326), (.str "/claim/cut.py" 327), (.int 16 0), (.int 2 0), (.int 0 0), (.int 0 0), (.int 3 0), (.ref 67), (.bool Bool.true), (.int 276 0), (.ref 68), PySem.Value.none, (.ref 69), (.ref 70), (.ref 71), (.int 332 0), (.int 16 0), (.str "/claim/cut.py" 333)]), #[]⟩
noncomputable def r0_73 (P : Params) : Obj := ⟨(.type "function"), none, .func (docDef (nmAt 7) (paAt 7) (bdAt 7) (scAt 7) (.str "cpy313.operator" 282) (.ref 72) PySem.Value.none), #[]⟩
noncomputable def r0_74 (P : Params) : Obj := ⟨(.type "tuple"), none, (.seq #[] 0), #[]⟩
noncomputable def r0_75 (P : Params) : Obj := ⟨PySem.Value.none, none, (.fields #[]), #[]⟩
noncomputable def r0_76 (P : Params) : Obj := ⟨(.type "tuple"), none, (.seq #[(.str "a" 338), (.str "b" 339)] 0), #[]⟩
noncomputable def r0_77 (P : Params) : Obj := ⟨(.type "tuple"), none, (.seq #[] 0), #[]⟩
noncomputable def r0_78 (P : Params) : Obj := ⟨PySem.Value.none, none, .func ⟨(nmAt 8), (nmAt 8), (paAt 8), (.stmts (bdAt 8)), (scAt 8), 0, [], PySem.Value.none, PySem.Value.none, PySem.Value.none, PySem.Value.none, none, PySem.Value.none, PySem.Value.none, 0⟩, #[]⟩
noncomputable def r0_79 (P : Params) : Obj := ⟨(.type "code"), none, (.fields #[(.str "getitem" 335), (.str "getitem" 336), (.str "/claim/cut.py" 337), (.int 22 0), (.int 2 0), (.int 0 0), (.int 0 0), (.int 3 0), (.ref 74), (.bool Bool.true), (.int 276 0), (.ref 75), PySem.Value.none, (.ref 76), (.ref 77), (.ref 78), (.int 340 0), (.int 22 0), (.str "/claim/cut.py" 341)]), #[]⟩
noncomputable def r0_80 (P : Params) : Obj := ⟨(.type "function"), none, .func (docDef (nmAt 8) (paAt 8) (bdAt 8) (scAt 8) (.str "cpy313.operator" 282) (.ref 79) PySem.Value.none), #[]⟩
noncomputable def r0_81 (P : Params) : Obj := ⟨(.type "tuple"), none, (.seq #[] 0), #[]⟩
noncomputable def r0_82 (P : Params) : Obj := ⟨PySem.Value.none, none, (.fields #[]), #[]⟩
noncomputable def r0_83 (P : Params) : Obj := ⟨(.type "tuple"), none, (.seq #[(.str "a" 346), (.str "b" 347), (.str "i" 348), (.str "j" 349)] 0), #[]⟩
noncomputable def r0_84 (P : Params) : Obj := ⟨(.type "tuple"), none, (.seq #[] 0), #[]⟩
noncomputable def r0_85 (P : Params) : Obj := ⟨PySem.Value.none, none, .func ⟨(nmAt 9), (nmAt 9), (paAt 9), (.stmts (bdAt 9)), (scAt 9), 0, [], PySem.Value.none, PySem.Value.none, PySem.Value.none, PySem.Value.none, none, PySem.Value.none, PySem.Value.none, 0⟩, #[]⟩
noncomputable def r0_86 (P : Params) : Obj := ⟨(.type "code"), none, (.fields #[(.str "indexOf" 343), (.str "indexOf" 344), (.str "/claim/cut.py" 345), (.int 24 0), (.int 2 0), (.int 0 0), (.int 0 0), (.int 3 0), (.ref 81), (.bool Bool.true), (.int 276 0), (.ref 82), PySem.Value.none, (.ref 83), (.ref 84), (.ref 85), (.int 350 0), (.int 24 0), (.str "/claim/cut.py" 351)]), #[]⟩
noncomputable def r0_87 (P : Params) : Obj := ⟨(.type "function"), none, .func (docDef (nmAt 9) (paAt 9) (bdAt 9) (scAt 9) (.str "cpy313.operator" 282) (.ref 86) PySem.Value.none), #[]⟩
noncomputable def r0_88 (P : Params) : Obj := ⟨(.type "tuple"), none, (.seq #[] 0), #[]⟩
noncomputable def r0_89 (P : Params) : Obj := ⟨PySem.Value.none, none, (.fields #[]), #[]⟩
noncomputable def r0_90 (P : Params) : Obj := ⟨(.type "tuple"), none, (.seq #[(.str "a" 356), (.str "b" 357), (.str "c" 358)] 0), #[]⟩
noncomputable def r0_91 (P : Params) : Obj := ⟨(.type "tuple"), none, (.seq #[] 0), #[]⟩
noncomputable def r0_92 (P : Params) : Obj := ⟨PySem.Value.none, none, .func ⟨(nmAt 10), (nmAt 10), (paAt 10), (.stmts (bdAt 10)), (scAt 10), 0, [], PySem.Value.none, PySem.Value.none, PySem.Value.none, PySem.Value.none, none, PySem.Value.none, PySem.Value.none, 0⟩, #[]⟩
noncomputable def r0_93 (P : Params) : Obj := ⟨(.type "code"), none, (.fields #[(.str "setitem" 353), (.str "setitem" 354), (.str "/claim/cut.py" 355), (.int 30 0), (.int 3 0), (.int 0 0), (.int 0 0), (.int 3 0), (.ref 88), (.bool Bool.true), (.int 276 0), (.ref 89), PySem.Value.none, (.ref 90), (.ref 91), (.ref 92), (.int 359 0), (.int 30 0), (.str "/claim/cut.py" 360)]), #[]⟩
noncomputable def r0_94 (P : Params) : Obj := ⟨(.type "function"), none, .func (docDef (nmAt 10) (paAt 10) (bdAt 10) (scAt 10) (.str "cpy313.operator" 282) (.ref 93) PySem.Value.none), #[]⟩
noncomputable def r0_95 (P : Params) : Obj := ⟨(.type "list"), none, (.seq #[(.int 14 367), (.int 4 368), (.int 0 369), (.int 1 370), (.int 1 371), (.int 6 372), (.int 1 373), (.int 16 374), (.int 46 375), (.int 1 376)] 0), #[]⟩
noncomputable def r0_96 (P : Params) : Obj := ⟨(.type "dict"), none, (.dict #[] 0), #[]⟩
noncomputable def r0_97 (P : Params) : Obj := ⟨(.type "tuple"), none, (.seq #[PySem.Value.none] 0), #[]⟩
noncomputable def r0_98 (P : Params) : Obj := ⟨(.type "tuple"), none, (.seq #[(.int 14 0), (.int 4 0), (.int 0 0), (.int 1 0), (.int 1 0), (.int 6 0), (.int 1 0), (.int 16 0), (.int 46 0), (.int 1 0)] 0), #[]⟩
noncomputable def r0_99 (P : Params) : Obj := ⟨(.type "re.Pattern"), none, (.fields #[(.str "(?m)^\\." 365), (.int 40 378), (.int 0 0), PySem.Value.none, PySem.Value.none, (.ref 98), (.int 0 0)]), #[]⟩
noncomputable def r0_100 (P : Params) : Obj := ⟨(.type "list"), none, (.seq #[(.int 14 383), (.int 9 384), (.int 4 385), (.int 1 386), (.int 2 387), (.int 16 388), (.int 10 389), (.int 16 390), (.int 13 391), (.int 0 392), (.int 7 393), (.int 7 394), (.int 16 395), (.int 13 396), (.int 16 397), (.int 10 398), (.int 15 399), (.int 18 400), (.int 5 401), (.int 16 402), (.int 10 403), (.int 15 404), (.int 13 405), (.int 11 406), (.int 16 407), (.int 13 408), (.int 5 409), (.int 5 410), (.int 0 411), (.int 16 412), (.int 10 413), (.int 1 414), (.int 15 415), (.int 2 416), (.int 0 417), (.int 1 418)] 0), #[]⟩
noncomputable def r0_101 (P : Params) : Obj := ⟨(.type "dict"), none, (.dict #[] 0), #[]⟩
noncomputable def r0_102 (P : Params) : Obj := ⟨(.type "tuple"), none, (.seq #[PySem.Value.none] 0), #[]⟩
noncomputable def r0_103 (P : Params) : Obj := ⟨(.type "tuple"), none, (.seq #[(.int 14 0), (.int 9 0), (.int 4 0), (.int 1 0), (.int 2 0), (.int 16 0), (.int 10 0), (.int 16 0), (.int 13 0), (.int 0 0), (.int 7 0), (.int 7 0), (.int 16 0), (.int 13 0), (.int 16 0), (.int 10 0), (.int 15 0), (.int 18 0), (.int 5 0), (.int 16 0), (.int 10 0), (.int 15 0), (.int 13 0), (.int 11 0), (.int 16 0), (.int 13 0), (.int 5 0), (.int 5 0), (.int 0 0), (.int 16 0), (.int 10 0), (.int 1 0), (.int 15 0), (.int 2 0), (.int 0 0), (.int 1 0)] 0), #[]⟩
noncomputable def r0_104 (P : Params) : Obj := ⟨(.type "re.Pattern"), none, (.fields #[(.str "(?:\\r\\n|\\n|\\r(?!\\n))" 381), (.int 32 420), (.int 0 0), PySem.Value.none, PySem.Value.none, (.ref 103), (.int 0 0)]), #[]⟩
noncomputable def r0_105 (P : Params) : Obj := ⟨(.type "tuple"), none, (.seq #[] 0), #[]⟩
noncomputable def r0_106 (P : Params) : Obj := ⟨PySem.Value.none, none, (.fields #[]), #[]⟩
noncomputable def r0_107 (P : Params) : Obj := ⟨(.type "tuple"), none, (.seq #[(.str "data" 427)] 0), #[]⟩
noncomputable def r0_108 (P : Params) : Obj := ⟨(.type "tuple"), none, (.seq #[] 0), #[]⟩
noncomputable def r0_109 (P : Params) : Obj := ⟨PySem.Value.none, none, .func ⟨(nmAt 15), (nmAt 15), (paAt 15), (.stmts (bdAt 15)), (scAt 15), 0, [], PySem.Value.none, PySem.Value.none, PySem.Value.none, PySem.Value.none, none, PySem.Value.none, PySem.Value.none, 0⟩, #[]⟩
noncomputable def r0_110 (P : Params) : Obj := ⟨(.type "code"), none, (.fields #[(.str "quotedata" 424), (.str "quotedata" 425), (.str "/claim/cut.py" 426), (.int 36 0), (.int 1 0), (.int 0 0), (.int 0 0), (.int 3 0), (.ref 105), (.bool Bool.true), (.int 276 0), (.ref 106), PySem.Value.none, (.ref 107), (.ref 108), (.ref 109), (.int 428 0), (.int 36 0), (.str "/claim/cut.py" 429)]), #[]⟩
noncomputable def r0_111 (P : Params) : Obj := ⟨(.type "function"), none, .func (docDef (nmAt 15) (paAt 15) (bdAt 15) (scAt 15) (.str "cpy313.smtplib" 362) (.ref 110) PySem.Value.none), #[]⟩
noncomputable def r0_112 (P : Params) : Obj := ⟨(.type "tuple"), none, (.seq #[] 0), #[]⟩
noncomputable def r0_113 (P : Params) : Obj := ⟨PySem.Value.none, none, (.fields #[]), #[]⟩
noncomputable def r0_114 (P : Params) : Obj := ⟨(.type "tuple"), none, (.seq #[(.str "data" 434)] 0), #[]⟩
noncomputable def r0_115 (P : Params) : Obj := ⟨(.type "tuple"), none, (.seq #[] 0), #[]⟩
noncomputable def r0_116 (P : Params) : Obj := ⟨PySem.Value.none, none, .func ⟨(nmAt 16), (nmAt 16), (paAt 16), (.stmts (bdAt 16)), (scAt 16), 0, [], PySem.Value.none, PySem.Value.none, PySem.Value.none, PySem.Value.none, none, PySem.Value.none, PySem.Value.none, 0⟩, #[]⟩
noncomputable def r0_117 (P : Params) : Obj := ⟨(.type "code"), none, (.fields #[(.str "_fix_eols" 431), (.str "_fix_eols" 432), (.str "/claim/cut.py" 433), (.int 38 0), (.int 1 0), (.int 0 0), (.int 0 0), (.int 3 0), (.ref 112), (.bool Bool.true), (.int 276 0), (.ref 113), PySem.Value.none, (.ref 114), (.ref 115), (.ref 116), (.int 435 0), (.int 38 0), (.str "/claim/cut.py" 436)]), #[]⟩
noncomputable def r0_118 (P : Params) : Obj := ⟨(.type "function"), none, .func (docDef (nmAt 16) (paAt 16) (bdAt 16) (scAt 16) (.str "cpy313.smtplib" 362) (.ref 117) PySem.Value.none), #[]⟩
noncomputable def lfr0 : Life := (PySem.Life.mk [] [] [] 0 [] [] Bool.false #[] [] 0 Bool.false Bool.false Bool.false 0 [2000, 10, 10] Bool.false 0 Bool.true [] [] 0 Bool.false)
noncomputable def dnr0 : Drawn := (PySem.Drawn.mk 0 0 0 0)
noncomputable def Hr0 (P : Params) : Heap := ⟨#[a_0 P, a_1 P, a_2 P, r0_3 P, a_4 P, a_5 P, a_6 P, a_7 P, a_8 P, a_9 P, a_10 P, f_11 P, a_12 P, a_13 P, a_14 P, a_15 P, a_16 P, a_17 P, a_18 P, a_19 P, a_20 P, a_21 P, a_22 P, a_23 P, a_24 P, a_25 P, a_26 P, a_27 P, p_28 P, r0_29 P, p_30 P, p_31 P, r0_32 P, r0_33 P, r0_34 P, r0_35 P, r0_36 P, r0_37 P, r0_38 P, r0_39 P, r0_40 P, r0_41 P, r0_42 P, r0_43 P, r0_44 P, r0_45 P, r0_46 P, r0_47 P, r0_48 P, r0_49 P, r0_50 P, r0_51 P, r0_52 P, r0_53 P, r0_54 P, r0_55 P, r0_56 P, r0_57 P, r0_58 P, r0_59 P, r0_60 P, r0_61 P, r0_62 P, r0_63 P, r0_64 P, r0_65 P, r0_66 P, r0_67 P, r0_68 P, r0_69 P, r0_70 P, r0_71 P, r0_72 P, r0_73 P, r0_74 P, r0_75 P, r0_76 P, r0_77 P, r0_78 P, r0_79 P, r0_80 P, r0_81 P, r0_82 P, r0_83 P, r0_84 P, r0_85 P, r0_86 P, r0_87 P, r0_88 P, r0_89 P, r0_90 P, r0_91 P, r0_92 P, r0_93 P, r0_94 P, r0_95 P, r0_96 P, r0_97 P, r0_98 P, r0_99 P, r0_100 P, r0_101 P, r0_102 P, r0_103 P, r0_104 P, r0_105 P, r0_106 P, r0_107 P, r0_108 P, r0_109 P, r0_110 P, r0_111 P, r0_112 P, r0_113 P, r0_114 P, r0_115 P, r0_116 P, r0_117 P, r0_118 P], lfr0⟩
noncomputable abbrev Sr0 (w : World) (os : OsState) : Shared := ⟨Hr0 w.params, #[], dnr0, 438, os⟩
noncomputable def r1_3 (P : Params) : Obj := ⟨(.type "dict"), none, (.dict #[E P "__name__" 165 (.str "cpy313.smtplib" 362), E P "__doc__" 166 PySem.Value.none, E P "__package__" 167 PySem.Value.none, E P "__loader__" 168 (.builtin "__main__.__loader__#opaque"), E P "__spec__" 169 PySem.Value.none, E P "__annotations__" 170 (.ref 6), E P "__builtins__" 171 (.ref 4), E P "__file__" 173 (.str "/claim/cut.py" 172), E P "__cached__" 174 PySem.Value.none, E P "_sre" 275 (.ref 12), E P "lt" 291 (.ref 38), E P "le" 299 (.ref 45), E P "ge" 307 (.ref 52), E P "gt" 315 (.ref 59), E P "concat" 324 (.ref 66), E P "countOf" 334 (.ref 73), E P "getitem" 342 (.ref 80), E P "indexOf" 352 (.ref 87), E P "setitem" 361 (.ref 94), E P "_twin_re_1" 379 (.ref 99), E P "_twin_re_2" 421 (.ref 104), E P "CRLF" 423 (.str ⟨#[13, 10]⟩ 422), E P "quotedata" 430 (.ref 111), E P "_fix_eols" 437 (.ref 118), E P "LPAR" 439 (.int 7 438), E P "RPAR" 441 (.int 8 440), E P "LSQB" 443 (.int 9 442), E P "RSQB" 445 (.int 10 444), E P "COLON" 447 (.int 11 446), E P "COMMA" 449 (.int 12 448), E P "SEMI" 451 (.int 13 450), E P "PLUS" 453 (.int 14 452), E P "MINUS" 455 (.int 15 454), E P "STAR" 457 (.int 16 456), E P "SLASH" 459 (.int 17 458), E P "VBAR" 461 (.int 18 460), E P "AMPER" 463 (.int 19 462), E P "LESS" 465 (.int 20 464), E P "GREATER" 467 (.int 21 466), E P "EQUAL" 469 (.int 22 468), E P "DOT" 471 (.int 23 470), E P "PERCENT" 473 (.int 24 472), E P "LBRACE" 475 (.int 25 474), E P "RBRACE" 477 (.int 26 476), E P "EQEQUAL" 479 (.int 27 478), E P "NOTEQUAL" 481 (.int 28 480), E P "LESSEQUAL" 483 (.int 29 482), E P "GREATEREQUAL" 485 (.int 30 484), E P "TILDE" 487 (.int 31 486), E P "CIRCUMFLEX" 489 (.int 32 488), E P "LEFTSHIFT" 491 (.int 33 490), E P "RIGHTSHIFT" 493 (.int 34 492), E P "DOUBLESTAR" 495 (.int 35 494), E P "PLUSEQUAL" 497 (.int 36 496), E P "MINEQUAL" 499 (.int 37 498), E P "STAREQUAL" 501 (.int 38 500), E P "SLASHEQUAL" 503 (.int 39 502), E P "PERCENTEQUAL" 505 (.int 40 504), E P "AMPEREQUAL" 507 (.int 41 506), E P "VBAREQUAL" 509 (.int 42 508), E P "CIRCUMFLEXEQUAL" 511 (.int 43 510), E P "LEFTSHIFTEQUAL" 513 (.int 44 512), E P "RIGHTSHIFTEQUAL" 515 (.int 45 514), E P "DOUBLESTAREQUAL" 517 (.int 46 516), E P "DOUBLESLASH" 519 (.int 47 518), E P "DOUBLESLASHEQUAL" 521 (.int 48 520), E P "AT" 523 (.int 49 522), E P "ATEQUAL" 525 (.int 50 524), E P "RARROW" 527 (.int 51 526), E P "ELLIPSIS" 529 (.int 52 528), E P "COLONEQUAL" 531 (.int 53 530), E P "EXCLAMATION" 533 (.int 54 532)] 72), #[]⟩
noncomputable def lfr1 : Life := (PySem.Life.mk [] [] [] 0 [] [] Bool.false #[] [] 0 Bool.false Bool.false Bool.false 0 [2000, 10, 10] Bool.false 0 Bool.true [] [] 0 Bool.false)
noncomputable def dnr1 : Drawn := (PySem.Drawn.mk 0 0 0 0)
noncomputable def Hr1 (P : Params) : Heap := ⟨#[a_0 P, a_1 P, a_2 P, r1_3 P, a_4 P, a_5 P, a_6 P, a_7 P, a_8 P, a_9 P, a_10 P, f_11 P, a_12 P, a_13 P, a_14 P, a_15 P, a_16 P, a_17 P, a_18 P, a_19 P, a_20 P, a_21 P, a_22 P, a_23 P, a_24 P, a_25 P, a_26 P, a_27 P, p_28 P, r0_29 P, p_30 P, p_31 P, r0_32 P, r0_33 P, r0_34 P, r0_35 P, r0_36 P, r0_37 P, r0_38 P, r0_39 P, r0_40 P, r0_41 P, r0_42 P, r0_43 P, r0_44 P, r0_45 P, r0_46 P, r0_47 P, r0_48 P, r0_49 P, r0_50 P, r0_51 P, r0_52 P, r0_53 P, r0_54 P, r0_55 P, r0_56 P, r0_57 P, r0_58 P, r0_59 P, r0_60 P, r0_61 P, r0_62 P, r0_63 P, r0_64 P, r0_65 P, r0_66 P, r0_67 P, r0_68 P, r0_69 P, r0_70 P, r0_71 P, r0_72 P, r0_73 P, r0_74 P, r0_75 P, r0_76 P, r0_77 P, r0_78 P, r0_79 P, r0_80 P, r0_81 P, r0_82 P, r0_83 P, r0_84 P, r0_85 P, r0_86 P, r0_87 P, r0_88 P, r0_89 P, r0_90 P, r0_91 P, r0_92 P, r0_93 P, r0_94 P, r0_95 P, r0_96 P, r0_97 P, r0_98 P, r0_99 P, r0_100 P, r0_101 P, r0_102 P, r0_103 P, r0_104 P, r0_105 P, r0_106 P, r0_107 P, r0_108 P, r0_109 P, r0_110 P, r0_111 P, r0_112 P, r0_113 P, r0_114 P, r0_115 P, r0_116 P, r0_117 P, r0_118 P], lfr1⟩
noncomputable abbrev Sr1 (w : World) (os : OsState) : Shared := ⟨Hr1 w.params, #[], dnr1, 534, os⟩
noncomputable def r2_3 (P : Params) : Obj := ⟨(.type "dict"), none, (.dict #[E P "__name__" 165 (.str "cpy313.smtplib" 362), E P "__doc__" 166 PySem.Value.none, E P "__package__" 167 PySem.Value.none, E P "__loader__" 168 (.builtin "__main__.__loader__#opaque"), E P "__spec__" 169 PySem.Value.none, E P "__annotations__" 170 (.ref 6), E P "__builtins__" 171 (.ref 4), E P "__file__" 173 (.str "/claim/cut.py" 172), E P "__cached__" 174 PySem.Value.none, E P "_sre" 275 (.ref 12), E P "lt" 291 (.ref 38), E P "le" 299 (.ref 45), E P "ge" 307 (.ref 52), E P "gt" 315 (.ref 59), E P "concat" 324 (.ref 66), E P "countOf" 334 (.ref 73), E P "getitem" 342 (.ref 80), E P "indexOf" 352 (.ref 87), E P "setitem" 361 (.ref 94), E P "_twin_re_1" 379 (.ref 99), E P "_twin_re_2" 421 (.ref 104), E P "CRLF" 423 (.str ⟨#[13, 10]⟩ 422), E P "quotedata" 430 (.ref 111), E P "_fix_eols" 437 (.ref 118), E P "LPAR" 439 (.int 7 438), E P "RPAR" 441 (.int 8 440), E P "LSQB" 443 (.int 9 442), E P "RSQB" 445 (.int 10 444), E P "COLON" 447 (.int 11 446), E P "COMMA" 449 (.int 12 448), E P "SEMI" 451 (.int 13 450), E P "PLUS" 453 (.int 14 452), E P "MINUS" 455 (.int 15 454), E P "STAR" 457 (.int 16 456), E P "SLASH" 459 (.int 17 458), E P "VBAR" 461 (.int 18 460), E P "AMPER" 463 (.int 19 462), E P "LESS" 465 (.int 20 464), E P "GREATER" 467 (.int 21 466), E P "EQUAL" 469 (.int 22 468), E P "DOT" 471 (.int 23 470), E P "PERCENT" 473 (.int 24 472), E P "LBRACE" 475 (.int 25 474), E P "RBRACE" 477 (.int 26 476), E P "EQEQUAL" 479 (.int 27 478), E P "NOTEQUAL" 481 (.int 28 480), E P "LESSEQUAL" 483 (.int 29 482), E P "GREATEREQUAL" 485 (.int 30 484), E P "TILDE" 487 (.int 31 486), E P "CIRCUMFLEX" 489 (.int 32 488), E P "LEFTSHIFT" 491 (.int 33 490), E P "RIGHTSHIFT" 493 (.int 34 492), E P "DOUBLESTAR" 495 (.int 35 494), E P "PLUSEQUAL" 497 (.int 36 496), E P "MINEQUAL" 499 (.int 37 498), E P "STAREQUAL" 501 (.int 38 500), E P "SLASHEQUAL" 503 (.int 39 502), E P "PERCENTEQUAL" 505 (.int 40 504), E P "AMPEREQUAL" 507 (.int 41 506), E P "VBAREQUAL" 509 (.int 42 508), E P "CIRCUMFLEXEQUAL" 511 (.int 43 510), E P "LEFTSHIFTEQUAL" 513 (.int 44 512), E P "RIGHTSHIFTEQUAL" 515 (.int 45 514), E P "DOUBLESTAREQUAL" 517 (.int 46 516), E P "DOUBLESLASH" 519 (.int 47 518), E P "DOUBLESLASHEQUAL" 521 (.int 48 520), E P "AT" 523 (.int 49 522), E P "ATEQUAL" 525 (.int 50 524), E P "RARROW" 527 (.int 51 526), E P "ELLIPSIS" 529 (.int 52 528), E P "COLONEQUAL" 531 (.int 53 530), E P "EXCLAMATION" 533 (.int 54 532), E P "EXACT_TOKEN_TYPES" 630 (.ref 119)] 73), #[]⟩
noncomputable def r2_119 (P : Params) : Obj := ⟨(.type "dict"), none, (.dict #[E P "!" 534 (.int 54 532), E P "!=" 536 (.int 28 480), E P "%" 538 (.int 24 472), E P "%=" 540 (.int 40 504), E P "&" 542 (.int 19 462), E P "&=" 544 (.int 41 506), E P "(" 546 (.int 7 438), E P ")" 548 (.int 8 440), E P "*" 550 (.int 16 456), E P "**" 552 (.int 35 494), E P "**=" 554 (.int 46 516), E P "*=" 556 (.int 38 500), E P "+" 558 (.int 14 452), E P "+=" 560 (.int 36 496), E P "," 562 (.int 12 448), E P "-" 564 (.int 15 454), E P "-=" 566 (.int 37 498), E P "->" 568 (.int 51 526), E P "." 570 (.int 23 470), E P "..." 572 (.int 52 528), E P "/" 574 (.int 17 458), E P "//" 576 (.int 47 518), E P "//=" 578 (.int 48 520), E P "/=" 580 (.int 39 502), E P ":" 582 (.int 11 446), E P ":=" 584 (.int 53 530), E P ";" 586 (.int 13 450), E P "<" 588 (.int 20 464), E P "<<" 590 (.int 33 490), E P "<<=" 592 (.int 44 512), E P "<=" 594 (.int 29 482), E P "=" 596 (.int 22 468), E P "==" 598 (.int 27 478), E P ">" 600 (.int 21 466), E P ">=" 602 (.int 30 484), E P ">>" 603 (.int 34 492), E P ">>=" 604 (.int 45 514), E P "@" 605 (.int 49 522), E P "@=" 606 (.int 50 524), E P "[" 607 (.int 9 442), E P "]" 608 (.int 10 444), E P "^" 609 (.int 32 488), E P "^=" 610 (.int 43 510), E P "{" 611 (.int 25 474), E P "|" 612 (.int 18 460), E P "|=" 613 (.int 42 508), E P "}" 614 (.int 26 476), E P "~" 615 (.int 31 486)] 48), #[]⟩
noncomputable def r2_120 (P : Params) : Obj := ⟨(.type "dict"), none, (.dict #[E P "->" 568 (.int 51 526), E P "." 570 (.int 23 470), E P "..." 572 (.int 52 528), E P "/" 574 (.int 17 458), E P "//" 576 (.int 47 518), E P "//=" 578 (.int 48 520), E P "/=" 580 (.int 39 502), E P ":" 582 (.int 11 446), E P ":=" 584 (.int 53 530), E P ";" 586 (.int 13 450), E P "<" 588 (.int 20 464), E P "<<" 590 (.int 33 490), E P "<<=" 592 (.int 44 512), E P "<=" 594 (.int 29 482), E P "=" 596 (.int 22 468), E P "==" 598 (.int 27 478), E P ">" 600 (.int 21 466)] 17), #[]⟩
noncomputable def r2_121 (P : Params) : Obj := ⟨(.type "dict"), none, (.dict #[E P ">=" 602 (.int 30 484), E P ">>" 603 (.int 34 492), E P ">>=" 604 (.int 45 514), E P "@" 605 (.int 49 522), E P "@=" 606 (.int 50 524), E P "[" 607 (.int 9 442), E P "]" 608 (.int 10 444), E P "^" 609 (.int 32 488), E P "^=" 610 (.int 43 510), E P "{" 611 (.int 25 474), E P "|" 612 (.int 18 460), E P "|=" 613 (.int 42 508), E P "}" 614 (.int 26 476), E P "~" 615 (.int 31 486)] 14), #[]⟩
noncomputable def lfr2 : Life := (PySem.Life.mk [] [] [] 0 [] [] Bool.false #[] [] 0 Bool.false Bool.false Bool.false 0 [2000, 10, 10] Bool.false 0 Bool.true [] [] 0 Bool.false)
noncomputable def dnr2 : Drawn := (PySem.Drawn.mk 0 0 0 0)
noncomputable def Hr2 (P : Params) : Heap := ⟨#[a_0 P, a_1 P, a_2 P, r2_3 P, a_4 P, a_5 P, a_6 P, a_7 P, a_8 P, a_9 P, a_10 P, f_11 P, a_12 P, a_13 P, a_14 P, a_15 P, a_16 P, a_17 P, a_18 P, a_19 P, a_20 P, a_21 P, a_22 P, a_23 P, a_24 P, a_25 P, a_26 P, a_27 P, p_28 P, r0_29 P, p_30 P, p_31 P, r0_32 P, r0_33 P, r0_34 P, r0_35 P, r0_36 P, r0_37 P, r0_38 P, r0_39 P, r0_40 P, r0_41 P, r0_42 P, r0_43 P, r0_44 P, r0_45 P, r0_46 P, r0_47 P, r0_48 P, r0_49 P, r0_50 P, r0_51 P, r0_52 P, r0_53 P, r0_54 P, r0_55 P, r0_56 P, r0_57 P, r0_58 P, r0_59 P, r0_60 P, r0_61 P, r0_62 P, r0_63 P, r0_64 P, r0_65 P, r0_66 P, r0_67 P, r0_68 P, r0_69 P, r0_70 P, r0_71 P, r0_72 P, r0_73 P, r0_74 P, r0_75 P, r0_76 P, r0_77 P, r0_78 P, r0_79 P, r0_80 P, r0_81 P, r0_82 P, r0_83 P, r0_84 P, r0_85 P, r0_86 P, r0_87 P, r0_88 P, r0_89 P, r0_90 P, r0_91 P, r0_92 P, r0_93 P, r0_94 P, r0_95 P, r0_96 P, r0_97 P, r0_98 P, r0_99 P, r0_100 P, r0_101 P, r0_102 P, r0_103 P, r0_104 P, r0_105 P, r0_106 P, r0_107 P, r0_108 P, r0_109 P, r0_110 P, r0_111 P, r0_112 P, r0_113 P, r0_114 P, r0_115 P, r0_116 P, r0_117 P, r0_118 P, r2_119 P, r2_120 P, r2_121 P], lfr2⟩
noncomputable abbrev Sr2 (w : World) (os : OsState) : Shared := ⟨Hr2 w.params, #[], dnr2, 631, os⟩
noncomputable def r3_3 (P : Params) : Obj := ⟨(.type "dict"), none, (.dict #[E P "__name__" 165 (.str "law_tl0010_01" 631), E P "__doc__" 166 PySem.Value.none, E P "__package__" 167 PySem.Value.none, E P "__loader__" 168 (.builtin "__main__.__loader__#opaque"), E P "__spec__" 169 PySem.Value.none, E P "__annotations__" 170 (.ref 6), E P "__builtins__" 171 (.ref 4), E P "__file__" 173 (.str "/claim/cut.py" 172), E P "__cached__" 174 PySem.Value.none, E P "_sre" 275 (.ref 12), E P "lt" 291 (.ref 38), E P "le" 299 (.ref 45), E P "ge" 307 (.ref 52), E P "gt" 315 (.ref 59), E P "concat" 324 (.ref 66), E P "countOf" 334 (.ref 73), E P "getitem" 342 (.ref 80), E P "indexOf" 352 (.ref 87), E P "setitem" 361 (.ref 94), E P "_twin_re_1" 379 (.ref 99), E P "_twin_re_2" 421 (.ref 104), E P "CRLF" 423 (.str ⟨#[13, 10]⟩ 422), E P "quotedata" 430 (.ref 111), E P "_fix_eols" 437 (.ref 118), E P "LPAR" 439 (.int 7 438), E P "RPAR" 441 (.int 8 440), E P "LSQB" 443 (.int 9 442), E P "RSQB" 445 (.int 10 444), E P "COLON" 447 (.int 11 446), E P "COMMA" 449 (.int 12 448), E P "SEMI" 451 (.int 13 450), E P "PLUS" 453 (.int 14 452), E P "MINUS" 455 (.int 15 454), E P "STAR" 457 (.int 16 456), E P "SLASH" 459 (.int 17 458), E P "VBAR" 461 (.int 18 460), E P "AMPER" 463 (.int 19 462), E P "LESS" 465 (.int 20 464), E P "GREATER" 467 (.int 21 466), E P "EQUAL" 469 (.int 22 468), E P "DOT" 471 (.int 23 470), E P "PERCENT" 473 (.int 24 472), E P "LBRACE" 475 (.int 25 474), E P "RBRACE" 477 (.int 26 476), E P "EQEQUAL" 479 (.int 27 478), E P "NOTEQUAL" 481 (.int 28 480), E P "LESSEQUAL" 483 (.int 29 482), E P "GREATEREQUAL" 485 (.int 30 484), E P "TILDE" 487 (.int 31 486), E P "CIRCUMFLEX" 489 (.int 32 488), E P "LEFTSHIFT" 491 (.int 33 490), E P "RIGHTSHIFT" 493 (.int 34 492), E P "DOUBLESTAR" 495 (.int 35 494), E P "PLUSEQUAL" 497 (.int 36 496), E P "MINEQUAL" 499 (.int 37 498), E P "STAREQUAL" 501 (.int 38 500), E P "SLASHEQUAL" 503 (.int 39 502), E P "PERCENTEQUAL" 505 (.int 40 504), E P "AMPEREQUAL" 507 (.int 41 506), E P "VBAREQUAL" 509 (.int 42 508), E P "CIRCUMFLEXEQUAL" 511 (.int 43 510), E P "LEFTSHIFTEQUAL" 513 (.int 44 512), E P "RIGHTSHIFTEQUAL" 515 (.int 45 514), E P "DOUBLESTAREQUAL" 517 (.int 46 516), E P "DOUBLESLASH" 519 (.int 47 518), E P "DOUBLESLASHEQUAL" 521 (.int 48 520), E P "AT" 523 (.int 49 522), E P "ATEQUAL" 525 (.int 50 524), E P "RARROW" 527 (.int 51 526), E P "ELLIPSIS" 529 (.int 52 528), E P "COLONEQUAL" 531 (.int 53 530), E P "EXCLAMATION" 533 (.int 54 532), E P "EXACT_TOKEN_TYPES" 630 (.ref 119), E P "_law_block" 644 (.ref 128), E P "_law_plan" 650 (.ref 133), E P "_law_due" 662 (.ref 140), E P "_law_kinds" 671 (.ref 147), E P "_law_rows" 677 (.ref 152), E P "_law_led" 683 (.ref 157), E P "_law_walked" 689 (.ref 162), E P "_law_cells" 699 (.ref 169), E P "law" 705 (.ref 174)] 82), #[]⟩
noncomputable def r3_29 (P : Params) : Obj := ⟨PySem.Value.none, none, (.fields #[(.int 3 0), (.int 0 0), (.ref 37), (.int 5 0), (.int 0 0), (.ref 44), (.int 7 0), (.int 0 0), (.ref 51), (.int 9 0), (.int 0 0), (.ref 58), (.int 11 0), (.int 0 0), (.ref 65), (.int 16 0), (.int 0 0), (.ref 72), (.int 22 0), (.int 0 0), (.ref 79), (.int 24 0), (.int 0 0), (.ref 86), (.int 30 0), (.int 0 0), (.ref 93), (.int 36 0), (.int 0 0), (.ref 110), (.int 38 0), (.int 0 0), (.ref 117), (.int 90 0), (.int 0 0), (.ref 127), (.int 98 0), (.int 0 0), (.ref 132), (.int 101 0), (.int 0 0), (.ref 139), (.int 109 0), (.int 0 0), (.ref 146), (.int 116 0), (.int 0 0), (.ref 151), (.int 123 0), (.int 0 0), (.ref 156), (.int 144 0), (.int 0 0), (.ref 161), (.int 153 0), (.int 0 0), (.ref 168), (.int 157 0), (.int 0 0), (.ref 173)]), #[]⟩
noncomputable def r3_122 (P : Params) : Obj := ⟨(.type "tuple"), none, (.seq #[] 0), #[]⟩
noncomputable def r3_123 (P : Params) : Obj := ⟨PySem.Value.none, none, (.fields #[]), #[]⟩
noncomputable def r3_124 (P : Params) : Obj := ⟨(.type "tuple"), none, (.seq #[(.str "low" 636), (.str "size" 637), (.str "way" 638), (.str "ends" 639), (.str "text" 640), (.str "k" 641)] 0), #[]⟩
noncomputable def r3_125 (P : Params) : Obj := ⟨(.type "tuple"), none, (.seq #[] 0), #[]⟩
noncomputable def r3_126 (P : Params) : Obj := ⟨PySem.Value.none, none, .func ⟨(nmAt 67), (nmAt 67), (paAt 67), (.stmts (bdAt 67)), (scAt 67), 0, [], PySem.Value.none, PySem.Value.none, PySem.Value.none, PySem.Value.none, none, PySem.Value.none, PySem.Value.none, 0⟩, #[]⟩
noncomputable def r3_127 (P : Params) : Obj := ⟨(.type "code"), none, (.fields #[(.str "_law_block" 633), (.str "_law_block" 634), (.str "/claim/cut.py" 635), (.int 90 0), (.int 3 0), (.int 0 0), (.int 0 0), (.int 3 0), (.ref 122), (.bool Bool.true), (.int 276 0), (.ref 123), PySem.Value.none, (.ref 124), (.ref 125), (.ref 126), (.int 642 0), (.int 90 0), (.str "/claim/cut.py" 643)]), #[]⟩
noncomputable def r3_128 (P : Params) : Obj := ⟨(.type "function"), none, .func (docDef (nmAt 67) (paAt 67) (bdAt 67) (scAt 67) (.str "law_tl0010_01" 631) (.ref 127) PySem.Value.none), #[]⟩
noncomputable def r3_129 (P : Params) : Obj := ⟨(.type "tuple"), none, (.seq #[] 0), #[]⟩
noncomputable def r3_130 (P : Params) : Obj := ⟨PySem.Value.none, none, (.fields #[]), #[]⟩
noncomputable def r3_131 (P : Params) : Obj := ⟨PySem.Value.none, none, .func ⟨(nmAt 68), (nmAt 68), (paAt 68), (.stmts (bdAt 68)), (scAt 68), 0, [], PySem.Value.none, PySem.Value.none, PySem.Value.none, PySem.Value.none, none, PySem.Value.none, PySem.Value.none, 0⟩, #[]⟩
noncomputable def r3_132 (P : Params) : Obj := ⟨(.type "code"), none, (.fields #[(.str "_law_plan" 645), (.str "_law_plan" 646), (.str "/claim/cut.py" 647), (.int 98 0), (.int 3 0), (.int 0 0), (.int 0 0), (.int 3 0), (.ref 129), (.bool Bool.true), (.int 276 0), (.ref 130), PySem.Value.none, PySem.Value.none, PySem.Value.none, (.ref 131), (.int 648 0), (.int 98 0), (.str "/claim/cut.py" 649)]), #[]⟩
noncomputable def r3_133 (P : Params) : Obj := ⟨(.type "function"), none, .func (docDef (nmAt 68) (paAt 68) (bdAt 68) (scAt 68) (.str "law_tl0010_01" 631) (.ref 132) PySem.Value.none), #[]⟩
noncomputable def r3_134 (P : Params) : Obj := ⟨(.type "tuple"), none, (.seq #[] 0), #[]⟩
noncomputable def r3_135 (P : Params) : Obj := ⟨PySem.Value.none, none, (.fields #[]), #[]⟩
noncomputable def r3_136 (P : Params) : Obj := ⟨(.type "tuple"), none, (.seq #[(.str "plan" 654), (.str "signs" 655), (.str "rows" 656), (.str "row" 657), (.str "dots" 658), (.str "run" 659)] 0), #[]⟩
noncomputable def r3_137 (P : Params) : Obj := ⟨(.type "tuple"), none, (.seq #[] 0), #[]⟩
noncomputable def r3_138 (P : Params) : Obj := ⟨PySem.Value.none, none, .func ⟨(nmAt 69), (nmAt 69), (paAt 69), (.stmts (bdAt 69)), (scAt 69), 0, [], PySem.Value.none, PySem.Value.none, PySem.Value.none, PySem.Value.none, none, PySem.Value.none, PySem.Value.none, 0⟩, #[]⟩
noncomputable def r3_139 (P : Params) : Obj := ⟨(.type "code"), none, (.fields #[(.str "_law_due" 651), (.str "_law_due" 652), (.str "/claim/cut.py" 653), (.int 101 0), (.int 1 0), (.int 0 0), (.int 0 0), (.int 3 0), (.ref 134), (.bool Bool.true), (.int 276 0), (.ref 135), PySem.Value.none, (.ref 136), (.ref 137), (.ref 138), (.int 660 0), (.int 101 0), (.str "/claim/cut.py" 661)]), #[]⟩
noncomputable def r3_140 (P : Params) : Obj := ⟨(.type "function"), none, .func (docDef (nmAt 69) (paAt 69) (bdAt 69) (scAt 69) (.str "law_tl0010_01" 631) (.ref 139) PySem.Value.none), #[]⟩
noncomputable def r3_141 (P : Params) : Obj := ⟨(.type "tuple"), none, (.seq #[] 0), #[]⟩
noncomputable def r3_142 (P : Params) : Obj := ⟨PySem.Value.none, none, (.fields #[]), #[]⟩
noncomputable def r3_143 (P : Params) : Obj := ⟨(.type "tuple"), none, (.seq #[(.str "row" 666), (.str "kinds" 667), (.str "size" 668)] 0), #[]⟩
noncomputable def r3_144 (P : Params) : Obj := ⟨(.type "tuple"), none, (.seq #[] 0), #[]⟩
noncomputable def r3_145 (P : Params) : Obj := ⟨PySem.Value.none, none, .func ⟨(nmAt 70), (nmAt 70), (paAt 70), (.stmts (bdAt 70)), (scAt 70), 0, [], PySem.Value.none, PySem.Value.none, PySem.Value.none, PySem.Value.none, none, PySem.Value.none, PySem.Value.none, 0⟩, #[]⟩
noncomputable def r3_146 (P : Params) : Obj := ⟨(.type "code"), none, (.fields #[(.str "_law_kinds" 663), (.str "_law_kinds" 664), (.str "/claim/cut.py" 665), (.int 109 0), (.int 1 0), (.int 0 0), (.int 0 0), (.int 3 0), (.ref 141), (.bool Bool.true), (.int 276 0), (.ref 142), PySem.Value.none, (.ref 143), (.ref 144), (.ref 145), (.int 669 0), (.int 109 0), (.str "/claim/cut.py" 670)]), #[]⟩
noncomputable def r3_147 (P : Params) : Obj := ⟨(.type "function"), none, .func (docDef (nmAt 70) (paAt 70) (bdAt 70) (scAt 70) (.str "law_tl0010_01" 631) (.ref 146) PySem.Value.none), #[]⟩
noncomputable def r3_148 (P : Params) : Obj := ⟨(.type "tuple"), none, (.seq #[] 0), #[]⟩
noncomputable def r3_149 (P : Params) : Obj := ⟨PySem.Value.none, none, (.fields #[]), #[]⟩
noncomputable def r3_150 (P : Params) : Obj := ⟨PySem.Value.none, none, .func ⟨(nmAt 71), (nmAt 71), (paAt 71), (.stmts (bdAt 71)), (scAt 71), 0, [], PySem.Value.none, PySem.Value.none, PySem.Value.none, PySem.Value.none, none, PySem.Value.none, PySem.Value.none, 0⟩, #[]⟩
noncomputable def r3_151 (P : Params) : Obj := ⟨(.type "code"), none, (.fields #[(.str "_law_rows" 672), (.str "_law_rows" 673), (.str "/claim/cut.py" 674), (.int 116 0), (.int 2 0), (.int 0 0), (.int 0 0), (.int 3 0), (.ref 148), (.bool Bool.true), (.int 276 0), (.ref 149), PySem.Value.none, PySem.Value.none, PySem.Value.none, (.ref 150), (.int 675 0), (.int 116 0), (.str "/claim/cut.py" 676)]), #[]⟩
noncomputable def r3_152 (P : Params) : Obj := ⟨(.type "function"), none, .func (docDef (nmAt 71) (paAt 71) (bdAt 71) (scAt 71) (.str "law_tl0010_01" 631) (.ref 151) PySem.Value.none), #[]⟩
noncomputable def r3_153 (P : Params) : Obj := ⟨(.type "tuple"), none, (.seq #[] 0), #[]⟩
noncomputable def r3_154 (P : Params) : Obj := ⟨PySem.Value.none, none, (.fields #[]), #[]⟩
noncomputable def r3_155 (P : Params) : Obj := ⟨PySem.Value.none, none, .func ⟨(nmAt 72), (nmAt 72), (paAt 72), (.stmts (bdAt 72)), (scAt 72), 0, [], PySem.Value.none, PySem.Value.none, PySem.Value.none, PySem.Value.none, none, PySem.Value.none, PySem.Value.none, 0⟩, #[]⟩
noncomputable def r3_156 (P : Params) : Obj := ⟨(.type "code"), none, (.fields #[(.str "_law_led" 678), (.str "_law_led" 679), (.str "/claim/cut.py" 680), (.int 123 0), (.int 2 0), (.int 0 0), (.int 0 0), (.int 3 0), (.ref 153), (.bool Bool.true), (.int 276 0), (.ref 154), PySem.Value.none, PySem.Value.none, PySem.Value.none, (.ref 155), (.int 681 0), (.int 123 0), (.str "/claim/cut.py" 682)]), #[]⟩
noncomputable def r3_157 (P : Params) : Obj := ⟨(.type "function"), none, .func (docDef (nmAt 72) (paAt 72) (bdAt 72) (scAt 72) (.str "law_tl0010_01" 631) (.ref 156) PySem.Value.none), #[]⟩
noncomputable def r3_158 (P : Params) : Obj := ⟨(.type "tuple"), none, (.seq #[] 0), #[]⟩
noncomputable def r3_159 (P : Params) : Obj := ⟨PySem.Value.none, none, (.fields #[]), #[]⟩
noncomputable def r3_160 (P : Params) : Obj := ⟨PySem.Value.none, none, .func ⟨(nmAt 73), (nmAt 73), (paAt 73), (.stmts (bdAt 73)), (scAt 73), 0, [], PySem.Value.none, PySem.Value.none, PySem.Value.none, PySem.Value.none, none, PySem.Value.none, PySem.Value.none, 0⟩, #[]⟩
noncomputable def r3_161 (P : Params) : Obj := ⟨(.type "code"), none, (.fields #[(.str "_law_walked" 684), (.str "_law_walked" 685), (.str "/claim/cut.py" 686), (.int 144 0), (.int 2 0), (.int 0 0), (.int 0 0), (.int 3 0), (.ref 158), (.bool Bool.true), (.int 276 0), (.ref 159), PySem.Value.none, PySem.Value.none, PySem.Value.none, (.ref 160), (.int 687 0), (.int 144 0), (.str "/claim/cut.py" 688)]), #[]⟩
noncomputable def r3_162 (P : Params) : Obj := ⟨(.type "function"), none, .func (docDef (nmAt 73) (paAt 73) (bdAt 73) (scAt 73) (.str "law_tl0010_01" 631) (.ref 161) PySem.Value.none), #[]⟩
noncomputable def r3_163 (P : Params) : Obj := ⟨(.type "tuple"), none, (.seq #[] 0), #[]⟩
noncomputable def r3_164 (P : Params) : Obj := ⟨PySem.Value.none, none, (.fields #[]), #[]⟩
noncomputable def r3_165 (P : Params) : Obj := ⟨(.type "tuple"), none, (.seq #[(.str "script" 693), (.str "cells" 694), (.str "most" 695), (.str "k" 696)] 0), #[]⟩
noncomputable def r3_166 (P : Params) : Obj := ⟨(.type "tuple"), none, (.seq #[] 0), #[]⟩
noncomputable def r3_167 (P : Params) : Obj := ⟨PySem.Value.none, none, .func ⟨(nmAt 74), (nmAt 74), (paAt 74), (.stmts (bdAt 74)), (scAt 74), 0, [], PySem.Value.none, PySem.Value.none, PySem.Value.none, PySem.Value.none, none, PySem.Value.none, PySem.Value.none, 0⟩, #[]⟩
noncomputable def r3_168 (P : Params) : Obj := ⟨(.type "code"), none, (.fields #[(.str "_law_cells" 690), (.str "_law_cells" 691), (.str "/claim/cut.py" 692), (.int 153 0), (.int 3 0), (.int 0 0), (.int 0 0), (.int 3 0), (.ref 163), (.bool Bool.true), (.int 276 0), (.ref 164), PySem.Value.none, (.ref 165), (.ref 166), (.ref 167), (.int 697 0), (.int 153 0), (.str "/claim/cut.py" 698)]), #[]⟩
noncomputable def r3_169 (P : Params) : Obj := ⟨(.type "function"), none, .func (docDef (nmAt 74) (paAt 74) (bdAt 74) (scAt 74) (.str "law_tl0010_01" 631) (.ref 168) PySem.Value.none), #[]⟩
noncomputable def r3_170 (P : Params) : Obj := ⟨(.type "tuple"), none, (.seq #[] 0), #[]⟩
noncomputable def r3_171 (P : Params) : Obj := ⟨PySem.Value.none, none, (.fields #[]), #[]⟩
noncomputable def r3_172 (P : Params) : Obj := ⟨PySem.Value.none, none, .func ⟨(nmAt 75), (nmAt 75), (paAt 75), (.stmts (bdAt 75)), (scAt 75), 0, [], PySem.Value.none, PySem.Value.none, PySem.Value.none, PySem.Value.none, none, PySem.Value.none, PySem.Value.none, 0⟩, #[]⟩
noncomputable def r3_173 (P : Params) : Obj := ⟨(.type "code"), none, (.fields #[(.str "law" 700), (.str "law" 701), (.str "/claim/cut.py" 702), (.int 157 0), (.int 1 0), (.int 0 0), (.int 0 0), (.int 3 0), (.ref 170), (.bool Bool.true), (.int 276 0), (.ref 171), PySem.Value.none, PySem.Value.none, PySem.Value.none, (.ref 172), (.int 703 0), (.int 157 0), (.str "/claim/cut.py" 704)]), #[]⟩
noncomputable def r3_174 (P : Params) : Obj := ⟨(.type "function"), none, .func (docDef (nmAt 75) (paAt 75) (bdAt 75) (scAt 75) (.str "law_tl0010_01" 631) (.ref 173) PySem.Value.none), #[]⟩
noncomputable def lfr3 : Life := (PySem.Life.mk [] [] [] 0 [] [] Bool.false #[] [] 0 Bool.false Bool.false Bool.false 0 [2000, 10, 10] Bool.false 0 Bool.true [] [] 0 Bool.false)
noncomputable def dnr3 : Drawn := (PySem.Drawn.mk 0 0 0 0)
noncomputable def Hr3 (P : Params) : Heap := ⟨#[a_0 P, a_1 P, a_2 P, r3_3 P, a_4 P, a_5 P, a_6 P, a_7 P, a_8 P, a_9 P, a_10 P, f_11 P, a_12 P, a_13 P, a_14 P, a_15 P, a_16 P, a_17 P, a_18 P, a_19 P, a_20 P, a_21 P, a_22 P, a_23 P, a_24 P, a_25 P, a_26 P, a_27 P, p_28 P, r3_29 P, p_30 P, p_31 P, r0_32 P, r0_33 P, r0_34 P, r0_35 P, r0_36 P, r0_37 P, r0_38 P, r0_39 P, r0_40 P, r0_41 P, r0_42 P, r0_43 P, r0_44 P, r0_45 P, r0_46 P, r0_47 P, r0_48 P, r0_49 P, r0_50 P, r0_51 P, r0_52 P, r0_53 P, r0_54 P, r0_55 P, r0_56 P, r0_57 P, r0_58 P, r0_59 P, r0_60 P, r0_61 P, r0_62 P, r0_63 P, r0_64 P, r0_65 P, r0_66 P, r0_67 P, r0_68 P, r0_69 P, r0_70 P, r0_71 P, r0_72 P, r0_73 P, r0_74 P, r0_75 P, r0_76 P, r0_77 P, r0_78 P, r0_79 P, r0_80 P, r0_81 P, r0_82 P, r0_83 P, r0_84 P, r0_85 P, r0_86 P, r0_87 P, r0_88 P, r0_89 P, r0_90 P, r0_91 P, r0_92 P, r0_93 P, r0_94 P, r0_95 P, r0_96 P, r0_97 P, r0_98 P, r0_99 P, r0_100 P, r0_101 P, r0_102 P, r0_103 P, r0_104 P, r0_105 P, r0_106 P, r0_107 P, r0_108 P, r0_109 P, r0_110 P, r0_111 P, r0_112 P, r0_113 P, r0_114 P, r0_115 P, r0_116 P, r0_117 P, r0_118 P, r2_119 P, r2_120 P, r2_121 P, r3_122 P, r3_123 P, r3_124 P, r3_125 P, r3_126 P, r3_127 P, r3_128 P, r3_129 P, r3_130 P, r3_131 P, r3_132 P, r3_133 P, r3_134 P, r3_135 P, r3_136 P, r3_137 P, r3_138 P, r3_139 P, r3_140 P, r3_141 P, r3_142 P, r3_143 P, r3_144 P, r3_145 P, r3_146 P, r3_147 P, r3_148 P, r3_149 P, r3_150 P, r3_151 P, r3_152 P, r3_153 P, r3_154 P, r3_155 P, r3_156 P, r3_157 P, r3_158 P, r3_159 P, r3_160 P, r3_161 P, r3_162 P, r3_163 P, r3_164 P, r3_165 P, r3_166 P, r3_167 P, r3_168 P, r3_169 P, r3_170 P, r3_171 P, r3_172 P, r3_173 P, r3_174 P], lfr3⟩
noncomputable abbrev Sr3 (w : World) (os : OsState) : Shared := ⟨Hr3 w.params, #[], dnr3, 706, os⟩
noncomputable def lfz : Life := (PySem.Life.mk [] [] [] 0 [] [] Bool.false #[] [] 0 Bool.false Bool.false Bool.false 0 [2000, 10, 10] Bool.false 0 Bool.true [] [] 0 Bool.false)
noncomputable def dnz : Drawn := (PySem.Drawn.mk 0 0 0 0)
noncomputable def Hz (P : Params) : Heap := ⟨#[a_0 P, a_1 P, a_2 P, r3_3 P, a_4 P, a_5 P, a_6 P, a_7 P, a_8 P, a_9 P, a_10 P, f_11 P, a_12 P, a_13 P, a_14 P, a_15 P, a_16 P, a_17 P, a_18 P, a_19 P, a_20 P, a_21 P, a_22 P, a_23 P, a_24 P, a_25 P, a_26 P, a_27 P, p_28 P, r3_29 P, p_30 P, p_31 P, r0_32 P, r0_33 P, r0_34 P, r0_35 P, r0_36 P, r0_37 P, r0_38 P, r0_39 P, r0_40 P, r0_41 P, r0_42 P, r0_43 P, r0_44 P, r0_45 P, r0_46 P, r0_47 P, r0_48 P, r0_49 P, r0_50 P, r0_51 P, r0_52 P, r0_53 P, r0_54 P, r0_55 P, r0_56 P, r0_57 P, r0_58 P, r0_59 P, r0_60 P, r0_61 P, r0_62 P, r0_63 P, r0_64 P, r0_65 P, r0_66 P, r0_67 P, r0_68 P, r0_69 P, r0_70 P, r0_71 P, r0_72 P, r0_73 P, r0_74 P, r0_75 P, r0_76 P, r0_77 P, r0_78 P, r0_79 P, r0_80 P, r0_81 P, r0_82 P, r0_83 P, r0_84 P, r0_85 P, r0_86 P, r0_87 P, r0_88 P, r0_89 P, r0_90 P, r0_91 P, r0_92 P, r0_93 P, r0_94 P, r0_95 P, r0_96 P, r0_97 P, r0_98 P, r0_99 P, r0_100 P, r0_101 P, r0_102 P, r0_103 P, r0_104 P, r0_105 P, r0_106 P, r0_107 P, r0_108 P, r0_109 P, r0_110 P, r0_111 P, r0_112 P, r0_113 P, r0_114 P, r0_115 P, r0_116 P, r0_117 P, r0_118 P, r2_119 P, r2_120 P, r2_121 P, r3_122 P, r3_123 P, r3_124 P, r3_125 P, r3_126 P, r3_127 P, r3_128 P, r3_129 P, r3_130 P, r3_131 P, r3_132 P, r3_133 P, r3_134 P, r3_135 P, r3_136 P, r3_137 P, r3_138 P, r3_139 P, r3_140 P, r3_141 P, r3_142 P, r3_143 P, r3_144 P, r3_145 P, r3_146 P, r3_147 P, r3_148 P, r3_149 P, r3_150 P, r3_151 P, r3_152 P, r3_153 P, r3_154 P, r3_155 P, r3_156 P, r3_157 P, r3_158 P, r3_159 P, r3_160 P, r3_161 P, r3_162 P, r3_163 P, r3_164 P, r3_165 P, r3_166 P, r3_167 P, r3_168 P, r3_169 P, r3_170 P, r3_171 P, r3_172 P, r3_173 P, r3_174 P], lfz⟩
noncomputable abbrev Sz (w : World) (os : OsState) : Shared := ⟨Hz w.params, #[], dnz, 706, os⟩
noncomputable abbrev bE : List Stmt := behindTheImports p0
noncomputable def envT : Env := { scope := p0.main.scope, locals := mainNs, globals := mainNs, cells := [], code := (.ref 30), frame := some 31 }
noncomputable abbrev cT : Code := .body bE envT
noncomputable abbrev qT : Pos := (PySem.Pos.mk 0 0 0 0)
noncomputable abbrev annT : Option Value := (some (.ref 6))
theorem t_fence (w : World) : (fun os => (fenceModules? p0 ⟨He w.params, #[], dn, 276, os⟩).map (fun s => (s.heap, s.gens, s.drawn, s.toks))) = fun _ => some (Hf w.params, #[], dnf, 276) := by kernel_rfl!
theorem t_size (w : World) : ((Hf w.params).isNs mainGlobals && (#[] : Array GenState).size == 0, (Hf w.params).objs.size, (Hf w.params).nsMap mainGlobals "__annotations__") = (true, 28, annT) := by kernel_rfl!
theorem t_pre (w : World) (os : OsState) : topGo treeTable p0 w 28 annT 12 (Sf w os) (topStub p0) = some (Sp w os, ⟨denote treeTable cT, cT, (PySem.Pos.mk 0 0 0 0), [topFrame qT]⟩) := by kernel_rfl!
theorem t_block (w : World) (os : OsState) : segRun treeTable p0 w 28 annT 1 1 (Sp w os) (blockOf bE envT cT (PySem.Pos.mk 0 0 0 0) [topFrame qT]) = some (.next, Sq w os, cT, (PySem.Pos.mk 0 0 0 0)) := by kernel_rfl!
theorem t_r0 (w : World) (os : OsState) : segRun treeTable p0 w 28 annT 1 506 (Sq w os) (piecesOf ((bE.drop 0).take 16) envT cT (PySem.Pos.mk 0 0 0 0) [topFrame qT]) = some (.next, Sr0 w os, cT, (PySem.Pos.mk 38 0 39 37)) := by kernel_rfl!
theorem t_r1 (w : World) (os : OsState) : segRun treeTable p0 w 28 annT 1 433 (Sr0 w os) (piecesOf ((bE.drop 16).take 48) envT cT (PySem.Pos.mk 38 0 39 37) [topFrame qT]) = some (.next, Sr1 w os, cT, (PySem.Pos.mk 87 0 87 11)) := by kernel_rfl!
theorem t_r2 (w : World) (os : OsState) : segRun treeTable p0 w 28 annT 1 979 (Sr1 w os) (piecesOf ((bE.drop 64).take 1) envT cT (PySem.Pos.mk 87 0 87 11) [topFrame qT]) = some (.next, Sr2 w os, cT, (PySem.Pos.mk 88 0 88 17)) :=
  byRow2 "special-get-raises" (P := fun w => segRun treeTable p0 w 28 annT 1 979 (Sr1 w os) (piecesOf ((bE.drop 64).take 1) envT cT (PySem.Pos.mk 87 0 87 11) [topFrame qT]) = some (.next, Sr2 w os, cT, (PySem.Pos.mk 88 0 88 17))) (fun w => by kernel_rfl!) (fun w => by kernel_rfl!) w
theorem t_r3 (w : World) (os : OsState) : segRun treeTable p0 w 28 annT 1 271 (Sr2 w os) (piecesOf ((bE.drop 65).take 10) envT cT (PySem.Pos.mk 88 0 88 17) [topFrame qT]) = some (.next, Sr3 w os, cT, (PySem.Pos.mk 157 0 190 15)) := by kernel_rfl!
theorem t_fin (w : World) (os : OsState) : topRun treeTable p0 w 28 annT 2 (Sr3 w os) ⟨doneF .next, cT, (PySem.Pos.mk 157 0 190 15), [topFrame qT]⟩ = some (Sz w os) := by kernel_rfl!
end Mine
end
section
open PySem PySem.W PyProof.Rows PySem.Calls
set_option maxRecDepth 100000
namespace Mine
theorem step_app {w : World} {os : OsState} {a k n N : Nat} {s s' r : Shared} {p p' : Pos} (h : segRun treeTable p0 w 28 annT 1 n s (piecesOf ((bE.drop a).take k) envT cT p [topFrame qT]) = some (.next, s', cT, p'))
    (g : topRun treeTable p0 w 28 annT N s' (restOf (bE.drop (a + k)) envT cT p' [topFrame qT]) = some r) : topRun treeTable p0 w 28 annT (n + N) s (restOf (bE.drop a) envT cT p [topFrame qT]) = some r := by
  rw [← List.take_append_drop k (bE.drop a)]
  refine piece_app h ?_
  rw [List.drop_drop]
  exact g
theorem bE_end : bE.drop 75 = [] := by kernel_rfl!
theorem t_run (w : World) (os : OsState) : topRun treeTable p0 w 28 annT (12 + (1 + (506 + (433 + (979 + (271 + 2)))))) (Sf w os) (topStub p0) = some (Sz w os) := by
  refine go_top (t_pre w os) (piece_block (t_block w os) ?_)
  refine step_app (a := 0) (k := 16) (os := os) (t_r0 w os) (step_app (a := 16) (k := 48) (os := os) (t_r1 w os) (step_app (a := 64) (k := 1) (os := os) (t_r2 w os) (step_app (a := 65) (k := 10) (os := os) (t_r3 w os) ?_)))
  show topRun treeTable p0 w 28 annT 2 (Sr3 w os) (restOf (bE.drop 75) envT cT _ [topFrame qT]) = _
  rw [bE_end]
  exact piece_nil (t_fin w os)
theorem t_open (w : World) : (fencedOpening treeTable p0 w 4496).map (fun s => (s.heap, s.gens, s.drawn, s.toks)) = some (Hf w.params, #[], dnf, 276) :=
  open_cut (M := 1000) imp_end (by decide) t_fence w
def vIds : List Nat := [2, 3, 4, 5, 6, 7, 8, 9, 10, 15, 16, 67, 68, 69, 70, 71, 72, 73, 74, 75]
noncomputable def qv : Program := view p0 vIds
noncomputable def lz : List Str := (p0.main.scope.names.map (·.1)).filter fun n => !(vIds.map nmAt).any (· == n)
noncomputable abbrev Xt (s : Shared) : Bool := xlAt qv [] s && recOk (RowW.records PySem.Challenge.rw_tl0010_01.row.toRowW) s
noncomputable abbrev Yf (s : Shared) : Heap × Nat := (s.heap, s.toks)
noncomputable abbrev Ya (w : World) : Heap × Nat := (Hz w.params, 706)
theorem t_looks (w : World) : (fun os => ((staticsOk (importedModules p0.main.body) (Hf w.params) (Hz w.params) && namesBound p0 (Hz w.params) && gensDone ⟨Hz w.params, #[], dnz, 706, os⟩ && laidKept (Hf w.params) (Hz w.params)),
    openSeen qv lz (importedModules p0.main.body) Xt true ⟨Hz w.params, #[], dnz, 706, os⟩, Yf ⟨Hz w.params, #[], dnz, 706, os⟩)) = fun _ => (true, openGood qv lz, Ya w) := by kernel_rfl!
theorem left0 : LeftO p0 qv lz Xt Yf Ya 4496 :=
  LeftO.of_pieces (H₀ := Hf) (H₁ := Hz) (gs₀ := #[]) (gs₁ := #[]) (d₀ := dnf) (d₁ := dnz) (k₀ := 276) (k₁ := 706) (m₀ := 28) (ann := annT) t_open t_size t_run (by decide) t_looks
end Mine
end
section
open PySem PySem.W PyProof.Rows PySem.Calls
set_option maxRecDepth 100000
set_option maxHeartbeats 4000000
namespace Mine
noncomputable def law1 : DefRec := ⟨nmAt 75, paAt 75, bdAt 75, scAt 75, match defOf qv (Str.ofString "law") with | some (d, _) => d.pos | none => default⟩
theorem t_def : defOf qv (Str.ofString "law") = some (law1, []) := by kernel_rfl!
theorem t_the : p0.theDef (Str.ofString "law") = some (law1.params, law1.body, law1.scope) := by kernel_rfl!
theorem t_kw : kwWritten? law1.params.kwonlyargs law1.params.kw_defaults = some [] := by kernel_rfl!
theorem t_ok : (chainsOk qv && opensWell p0 && (frees PySem.Challenge.rw_tl0010_01.row.toRowW && PySem.Challenge.rw_tl0010_01.row.within.isEmpty)) = true := by kernel_rfl!
theorem t_prom : PySem.Challenge.rw_tl0010_01.row.toRowW.promised := by w_witness2
theorem t_bare : p0.bare := ⟨rfl, rfl, rfl, rfl, rfl, by decide +kernel⟩
theorem of_walk (hc : WalkX qv lz (XL qv []) Yf Ya PySem.Challenge.rw_tl0010_01.row.toRowW law1 [] fun f vs => PySem.call f vs) : PySem.Challenge.rw_tl0010_01.Holds := by
  w_on; o_law
  exact holds_openX (q := qv) (loose := lz) (Xt := Xt) (XP := XL qv []) (Yf := Yf) (Ya := Ya) (N := 4496) left0 (fun s e => xl_of s (Bool.and_eq_true_iff.mp e).1) XL.keeps t_def t_the t_kw (fun s e => recFacts_of (Bool.and_eq_true_iff.mp e).2) (by rfl) (by assumption) t_ok t_bare t_prom hc
end Mine
end
section
open PySem PySem.W PyProof.Rows PySem.Calls PySem.Sre
set_option maxRecDepth 100000
namespace Mine
noncomputable section
abbrev c1 : Array Nat := #[14, 4, 0, 1, 1, 6, 1, 16, 46, 1]
abbrev c2 : Array Nat := #[14, 9, 4, 1, 2, 16, 10, 16, 13, 0, 7, 7, 16, 13, 16, 10, 15, 18, 5, 16, 10, 15, 13, 11, 16, 13, 5, 5, 0, 16, 10, 1, 15, 2, 0, 1]
theorem exec_lit (m : M) (h0 : ops[m.code.getD m.pc 0]? = some .LITERAL) : m.exec =
    if m.pos ≥ m.lim then { m with seen := m.seen.add (m.word 0) }.say false
    else if m.text.getD m.pos 0 = m.word 1 then { m with seen := m.seen.add (m.word 0), pc := m.pc + 2, pos := m.pos + 1 } else { m with seen := m.seen.add (m.word 0) }.say false := by
  unfold M.exec
  have hw : m.word 0 = m.code.getD m.pc 0 := rfl
  rw [hw, h0]
  by_cases h : m.pos ≥ m.lim
  · simp [h]
  · simp only [h, if_false]
    have hw1 : m.word 1 = m.code.getD (m.pc + 1) 0 := rfl
    unfold accepts itemWidth
    simp only [h0]
    rw [← hw1]
    by_cases h2 : m.text.getD m.pos 0 = m.word 1
    · simp only [h2, beq_self_eq_true, if_true]
    · simp only [beq_eq_false_iff_ne.mpr h2, h2, if_false]
theorem exec_jump (m : M) (h0 : ops[m.code.getD m.pc 0]? = some .JUMP) : m.exec = { m with seen := m.seen.add (m.word 0), pc := m.pc + 1 + m.word 1 } := by
  unfold M.exec
  have hw : m.word 0 = m.code.getD m.pc 0 := rfl
  rw [hw, h0]
  rfl
theorem exec_branch (m : M) (h0 : ops[m.code.getD m.pc 0]? = some .BRANCH) : m.exec = { m with seen := m.seen.add (m.word 0) }.alternative (m.pc + 1) (m.keep m.inner.isSome) := by
  unfold M.exec
  have hw : m.word 0 = m.code.getD m.pc 0 := rfl
  rw [hw, h0]
  rfl
theorem exec_success (m : M) (h0 : ops[m.code.getD m.pc 0]? = some .SUCCESS) (hw : m.wholeText = false) (hm : m.mustAdvance = false) : m.exec = { m with seen := m.seen.add (m.word 0), handed := m.pos }.say true := by
  unfold M.exec
  have hw' : m.word 0 = m.code.getD m.pc 0 := rfl
  rw [hw', h0]
  simp [hw, hm]
theorem exec_assertNot (m : M) (h0 : ops[m.code.getD m.pc 0]? = some .ASSERT_NOT) (hb : m.word 2 = 0) (hi : m.inner = none) : m.exec =
    { m with seen := m.seen.add (m.word 0) }.attempt { m.frame .lookNot with kept := m.keep false } (m.pc + 3) m.pos false := by
  unfold M.exec
  have hw' : m.word 0 = m.code.getD m.pc 0 := rfl
  have hb' : ({ m with seen := m.seen.add (m.word 0) } : M).word 2 = 0 := hb
  rw [hw'] at hb' ⊢
  rw [h0]
  have hl : ¬ m.pos < ({ m with seen := m.seen.add (m.code.getD m.pc 0) } : M).word 2 := by rw [hb']; exact Nat.not_lt_zero _
  dsimp only
  rw [if_neg hl, hb', hi]
  rfl
theorem exec_atBol (m : M) (h0 : ops[m.code.getD m.pc 0]? = some .AT) (h1 : m.word 1 = 1) : m.exec =
    if m.pos = 0 ∨ m.text.getD (m.pos - 1) 0 = 10 then { m with seen := (m.seen.add (m.word 0)).add 44, pc := m.pc + 2 } else { m with seen := (m.seen.add (m.word 0)).add 44 }.say false := by
  unfold M.exec
  have hw' : m.word 0 = m.code.getD m.pc 0 := rfl
  have h1' : ({ m with seen := m.seen.add (m.word 0) } : M).word 1 = 1 := h1
  rw [hw'] at h1' ⊢
  rw [h0]
  simp only [h1']
  unfold M.isAt
  simp only
  by_cases h : m.pos = 0 ∨ m.text.getD (m.pos - 1) 0 = 10
  · rw [if_pos h]
    have : (m.pos == 0 || m.text.getD (m.pos - 1) 0 == 10) = true := by simpa using h
    rw [this]; rfl
  · rw [if_neg h]
    have : (m.pos == 0 || m.text.getD (m.pos - 1) 0 == 10) = false := by simpa using h
    rw [this]; rfl
/-- k steps lead from m to m' -/
def Reach (m m' : M) (k : Nat) : Prop := ∀ n, M.runFor (k + n) m = M.runFor n m'
theorem Reach.refl (m : M) : Reach m m 0 := fun n => by rw [Nat.zero_add]
theorem Reach.trans {m m' m'' : M} {k k' : Nat} (a : Reach m m' k) (b : Reach m' m'' k') : Reach m m'' (k + k') := fun n => by rw [Nat.add_assoc, a, b]
theorem Reach.step {m m' m'' : M} {k : Nat} (h : m.outcome = none) (e : m.step = m') (b : Reach m' m'' k) : Reach m m'' (1 + k) := fun n => by
  rw [Nat.add_assoc, Nat.add_comm 1]
  show (if m.outcome.isSome then m else M.runFor (k + n) m.step) = _
  rw [h, e]
  exact b n
theorem runFor_done {m : M} (h : m.outcome.isSome = true) : ∀ n, M.runFor n m = m
  | 0 => rfl
  | n + 1 => by show (if m.outcome.isSome then m else _) = m; rw [if_pos h]
theorem runFor_add (m : M) : ∀ a b, M.runFor (a + b) m = M.runFor b (M.runFor a m)
  | 0, b => by rw [Nat.zero_add]; rfl
  | a + 1, b => by
    rw [Nat.add_right_comm]
    show (if m.outcome.isSome then m else M.runFor (a + b) m.step) = M.runFor b (if m.outcome.isSome then m else M.runFor a m.step)
    by_cases h : m.outcome.isSome = true
    · rw [if_pos h, if_pos h, runFor_done h]
    · rw [if_neg h, if_neg h, runFor_add]
section
variable {prog : Program} {w : World} {A : Around} {E : Value → Shared → Prop} {s : Shared}
open PySem.Builtin.Re
theorem drive {mf : M} {Q : M → Shared → Prop} (hf : mf.outcome.isSome = true) (h : Q mf s) : ∀ (t : Nat) (m : M), M.runFor (4 * (t + 1)) m = mf → wpAny (model prog w) A (reDrive (t + 1) m) Q E s := by
  intro t
  induction t with
  | zero =>
    intro m e
    have e' : M.runFor 4 m = mf := e
    show wpAny _ _ (if (M.runFor 4 m).outcome.isSome then pure (M.runFor 4 m) else _) _ _ s
    rw [e', if_pos hf]
    exact wpAny_pure h
  | succ t ih =>
    intro m e
    show wpAny _ _ (if (M.runFor 4 m).outcome.isSome then pure (M.runFor 4 m) else (rule "sre.turn" >>= fun _ => reDrive (t + 1) (M.runFor 4 m))) _ _ s
    have e1 : M.runFor (4 * (t + 1)) (M.runFor 4 m) = mf := by rw [← runFor_add]; rw [← e]; congr 1; omega
    by_cases hq : (M.runFor 4 m).outcome.isSome = true
    · rw [if_pos hq]
      rw [runFor_done hq] at e1
      rw [e1]; exact wpAny_pure h
    · rw [if_neg hq]
      exact wpAny_bind (wpAny_rule (ih _ e1))
theorem seen_rules (f : Nat → Bool) (g : Nat → String) {Q : PUnit → Shared → Prop} (h : Q ⟨⟩ s) : ∀ l : List Nat, wpAny (model prog w) A (forIn l PUnit.unit fun i _ => do
    if f i then rule (g i)
    pure (ForInStep.yield PUnit.unit)) Q E s := by
  intro l
  induction l with
  | nil => exact wpAny_pure h
  | cons i l ih =>
    rw [List.forIn_cons]
    refine wpAny_bind ?_
    by_cases hf : f i = true
    · simp only [hf, if_true]
      exact wpAny_bind (wpAny_rule (wpAny_pure ih))
    · simp only [Bool.not_eq_true] at hf
      simp only [hf, Bool.false_eq_true, if_false]
      exact wpAny_pure ih
theorem runToEnd {m mf : M} {k : Nat} {Q : Option M → Shared → Prop} (hr : Reach m mf k) (hk : k ≤ 2 ^ 60)
    (h : (mf.outcome = some .matched ∧ Q (some mf) s) ∨ (mf.outcome = some .failed ∧ Q none s)) : wpAny (model prog w) A (reRunToEnd m) Q E s := by
  have hs : mf.outcome.isSome = true := by rcases h with h | h <;> rw [h.1] <;> rfl
  unfold reRunToEnd
  refine wpAny_bind ?_
  have e : M.runFor (4 * ((2 ^ 64 - 1) + 1)) m = mf := by
    have : 4 * ((2 ^ 64 - 1) + 1) = k + (4 * ((2 ^ 64 - 1) + 1) - k) := by omega
    rw [this, hr, runFor_done hs]
  refine drive (t := 2 ^ 64 - 1) hs ?_ m e
  refine wpAny_bind (seen_rules _ _ ?_ _)
  rcases h with h | h
  · rw [h.1]; exact wpAny_pure h.2
  · rw [h.1]; exact wpAny_pure h.2
end
end
end Mine
end
section
open PySem PySem.W PyProof.Rows PySem.Calls PySem.Sre
set_option maxRecDepth 100000
namespace Mine
noncomputable section
abbrev SFrame := PySem.Sre.Frame
abbrev k00 : Sre.Kept := { lastmark := -1, lastindex := -1, whole := false, marks := #[] }
noncomputable def ms (c T : Array Nat) (lim st pc pos hd : Nat) (om : Bool) (fr : List SFrame) (wt : Nat) (an : Option Bool) (sn : Sre.Seen) (oc : Option Sre.Outcome) : M :=
  { code := c, text := T, lim, start := st, lastStart := lim, wholeText := false, mustAdvance := false, pc, pos, handed := hd, outermost := om, marks := #[], lastmark := -1, lastindex := -1, loops := #[], inner := none, frames := fr, weight := wt, answer := an, seen := sn, outcome := oc }
section
variable {c T : Array Nat} {lim st pc pos hd : Nat} {om : Bool} {fr : List SFrame} {wt : Nat} {sn : Sre.Seen}
theorem st_exec (hpc : pc < c.size) : (ms c T lim st pc pos hd om fr wt none sn none).step = (ms c T lim st pc pos hd om fr wt none sn none).exec := by
  show (if pc < c.size then _ else _) = _
  rw [if_pos hpc]
theorem st_lit_ok (hc : c.getD pc 0 = 16) (hpc : pc < c.size) (h1 : pos < lim) (h2 : T.getD pos 0 = c.getD (pc + 1) 0) :
    (ms c T lim st pc pos hd om fr wt none sn none).step = ms c T lim st (pc + 2) (pos + 1) hd om fr wt none (sn.add 16) none := by
  rw [st_exec hpc, exec_lit _ (by show ops[c.getD pc 0]? = _; rw [hc]; rfl)]
  refine (if_neg (show ¬ pos ≥ lim from Nat.not_le.mpr h1)).trans ((if_pos (show T.getD pos 0 = c.getD (pc + 1) 0 from h2)).trans ?_)
  show ms c T lim st (pc + 2) (pos + 1) hd om fr wt none (sn.add (c.getD pc 0)) none = _
  rw [hc]
theorem st_lit_no (hc : c.getD pc 0 = 16) (hpc : pc < c.size) (h : pos < lim → T.getD pos 0 ≠ c.getD (pc + 1) 0) :
    (ms c T lim st pc pos hd om fr wt none sn none).step = ms c T lim st pc pos hd om fr wt (some false) (sn.add 16) none := by
  rw [st_exec hpc, exec_lit _ (by show ops[c.getD pc 0]? = _; rw [hc]; rfl)]
  have e : ({ ms c T lim st pc pos hd om fr wt none sn none with seen := sn.add (c.getD pc 0) } : M).say false = ms c T lim st pc pos hd om fr wt (some false) (sn.add 16) none := by rw [hc]; rfl
  by_cases h1 : pos < lim
  · exact (if_neg (show ¬ pos ≥ lim from Nat.not_le.mpr h1)).trans ((if_neg (show ¬ T.getD pos 0 = c.getD (pc + 1) 0 from h h1)).trans e)
  · exact (if_pos (show pos ≥ lim from Nat.not_lt.mp h1)).trans e
theorem st_jump (hc : c.getD pc 0 = 15) (hpc : pc < c.size) : (ms c T lim st pc pos hd om fr wt none sn none).step = ms c T lim st (pc + 1 + c.getD (pc + 1) 0) pos hd om fr wt none (sn.add 15) none := by
  rw [st_exec hpc, exec_jump _ (by show ops[c.getD pc 0]? = _; rw [hc]; rfl)]
  show ms c T lim st (pc + 1 + c.getD (pc + 1) 0) pos hd om fr wt none (sn.add (c.getD pc 0)) none = _
  rw [hc]
theorem st_succ (hc : c.getD pc 0 = 1) (hpc : pc < c.size) : (ms c T lim st pc pos hd om fr wt none sn none).step = ms c T lim st pc pos pos om fr wt (some true) (sn.add 1) none := by
  rw [st_exec hpc, exec_success _ (by show ops[c.getD pc 0]? = _; rw [hc]; rfl) rfl rfl]
  show ms c T lim st pc pos pos om fr wt (some true) (sn.add (c.getD pc 0)) none = _
  rw [hc]
theorem attempt_ms {an : Option Bool} (f : SFrame) (hf : f.kept.marks = #[]) (hw : wt + 1 ≤ 16777216) (pc' pos' : Nat) (om' : Bool) :
    M.attempt (ms c T lim st pc pos hd om fr wt an sn none) f pc' pos' om' = ms c T lim st pc' pos' pos' om' (f :: fr) (wt + 1) an sn none := by
  unfold M.attempt
  have : f.kept.marks.size = 0 := by rw [hf]; rfl
  rw [this]
  exact if_neg (show ¬ wt + 1 + 0 > 16777216 by omega)
theorem alt_ms {an : Option Bool} (alt : Nat) (h : c.getD alt 0 ≠ 0) (hw : wt + 1 ≤ 16777216) : M.alternative (ms c T lim st pc pos hd om fr wt an sn none) alt k00 =
    ms c T lim st (alt + 1) pos pos om ({ wait := .nextBranch, pc := alt, pos, outermost := om, kept := k00 } :: fr) (wt + 1) an sn none := by
  unfold M.alternative
  have : (c.getD alt 0 == 0) = false := beq_eq_false_iff_ne.mpr h
  show (if (c.getD alt 0 == 0) = true then _ else _) = _
  rw [this]
  exact attempt_ms _ rfl hw _ _ _
theorem st_branch (hc : c.getD pc 0 = 7) (hpc : pc < c.size) (hn : c.getD (pc + 1) 0 ≠ 0) (hw : wt + 1 ≤ 16777216) : (ms c T lim st pc pos hd om fr wt none sn none).step =
    ms c T lim st (pc + 2) pos pos om ({ wait := .nextBranch, pc := pc + 1, pos, outermost := om, kept := k00 } :: fr) (wt + 1) none (sn.add 7) none := by
  rw [st_exec hpc, exec_branch _ (by show ops[c.getD pc 0]? = _; rw [hc]; rfl)]
  have : ({ ms c T lim st pc pos hd om fr wt none sn none with seen := sn.add (c.getD pc 0) } : M) = ms c T lim st pc pos hd om fr wt none (sn.add 7) none := by rw [hc]; rfl
  exact (congrArg (fun m => M.alternative m (pc + 1) k00) this).trans (alt_ms _ hn hw)
theorem st_assertNot (hc : c.getD pc 0 = 5) (hpc : pc < c.size) (hb : c.getD (pc + 2) 0 = 0) (hw : wt + 1 ≤ 16777216) : (ms c T lim st pc pos hd om fr wt none sn none).step =
    ms c T lim st (pc + 3) pos pos false ({ wait := .lookNot, pc, pos, outermost := om, kept := k00 } :: fr) (wt + 1) none (sn.add 5) none := by
  rw [st_exec hpc, exec_assertNot (ms c T lim st pc pos hd om fr wt none sn none) (by show ops[c.getD pc 0]? = _; rw [hc]; rfl) hb rfl]
  have : ({ ms c T lim st pc pos hd om fr wt none sn none with seen := sn.add (c.getD pc 0) } : M) = ms c T lim st pc pos hd om fr wt none (sn.add 5) none := by rw [hc]; rfl
  exact (congrArg (fun m => M.attempt m _ (pc + 3) pos false) this).trans (attempt_ms _ rfl hw _ _ _)
theorem st_bol_ok (hc : c.getD pc 0 = 6) (hpc : pc < c.size) (h1 : c.getD (pc + 1) 0 = 1) (h : pos = 0 ∨ T.getD (pos - 1) 0 = 10) :
    (ms c T lim st pc pos hd om fr wt none sn none).step = ms c T lim st (pc + 2) pos hd om fr wt none ((sn.add 6).add 44) none := by
  rw [st_exec hpc, exec_atBol (ms c T lim st pc pos hd om fr wt none sn none) (by show ops[c.getD pc 0]? = _; rw [hc]; rfl) h1]
  refine (if_pos h).trans ?_
  show ms c T lim st (pc + 2) pos hd om fr wt none ((sn.add (c.getD pc 0)).add 44) none = _
  rw [hc]
theorem st_bol_no (hc : c.getD pc 0 = 6) (hpc : pc < c.size) (h1 : c.getD (pc + 1) 0 = 1) (h : ¬ (pos = 0 ∨ T.getD (pos - 1) 0 = 10)) :
    (ms c T lim st pc pos hd om fr wt none sn none).step = ms c T lim st pc pos hd om fr wt (some false) ((sn.add 6).add 44) none := by
  rw [st_exec hpc, exec_atBol (ms c T lim st pc pos hd om fr wt none sn none) (by show ops[c.getD pc 0]? = _; rw [hc]; rfl) h1]
  refine (if_neg h).trans ?_
  show ms c T lim st pc pos hd om fr wt (some false) ((sn.add (c.getD pc 0)).add 44) none = _
  rw [hc]
-- answers
theorem an_branch_yes {p pos' : Nat} {om' : Bool} : (ms c T lim st pc pos hd om ({ wait := .nextBranch, pc := p, pos := pos', outermost := om', kept := k00 } :: fr) (wt + 1) (some true) sn none).step =
    ms c T lim st p pos' hd om' fr wt (some true) sn none := rfl
theorem an_branch_no {p pos' : Nat} {om' : Bool} (h : c.getD (p + c.getD p 0) 0 ≠ 0) (hw : wt + 1 ≤ 16777216) : (ms c T lim st pc pos hd om ({ wait := .nextBranch, pc := p, pos := pos', outermost := om', kept := k00 } :: fr) (wt + 1) (some false) sn none).step =
    ms c T lim st (p + c.getD p 0 + 1) pos' pos' om' ({ wait := .nextBranch, pc := p + c.getD p 0, pos := pos', outermost := om', kept := k00 } :: fr) (wt + 1) none sn none :=
  alt_ms (c := c) (T := T) (lim := lim) (st := st) (pc := p) (pos := pos') (hd := hd) (om := om') (fr := fr) (wt := wt) (sn := sn) (an := none) (p + c.getD p 0) h hw
theorem an_start_yes {p pos' : Nat} {om' : Bool} : (ms c T lim st pc pos hd om ({ wait := .nextStart, pc := p, pos := pos', outermost := om' } :: fr) (wt + 1) (some true) sn none).step =
    ms c T lim st p pos' hd om' fr wt (some true) sn none := rfl
theorem an_lookNot_no {p pos' : Nat} {om' : Bool} : (ms c T lim st pc pos hd om ({ wait := .lookNot, pc := p, pos := pos', outermost := om', kept := k00 } :: fr) (wt + 1) (some false) sn none).step =
    ms c T lim st (p + 1 + c.getD (p + 1) 0) pos' hd om' fr wt none sn none := rfl
theorem an_end {b : Bool} : (ms c T lim st pc pos hd om [] wt (some b) sn none).step = ms c T lim st pc pos hd om [] wt (some b) sn (some (if b then .matched else .failed)) := rfl
end
section
variable {T : Array Nat} {lim j : Nat} {sn : Sre.Seen} {f0 : Bool}
abbrev fS (j : Nat) (f : Bool) (pc : Nat) : SFrame := { wait := .nextStart, pc, pos := j, outermost := f }
theorem run2_crlf (h0 : j + 1 < lim) (t0 : T.getD j 0 = 13) (t1 : T.getD (j + 1) 0 = 10) : ∃ mf, Reach (ms c2 T lim j 10 j j f0 [fS j f0 10] 1 none sn none) mf 8 ∧ mf.outcome = some .matched ∧ mf.start = j ∧ mf.handed = j + 2 := by
  refine ⟨?_, ?a, ?b⟩
  case a =>
    refine Reach.step (k := 7) rfl (st_branch rfl (by decide) (by decide) (by decide)) ?_
    refine Reach.step (k := 6) rfl (st_lit_ok rfl (by decide) (by omega) t0) ?_
    refine Reach.step (k := 5) rfl (st_lit_ok rfl (by decide) h0 t1) ?_
    refine Reach.step (k := 4) rfl (st_jump rfl (by decide)) ?_
    refine Reach.step (k := 3) rfl (st_succ rfl (by decide)) ?_
    refine Reach.step (k := 2) rfl an_branch_yes ?_
    refine Reach.step (k := 1) rfl an_start_yes ?_
    refine Reach.step (k := 0) rfl an_end ?_
    exact Reach.refl _
  case b => exact ⟨rfl, rfl, rfl⟩
theorem run2_lf (h0 : j < lim) (t0 : T.getD j 0 = 10) : ∃ mf, Reach (ms c2 T lim j 10 j j f0 [fS j f0 10] 1 none sn none) mf 9 ∧ mf.outcome = some .matched ∧ mf.start = j ∧ mf.handed = j + 1 := by
  refine ⟨?_, ?a, ?b⟩
  case a =>
    refine Reach.step (k := 8) rfl (st_branch rfl (by decide) (by decide) (by decide)) ?_
    refine Reach.step (k := 7) rfl (st_lit_no rfl (by decide) fun _ => by rw [t0]; decide) ?_
    refine Reach.step (k := 6) rfl (an_branch_no (by decide) (by decide)) ?_
    refine Reach.step (k := 5) rfl (st_lit_ok rfl (by decide) h0 t0) ?_
    refine Reach.step (k := 4) rfl (st_jump rfl (by decide)) ?_
    refine Reach.step (k := 3) rfl (st_succ rfl (by decide)) ?_
    refine Reach.step (k := 2) rfl an_branch_yes ?_
    refine Reach.step (k := 1) rfl an_start_yes ?_
    refine Reach.step (k := 0) rfl an_end ?_
    exact Reach.refl _
  case b => exact ⟨rfl, rfl, rfl⟩
theorem run2_cr (h0 : j < lim) (t0 : T.getD j 0 = 13) (t1 : j + 1 < lim → T.getD (j + 1) 0 ≠ 10) : ∃ mf, Reach (ms c2 T lim j 10 j j f0 [fS j f0 10] 1 none sn none) mf 15 ∧ mf.outcome = some .matched ∧ mf.start = j ∧ mf.handed = j + 1 := by
  refine ⟨?_, ?a, ?b⟩
  case a =>
    refine Reach.step (k := 14) rfl (st_branch rfl (by decide) (by decide) (by decide)) ?_
    refine Reach.step (k := 13) rfl (st_lit_ok rfl (by decide) h0 t0) ?_
    refine Reach.step (k := 12) rfl (st_lit_no rfl (by decide) t1) ?_
    refine Reach.step (k := 11) rfl (an_branch_no (by decide) (by decide)) ?_
    refine Reach.step (k := 10) rfl (st_lit_no rfl (by decide) fun _ => by rw [t0]; decide) ?_
    refine Reach.step (k := 9) rfl (an_branch_no (by decide) (by decide)) ?_
    refine Reach.step (k := 8) rfl (st_lit_ok rfl (by decide) h0 t0) ?_
    refine Reach.step (k := 7) rfl (st_assertNot rfl (by decide) rfl (by decide)) ?_
    refine Reach.step (k := 6) rfl (st_lit_no rfl (by decide) t1) ?_
    refine Reach.step (k := 5) rfl an_lookNot_no ?_
    refine Reach.step (k := 4) rfl (st_jump rfl (by decide)) ?_
    refine Reach.step (k := 3) rfl (st_succ rfl (by decide)) ?_
    refine Reach.step (k := 2) rfl an_branch_yes ?_
    refine Reach.step (k := 1) rfl an_start_yes ?_
    refine Reach.step (k := 0) rfl an_end ?_
    exact Reach.refl _
  case b => exact ⟨rfl, rfl, rfl⟩
/-- the sign is an end of a line -/
def isNl (c : Nat) : Bool := c == 10 || c == 13
theorem inSet2 (x : Nat) (sn : Sre.Seen) : ∃ sn', inSet c2 x c2.size 5 true sn = .ok (isNl x, sn') := by
  by_cases h : x = 10
  · subst h; exact ⟨_, rfl⟩
  · by_cases h' : x = 13
    · subst h'; exact ⟨_, rfl⟩
    · refine ⟨((sn.add 16).add 16).add 0, ?_⟩
      have e1 : (x == 10) = false := by simpa using h
      have e2 : (x == 13) = false := by simpa using h'
      show (if (x == 10) = true then _ else (if (x == 13) = true then _ else _)) = _
      rw [e1, e2]
      unfold isNl
      rw [e1, e2]
      rfl
theorem getD_at (a b : List Nat) (i k : Nat) (h : a.length = i) : (a ++ b).toArray.getD (i + k) 0 = b.getD k 0 := by
  subst h
  simp [Array.getD_eq_getD_getElem?, List.getElem?_append_right]
theorem admitted2 (m : M) (hc : m.code = c2) (l : List Nat) (hT : m.text = l.toArray) (hl : m.lim = l.length) : ∀ (u pre v : List Nat) (fuel : Nat) (sn : Sre.Seen), l = pre ++ (u ++ v) → (∀ c ∈ u, isNl c = false) → (v = [] ∨ ∃ c r, v = c :: r ∧ isNl c = true) → u.length < fuel →
    ∃ sn', M.admitted m fuel pre.length sn = .ok (if v = [] then none else some (pre.length + u.length), sn')
  | [], pre, v, fuel + 1, sn, e, hu, hv, hf => by
    unfold M.admitted
    rcases hv with rfl | ⟨c, r, rfl, hcn⟩
    · have : pre.length ≥ m.lim := by rw [hl, e]; simp
      rw [if_pos this]; exact ⟨_, rfl⟩
    · have h1 : ¬ pre.length ≥ m.lim := by rw [hl, e]; simp
      have h2 : m.text.getD pre.length 0 = c := by
        have := getD_at pre (c :: r) pre.length 0 rfl
        rw [hT, e]; simpa using this
      obtain ⟨sn', q⟩ := inSet2 c sn
      rw [if_neg h1, h2, hc, q, hcn]
      exact ⟨sn', by simp⟩
  | c :: u, pre, v, fuel + 1, sn, e, hu, hv, hf => by
    unfold M.admitted
    have h1 : ¬ pre.length ≥ m.lim := by rw [hl, e]; simp
    have h2 : m.text.getD pre.length 0 = c := by
      have := getD_at pre ((c :: u) ++ v) pre.length 0 rfl
      rw [hT, e]; simpa using this
    obtain ⟨sn', q⟩ := inSet2 c sn
    rw [if_neg h1, h2, hc, q, hu c (.head _)]
    obtain ⟨sn2, q2⟩ := admitted2 m hc l hT hl u (pre ++ [c]) v fuel sn' (by rw [e]; simp) (fun x hx => hu x (.tail _ hx)) hv (by simpa using hf)
    rw [List.length_append, List.length_singleton] at q2
    refine ⟨sn2, ?_⟩
    show M.admitted m fuel (pre.length + 1) sn' = _
    rw [q2]
    by_cases hq : v = []
    · simp [hq]
    · simp only [hq, if_false, List.length_cons]
      congr 3; omega
theorem forSearch2 (T : Array Nat) (p lim : Nat) (h1 : p ≤ lim) : forSearch c2 T 0 p lim false =
    if lim - p < 1 then { ms c2 T lim p 10 p p true [] 0 (some false) (({} : Sre.Seen).add 14) none with lastStart := 0 } else
      (ms c2 T lim p 10 p p true [] 0 none (({} : Sre.Seen).add 14) none).attemptFrom p true := by
  have : (decide (p > lim)) = false := by simpa using h1
  show (if (decide (p > lim) || decide (lim - p < 1)) = true then _ else _) = _
  rw [this, Bool.false_or]
  by_cases h : lim - p < 1
  · rw [if_pos (decide_eq_true h), if_pos h]; rfl
  · rw [if_neg (by simpa using h), if_neg h]; rfl
theorem search2 (pre u v : List Nat) (hu : ∀ c ∈ u, isNl c = false) (hv : v = [] ∨ ∃ c r, v = c :: r ∧ isNl c = true) :
    ∃ mf k, Reach (forSearch c2 (pre ++ (u ++ v)).toArray 0 pre.length (pre ++ (u ++ v)).length false) mf k ∧ k ≤ 20 ∧
      (if v = [] then mf.outcome = some .failed else mf.outcome = some .matched ∧ mf.start = pre.length + u.length ∧ mf.handed = pre.length + u.length + (if v.take 2 = [13, 10] then 2 else 1)) := by
  rw [forSearch2 _ _ _ (by simp)]
  by_cases hlt : (pre ++ (u ++ v)).length - pre.length < 1
  · have hv0 : v = [] := by
      rcases hv with rfl | ⟨c, r, rfl, _⟩
      · rfl
      · simp at hlt
    rw [if_pos hlt]
    refine ⟨_, 1, Reach.step (k := 0) rfl rfl (Reach.refl _), by decide, ?_⟩
    rw [if_pos hv0]; rfl
  · rw [if_neg hlt]
    obtain ⟨sn', q⟩ := admitted2 (ms c2 (pre ++ (u ++ v)).toArray (pre ++ (u ++ v)).length pre.length 10 pre.length pre.length true [] 0 none (({} : Sre.Seen).add 14) none) rfl (pre ++ (u ++ v)) rfl rfl u pre v ((pre ++ (u ++ v)).length + 1 - pre.length) (({} : Sre.Seen).add 14) rfl hu hv (by simp; omega)
    have e : (ms c2 (pre ++ (u ++ v)).toArray (pre ++ (u ++ v)).length pre.length 10 pre.length pre.length true [] 0 none (({} : Sre.Seen).add 14) none).attemptFrom pre.length true =
        (match M.admitted (ms c2 (pre ++ (u ++ v)).toArray (pre ++ (u ++ v)).length pre.length 10 pre.length pre.length true [] 0 none (({} : Sre.Seen).add 14) none) ((pre ++ (u ++ v)).length + 1 - pre.length) pre.length (({} : Sre.Seen).add 14) with
          | .ok (some s, seen) => ({ ms c2 (pre ++ (u ++ v)).toArray (pre ++ (u ++ v)).length pre.length 10 pre.length pre.length true [] 0 none (({} : Sre.Seen).add 14) none with mustAdvance := false, seen } : M).attemptAt s true
          | .ok (none, seen) => ({ ms c2 (pre ++ (u ++ v)).toArray (pre ++ (u ++ v)).length pre.length 10 pre.length pre.length true [] 0 none (({} : Sre.Seen).add 14) none with seen } : M).say false
          | .error why => (ms c2 (pre ++ (u ++ v)).toArray (pre ++ (u ++ v)).length pre.length 10 pre.length pre.length true [] 0 none (({} : Sre.Seen).add 14) none).stick why) := rfl
    rw [e, q]
    by_cases hq : v = []
    · subst hq
      refine ⟨_, 1, Reach.step (k := 0) rfl rfl (Reach.refl _), by decide, ?_⟩
      rw [if_pos rfl]; rfl
    · rw [if_neg hq]
      have ha : ∀ j, ({ ms c2 (pre ++ (u ++ v)).toArray (pre ++ (u ++ v)).length pre.length 10 pre.length pre.length true [] 0 none (({} : Sre.Seen).add 14) none with mustAdvance := false, seen := sn' } : M).attemptAt j true =
          ms c2 (pre ++ (u ++ v)).toArray (pre ++ (u ++ v)).length j 10 j j true [fS j true 10] 1 none sn' none := fun j => attempt_ms (c := c2) (st := j) (pc := 10) (pos := j) (hd := pre.length) (om := true) (fr := []) (wt := 0) (an := none) (fS j true 10) rfl (by decide) 10 j true
      show ∃ mf k, Reach (M.attemptAt _ _ true) mf k ∧ _
      rw [ha]
      obtain ⟨c, r, rfl, hc⟩ := hv.resolve_left hq
      have hj : pre.length + u.length < (pre ++ (u ++ c :: r)).length := by simp
      have hT : ∀ k, (pre ++ (u ++ c :: r)).toArray.getD (pre.length + u.length + k) 0 = (c :: r).getD k 0 := fun k => by
        rw [← List.append_assoc]; exact getD_at (pre ++ u) (c :: r) _ k (by simp)
      simp only [hq, if_false]
      by_cases h10 : c = 10
      · subst h10
        obtain ⟨mf, a, b, d, g⟩ := run2_lf (sn := sn') (f0 := true) hj (hT 0)
        exact ⟨mf, 9, a, by decide, b, d, by rw [g]; simp⟩
      · have h13 : c = 13 := by simpa [isNl, h10] using hc
        subst h13
        cases r with
        | nil =>
          obtain ⟨mf, a, b, d, g⟩ := run2_cr (sn := sn') (f0 := true) hj (hT 0) (fun h => absurd h (by simp; omega))
          exact ⟨mf, 15, a, by decide, b, d, by rw [g]; simp⟩
        | cons c' r =>
          by_cases h' : c' = 10
          · subst h'
            obtain ⟨mf, a, b, d, g⟩ := run2_crlf (sn := sn') (f0 := true) (lim := (pre ++ (u ++ 13 :: 10 :: r)).length) (j := pre.length + u.length) (by simp; omega) (hT 0) (hT 1)
            exact ⟨mf, 8, a, by decide, b, d, by rw [g]; simp⟩
          · obtain ⟨mf, a, b, d, g⟩ := run2_cr (sn := sn') (f0 := true) hj (hT 0) (fun _ => by rw [hT 1]; simpa using h')
            exact ⟨mf, 15, a, by decide, b, d, by rw [g]; simp [h']⟩
end
end
end Mine
end
section
open PySem PySem.W PyProof.Rows PySem.Calls PySem.Sre
set_option maxRecDepth 100000
namespace Mine
noncomputable section
/-- no place of the row begins a line with a dot; b: the row begins a line -/
def NoM : Bool → List Nat → Prop
  | _, [] => True
  | b, c :: u => ¬ (b = true ∧ c = 46) ∧ NoM (c == 10) u
def bolAfter : Bool → List Nat → Bool
  | b, [] => b
  | _, c :: u => bolAfter (c == 10) u
section
variable {T : Array Nat} {lim st pc pos hd j : Nat} {om f : Bool} {sn : Sre.Seen}
theorem an_start_no (h : j < lim) : (ms c1 T lim st pc pos hd om [fS j f 5] 1 (some false) sn none).step = ms c1 T lim (j + 1) 5 (j + 1) (j + 1) false [fS (j + 1) false 5] 1 none sn none := by
  show (if j < lim then _ else _) = _
  rw [if_pos h]
  exact attempt_ms (c := c1) (st := j + 1) (pc := 5) (pos := j + 1) (hd := hd) (om := f) (fr := []) (wt := 0) (an := none) (fS (j + 1) false 5) rfl (by decide) 5 (j + 1) false
theorem an_start_last (h : ¬ j < lim) : (ms c1 T lim st pc pos hd om [fS j f 5] 1 (some false) sn none).step = ms c1 T lim st 5 j hd f [] 0 (some false) sn none := by
  show (if j < lim then _ else _) = _
  rw [if_neg h]
  rfl
theorem run1 (l : List Nat) : ∀ (u pre v : List Nat) (b f : Bool) (sn : Sre.Seen), l = pre ++ (u ++ v) → ((pre.length = 0 ∨ l.toArray.getD (pre.length - 1) 0 = 10) ↔ b = true) → NoM b u → (v = [] ∨ (bolAfter b u = true ∧ ∃ r, v = 46 :: r)) →
    ∃ mf k, Reach (ms c1 l.toArray l.length pre.length 5 pre.length pre.length f [fS pre.length f 5] 1 none sn none) mf k ∧ k ≤ 4 * u.length + 6 ∧
      (if v = [] then mf.outcome = some .failed else mf.outcome = some .matched ∧ mf.start = pre.length + u.length ∧ mf.handed = pre.length + u.length + 1)
  | [], pre, v, b, f, sn, e, hb, hu, hv => by
    rcases hv with rfl | ⟨hbt, r, rfl⟩
    · have hl : ¬ pre.length < l.length := by rw [e]; simp
      by_cases hbb : b = true
      · refine ⟨?mf1, 4, ?a, by simp, ?b⟩
        case a =>
          refine Reach.step (k := 3) rfl (st_bol_ok rfl (by decide) rfl (hb.mpr hbb)) ?_
          refine Reach.step (k := 2) rfl (st_lit_no rfl (by decide) fun h => absurd h hl) ?_
          refine Reach.step (k := 1) rfl (an_start_last hl) ?_
          refine Reach.step (k := 0) rfl an_end ?_
          exact Reach.refl _
        case b => rw [if_pos rfl]; rfl
      · refine ⟨?mf2, 3, ?a, by simp, ?b⟩
        case a =>
          refine Reach.step (k := 2) rfl (st_bol_no rfl (by decide) rfl (fun h => hbb (hb.mp h))) ?_
          refine Reach.step (k := 1) rfl (an_start_last hl) ?_
          refine Reach.step (k := 0) rfl an_end ?_
          exact Reach.refl _
        case b => rw [if_pos rfl]; rfl
    · have hl : pre.length < l.length := by rw [e]; simp
      have hT : l.toArray.getD pre.length 0 = 46 := by rw [e]; exact getD_at pre (46 :: r) pre.length 0 rfl
      refine ⟨?mf3, 5, ?a, by simp, ?b⟩
      case a =>
        refine Reach.step (k := 4) rfl (st_bol_ok rfl (by decide) rfl (hb.mpr hbt)) ?_
        refine Reach.step (k := 3) rfl (st_lit_ok rfl (by decide) hl hT) ?_
        refine Reach.step (k := 2) rfl (st_succ rfl (by decide)) ?_
        refine Reach.step (k := 1) rfl an_start_yes ?_
        refine Reach.step (k := 0) rfl an_end ?_
        exact Reach.refl _
      case b => rw [if_neg (by simp)]; exact ⟨rfl, rfl, rfl⟩
  | c :: u, pre, v, b, f, sn, e, hb, hu, hv => by
    have hl : pre.length < l.length := by rw [e]; simp
    have hT : l.toArray.getD pre.length 0 = c := by rw [e]; exact getD_at pre (c :: (u ++ v)) pre.length 0 rfl
    have e' : l = (pre ++ [c]) ++ (u ++ v) := by rw [e]; simp
    have hlen : (pre ++ [c]).length = pre.length + 1 := by simp
    have next : ∀ sn', ∃ mf k, Reach (ms c1 l.toArray l.length (pre.length + 1) 5 (pre.length + 1) (pre.length + 1) false [fS (pre.length + 1) false 5] 1 none sn' none) mf k ∧ k ≤ 4 * u.length + 6 ∧
        (if v = [] then mf.outcome = some .failed else mf.outcome = some .matched ∧ mf.start = pre.length + (u.length + 1) ∧ mf.handed = pre.length + (u.length + 1) + 1) := fun sn' => by
      have := run1 l u (pre ++ [c]) v (c == 10) false sn' e' (by rw [hlen]; simp only [Nat.add_sub_cancel, hT, beq_iff_eq]; omega) hu.2 hv
      rw [hlen] at this
      obtain ⟨mf, k, a, b, d⟩ := this
      exact ⟨mf, k, a, b, by rw [Nat.add_comm u.length 1, ← Nat.add_assoc]; exact d⟩
    by_cases hbb : b = true
    · obtain ⟨mf, k, a, hk, d⟩ := next (((sn.add 6).add 44).add 16)
      refine ⟨mf, 1 + (1 + (1 + k)), ?_, by simp; omega, d⟩
      refine Reach.step rfl (st_bol_ok rfl (by decide) rfl (hb.mpr hbb)) ?_
      refine Reach.step rfl (st_lit_no rfl (by decide) fun _ => by rw [hT]; exact fun h => hu.1 ⟨hbb, h⟩) ?_
      exact Reach.step rfl (an_start_no hl) a
    · obtain ⟨mf, k, a, hk, d⟩ := next ((sn.add 6).add 44)
      refine ⟨mf, 1 + (1 + k), ?_, by simp; omega, d⟩
      refine Reach.step rfl (st_bol_no rfl (by decide) rfl (fun h => hbb (hb.mp h))) ?_
      exact Reach.step rfl (an_start_no hl) a
end
theorem forSearch1 (T : Array Nat) (p lim : Nat) (h1 : p ≤ lim) : forSearch c1 T 0 p lim false =
    if lim - p < 1 then { ms c1 T lim p 5 p p true [] 0 (some false) (({} : Sre.Seen).add 14) none with lastStart := 0 } else
      ms c1 T lim p 5 p p true [fS p true 5] 1 none (({} : Sre.Seen).add 14) none := by
  have : (decide (p > lim)) = false := by simpa using h1
  show (if (decide (p > lim) || decide (lim - p < 1)) = true then _ else _) = _
  rw [this, Bool.false_or]
  by_cases h : lim - p < 1
  · rw [if_pos (decide_eq_true h), if_pos h]; rfl
  · rw [if_neg (by simpa using h), if_neg h]
    exact attempt_ms (c := c1) (st := p) (pc := 5) (pos := p) (hd := p) (om := true) (fr := []) (wt := 0) (an := none) (fS p true 5) rfl (by decide) 5 p true
theorem search1 (pre u v : List Nat) (b : Bool) (hb : (pre.length = 0 ∨ (pre ++ (u ++ v)).toArray.getD (pre.length - 1) 0 = 10) ↔ b = true) (hu : NoM b u) (hv : v = [] ∨ (bolAfter b u = true ∧ ∃ r, v = 46 :: r)) :
    ∃ mf k, Reach (forSearch c1 (pre ++ (u ++ v)).toArray 0 pre.length (pre ++ (u ++ v)).length false) mf k ∧ k ≤ 4 * u.length + 6 ∧
      (if v = [] then mf.outcome = some .failed else mf.outcome = some .matched ∧ mf.start = pre.length + u.length ∧ mf.handed = pre.length + u.length + 1) := by
  rw [forSearch1 _ _ _ (by simp)]
  by_cases hlt : (pre ++ (u ++ v)).length - pre.length < 1
  · have hv0 : v = [] := by
      rcases hv with rfl | ⟨_, r, rfl⟩
      · rfl
      · simp at hlt
    rw [if_pos hlt]
    refine ⟨_, 1, Reach.step (k := 0) rfl rfl (Reach.refl _), by omega, ?_⟩
    rw [if_pos hv0]; rfl
  · rw [if_neg hlt]
    exact run1 _ u pre v b true _ rfl hb hu hv
end
end Mine
end
section
open PySem PySem.W PyProof.Rows PySem.Calls PySem.Builtin.Re
set_option maxRecDepth 100000
namespace Mine
noncomputable section
abbrev S (l : List Nat) : Str := ⟨l.toArray⟩
theorem S_app (a b : List Nat) : S a ++ S b = S (a ++ b) := by show (⟨a.toArray ++ b.toArray⟩ : Str) = ⟨(a ++ b).toArray⟩; simp
theorem S_len (a : List Nat) : (S a).length = a.length := by show a.toArray.size = _; simp
theorem S_inj {a b : List Nat} : S a = S b ↔ a = b := by
  constructor
  · intro h; have := congrArg (fun s : Str => s.cps.toList) h; simpa using this
  · intro h; rw [h]
theorem slot_pat_sub : Slot "re.Pattern" "sub" "re.Pattern.sub" :=
  .of (owner := "re.Pattern") (n := "sub") (by rw [typeLookup_type, builtinLookup_eq_fast]; kernel_rfl) (by decide +kernel) (by decide +kernel) (by decide +kernel)
    (by first | exact .inl (by decide +kernel) | exact .inr (by decide +kernel)) (by rw [isSubtype_type]; kernel_rfl)
theorem entry_pat_sub : entryFor table "re.Pattern.sub" = some Builtin.«re.Pattern.sub» := entryFor_of_tree (by kernel_rfl)
theorem entry_pat_loop : entryFor table "re.Pattern.sub.loop" = some Builtin.«re.Pattern.sub.loop» := entryFor_of_tree (by kernel_rfl)
theorem plainAttrs_pat : PlainAttrs "re.Pattern" :=
  ⟨⟨"object.__getattribute__", by rw [typeLookup_type, builtinLookup_eq_fast]; kernel_rfl, by decide +kernel⟩, by rw [typeLookup_type, builtinLookup_eq_fast]; kernel_rfl⟩
theorem type_pat_sub : typeOf (.builtin "re.Pattern.sub") = pure (.type "method_descriptor") := by show builtinType _ = _; rw [builtinType_eq_fast]; kernel_rfl
theorem quiet_pat_loop (args : Args) : (Code.builtin "re.Pattern.sub.loop" args).quiet = true := Code.quiet_builtin args (by decide +kernel)
theorem args_pat_sub (a b c : Value) : argsOk "re.Pattern.sub" ⟨[a, b, c], []⟩ := by unfold argsOk; kernel_rfl
theorem named_pat_sub (a b : Value) : reNamed "re.Pattern.sub" "sub" ["repl", "string", "count"] 2 [a, b] [] = pure [some a, some b, none] := by rfl
end
end Mine
end
section
open PySem PySem.W PyProof.Rows PySem.Calls PySem.Builtin.Re PySem.Builtin
set_option maxRecDepth 100000
namespace Mine
noncomputable section
structure PatAt (h : Heap) (pa ca : Addr) (c : List Int) : Prop where
  pat : ∃ x t fl ft, h.get? pa = some (patObj x t fl ft ca)
  code : h.get? ca = some (rawTup c)
theorem PatAt.keeps {h h' : Heap} {pa ca : Addr} {c : List Int} (x : PatAt h pa ca c) (k : ∀ b o, h.get? b = some o → h'.get? b = some o) : PatAt h' pa ca c :=
  ⟨let ⟨a, b, d, e, f⟩ := x.pat; ⟨a, b, d, e, k _ _ f⟩, k _ _ x.code⟩
def tgt (pa : Addr) (l : List Nat) (t : Tok) (c : List Int) : ReTarget :=
  { pattern := .ref pa, string := .str (S l) t, code := ((c.map fun i => Value.int i 0).toArray.map reRawOf).map (·.toNat), text := l.toArray, kind := 0, groups := 0, pos := 0, lim := l.length }
section
variable {prog : Program} {w : World} {A : Around} {E : Value → Shared → Prop} {s : Shared} {pa ca : Addr} {c : List Int} {l r : List Nat} {t tr : Tok}
theorem whole_target {Q : ReTarget → Shared → Prop} (P : PatAt s.heap pa ca c) (h : Q (tgt pa l t c) s) : wpAny (model prog w) A (reWholeTarget (.ref pa) (.str (S l) t)) Q E s := by
  obtain ⟨x, t', fl, ft, hp⟩ := P.pat
  unfold reWholeTarget
  refine wpAny_bind (wpAny_fieldsOf hp rfl ?_)
  show wpAny _ _ (pure ((S l).cps, 0) >>= _) _ _ s
  refine wpAny_bind (wpAny_pure ?_)
  show wpAny _ _ ((seqItems? (.ref ca) >>= fun x => pure ((x.getD #[]).map reRawOf)) >>= _) _ _ s
  refine wpAny_bind (wpAny_bind (wpAny_seqItems P.code rfl (wpAny_pure (wpAny_pure ?_))))
  exact h
/-- the row behind pre, with every match laid anew -/
inductive Subs (c : Array Nat) (l r : List Nat) : List Nat → List Nat → List Nat → Prop
  | none {pre rest : List Nat} : l = pre ++ rest → (∃ mf k, Reach (Sre.forSearch c l.toArray 0 pre.length l.length false) mf k ∧ k ≤ 2 ^ 60 ∧ mf.outcome = some .failed) → Subs c l r pre rest rest
  | one {pre u x v out : List Nat} : l = pre ++ (u ++ (x ++ v)) → x ≠ [] → (∃ mf k, Reach (Sre.forSearch c l.toArray 0 pre.length l.length false) mf k ∧ k ≤ 2 ^ 60 ∧ mf.outcome = some .matched ∧ mf.start = pre.length + u.length ∧ mf.handed = pre.length + u.length + x.length) →
      Subs c l r (pre ++ u ++ x) v out → Subs c l r pre (u ++ (x ++ v)) (u ++ (r ++ out))
theorem reSlice_mid {Q : Value → Shared → Prop} {pre u v : List Nat} (h : l = pre ++ (u ++ v)) (hz : l.length ≤ 1000000) (k : Q (.str (S u) s.toks) { s with toks := s.toks + 1 }) :
    wpAny (model prog w) A (reSlice l.toArray 0 pre.length (pre.length + u.length)) Q E s := by
  have e : l.toArray.extract pre.length (pre.length + u.length) = u.toArray := by
    subst h
    simp
  show wpAny _ _ (mkStr ⟨l.toArray.extract pre.length (pre.length + u.length)⟩) _ _ s
  rw [e]
  have hl : u.length ≤ l.length := by subst h; simp; omega
  exact wpAny_mkStr k (by rw [S_len]; exact Nat.le_trans hl (Nat.le_trans hz (by decide)))
theorem join_flat : ∀ ts : List (List Nat), Txt.join (S []) (ts.map S) = S ts.flatten := by
  intro ts
  show Txt.join _ _ = _
  rw [show Txt.join (S []) (ts.map S) = Str.join (S []) (ts.map S) from StrLaws.glued_eq_join _ _]
  induction ts with
  | nil => rfl
  | cons a ts ih =>
    cases ts with
    | nil => simp [Str.join]
    | cons b ts =>
      show S a ++ S [] ++ Str.join (S []) ((b :: ts).map S) = _
      rw [ih, S_app, S_app]; simp
/-- what the pieces' list holds -/
def Pcs (h : Heap) (D : Addr) (ps : List (List Nat × Tok)) : Prop := ∃ n, h.get? D = some { cls := .type "list", data := .seq (ps.map fun p => Value.str (S p.1) p.2).toArray n }
theorem push_piece {Q : Unit → Shared → Prop} {D : Addr} {ps : List (List Nat × Tok)} {u : List Nat} {tu : Tok} (H : Pcs s.heap D ps) (hz : ps.length ≤ 1000000)
    (k : ∀ h', Pcs h' D (ps ++ [(u, tu)]) → Heap.SameBut D s.heap h' → Q () { s with heap := h' }) : wpAny (model prog w) A (updateSeq D (·.push (.str (S u) tu))) Q E s := by
  obtain ⟨n, H⟩ := H
  refine wpAny_updateSeq H rfl (k _ ?_ (Heap.SameBut.update ..)) (by simp; exact Nat.le_trans hz (by decide)) (by simp; exact Nat.le_trans hz (by decide))
  refine ⟨n + 1, ?_⟩
  rw [Heap.get?_update_self _ H rfl]
  simp [Obj.mapSeq]
theorem loop_tree (D : Addr) (n k : Nat) : Builtin.«re.Pattern.sub.loop» ⟨[.ref pa, .str (S l) t, .str (S r) tr, rawInt 0, rawInt 0, rawInt n, rawInt k, rawInt k, .bool false, .ref D, .bool false], []⟩ =
    (reWholeTarget (.ref pa) (.str (S l) t) >>= fun T => reNextFound T k false >>= fun f => match f with
      | some m => (do
        if k < m.start then updateSeq D (·.push (← reSlice T.text T.kind k m.start))
        updateSeq D (·.push (.str (S r) tr))
        again (.builtin "re.Pattern.sub.loop" ⟨[.ref pa, .str (S l) t, .str (S r) tr, rawInt 0, rawInt 0, rawInt ((n : Int) + 1), rawInt m.handed, rawInt m.handed, .bool (m.handed == m.start), .ref D, .bool false], []⟩))
      | none => (do
        if k < T.lim then updateSeq D (·.push (← reSlice T.text T.kind k T.lim))
        let joiner ← reSlice T.text T.kind 0 0
        let text ← if ((← seqItems? (.ref D)).getD #[]).isEmpty then pure joiner
          else call (.builtin (if T.kind == 0 then "str.join" else "bytes.join")) [joiner, .ref D]
        ret text)) := by rfl
theorem flat_strs (ps : List (List Nat × Tok)) : (ps.map fun p => Value.str (S p.1) p.2) = strValues (ps.map fun p => (S p.1, p.2)) := by
  induction ps with
  | nil => rfl
  | cons p ps ih => simp only [List.map_cons, ih]; rfl
theorem join_pieces {Q : Value → Shared → Prop} {D : Addr} {ps : List (List Nat × Tok)} {tj : Tok} (H : Pcs s.heap D ps) (hw : (ps.map (·.1)).flatten.length + ps.length ≤ 1048576)
    (k : ∀ t' tk, Q (.str (S (ps.map (·.1)).flatten) t') { s with toks := tk }) : wpAny (model prog w) A (call (.builtin "str.join") [.str (S []) tj, .ref D]) Q E s := by
  obtain ⟨n, H⟩ := H
  have e : (ps.map fun p => (S p.1, p.2)).map (·.1) = (ps.map (·.1)).map S := by simp
  have hl : ((ps.map (·.1)).map S).map (·.length) = (ps.map (·.1)).map List.length := by
    rw [List.map_map]; exact List.map_congr_left fun a _ => S_len a
  refine SC.join (l := ps.map fun p => (S p.1, p.2)) (texts := (ps.map (·.1)).map S) ⟨_, H, rfl, n, by rw [← flat_strs]⟩ e ?_ fun t' tk => ?_
  · refine joinOk_of_weight ?_ (by decide)
    rw [hl, List.length_map, List.length_map, ← List.length_flatten]; exact hw
  · rw [join_flat]; exact k t' tk
theorem sub_loop {c' : Array Nat} (D : Addr) (hc : ((c.map fun i => Value.int i 0).toArray.map reRawOf).map (·.toNat) = c') (hz : l.length ≤ 100000) {R : Result → Shared → Prop} {pre rest out : List Nat} (H : Subs c' l r pre rest out) :
    ∀ (s : Shared) (n : Nat) (ps : List (List Nat × Tok)), PatAt s.heap pa ca c → D ≠ pa → D ≠ ca → Pcs s.heap D ps → ps.length ≤ 2 * pre.length → ((ps.map (·.1)).flatten.length + out.length ≤ 500000) →
    (∀ h' tk t', (∀ b o, b ≠ D → s.heap.get? b = some o → h'.get? b = some o) → R (.ok (.ret (.str (S ((ps.map (·.1)).flatten ++ out)) t'))) { s with heap := h', toks := tk }) →
    codeAny (model prog w) A (.builtin "re.Pattern.sub.loop" ⟨[.ref pa, .str (S l) t, .str (S r) tr, rawInt 0, rawInt 0, rawInt n, rawInt pre.length, rawInt pre.length, .bool false, .ref D, .bool false], []⟩) R s := by
  induction H with
  | @none pre rest e hs =>
    intro s n ps P d1 d2 HD hn hb hR
    refine codeAny_builtin entry_pat_loop ?_
    rw [loop_tree]
    refine wpAny_bind (whole_target P ?_)
    obtain ⟨mf, k, hr, hk, ho⟩ := hs
    have hl : (tgt pa l t c).lim = l.length := rfl
    refine wpAny_bind ?_
    show wpAny _ _ (reRunToEnd (Sre.forSearch (tgt pa l t c).code l.toArray 0 pre.length l.length false)) _ _ s
    rw [show (tgt pa l t c).code = c' from hc]
    refine runToEnd hr hk (.inr ⟨ho, ?_⟩)
    have hll : l.length = pre.length + rest.length := by rw [e]; simp
    -- the end
    have fin : ∀ (s₁ : Shared) (ps' : List (List Nat × Tok)), Pcs s₁.heap D ps' → (ps'.map (·.1)).flatten = (ps.map (·.1)).flatten ++ rest → ps'.length ≤ ps.length + 1 → (∃ h tk, s₁ = { s with heap := h, toks := tk } ∧ ∀ b o, b ≠ D → s.heap.get? b = some o → h.get? b = some o) →
        wpAny (model prog w) (A.under (.builtin "re.Pattern.sub.loop" ⟨[.ref pa, .str (S l) t, .str (S r) tr, rawInt 0, rawInt 0, rawInt n, rawInt pre.length, rawInt pre.length, .bool false, .ref D, .bool false], []⟩))
        (do
          let joiner ← reSlice (tgt pa l t c).text (tgt pa l t c).kind 0 0
          let text ← if ((← seqItems? (.ref D)).getD #[]).isEmpty then pure joiner
            else call (.builtin (if (tgt pa l t c).kind == 0 then "str.join" else "bytes.join")) [joiner, .ref D]
          ret text) (fun fin s' => match fin with | .done f => R (.ok f) s' | .again c' => c'.quiet = true ∧ codeAny (model prog w) A c' R s') (fun e s' => R (.error e) s') s₁ := by
      rintro s₁ ps' HD' hps hlen ⟨h, tk, rfl, hk'⟩
      refine wpAny_bind ?_
      have e0 : l.toArray.extract 0 0 = ([] : List Nat).toArray := by simp
      show wpAny _ _ (mkStr ⟨l.toArray.extract 0 0⟩) _ _ _
      rw [e0]
      refine wpAny_mkStr ?_ (by show (S []).length ≤ sizeLine; rw [S_len]; decide)
      obtain ⟨nn, hD'⟩ := id HD'
      refine wpAny_bind (wpAny_seqItems hD' rfl ?_)
      by_cases hp : ps' = []
      · subst hp
        refine wpAny_bind (wpAny_pure ?_)
        refine wpAny_pure ?_
        have : (ps.map (·.1)).flatten ++ rest = [] := by rw [← hps]; rfl
        have g := hR h (tk + 1) tk hk'
        rw [this] at g
        exact g
      · have hne : ((some (ps'.map fun p => Value.str (S p.1) p.2).toArray).getD #[]).isEmpty = false := by
          cases ps' with
          | nil => exact absurd rfl hp
          | cons a b => simp
        dsimp only
        rw [hne]
        show wpAny _ _ (call (.builtin "str.join") [.str (S []) _, .ref D] >>= fun text => ret text) _ _ _
        refine wpAny_bind ?_
        refine join_pieces (s := { s with heap := h, toks := tk + 1 }) HD' ?_ fun t' tk' => ?_
        · rw [hps, List.length_append]; omega
        · refine wpAny_pure ?_
          rw [hps]
          exact hR h tk' t' hk'
    by_cases hq : pre.length < l.length
    · show wpAny _ _ (if pre.length < l.length then _ else _) _ _ s
      rw [if_pos hq]
      have hs2 : ∀ {Q : Value → Shared → Prop}, Q (.str (S rest) s.toks) { s with toks := s.toks + 1 } → wpAny (model prog w) (A.under (.builtin "re.Pattern.sub.loop" ⟨[.ref pa, .str (S l) t, .str (S r) tr, rawInt 0, rawInt 0, rawInt n, rawInt pre.length, rawInt pre.length, .bool false, .ref D, .bool false], []⟩)) (reSlice l.toArray 0 pre.length l.length) Q (fun e s' => R (.error e) s') s := fun k => by
        rw [hll]; exact reSlice_mid (v := []) (by simpa using e) (Nat.le_trans hz (by decide)) k
      refine wpAny_bind (hs2 ?_)
      refine wpAny_bind (push_piece (s := { s with toks := s.toks + 1 }) HD (by omega) fun h' HD' sb => ?_)
      refine fin _ _ HD' (by simp) (by simp) ⟨h', _, rfl, fun b o hb e => sb.extBut b o hb e⟩
    · show wpAny _ _ (if pre.length < l.length then _ else _) _ _ s
      rw [if_neg hq]
      have hr0 : rest = [] := List.length_eq_zero_iff.mp (by omega)
      refine fin s ps HD (by simp [hr0]) (by omega) ⟨s.heap, s.toks, rfl, fun _ _ _ e => e⟩
  | @one pre u x v out e hx hs _ ih =>
    intro s n ps P d1 d2 HD hn hb hR
    refine codeAny_builtin entry_pat_loop ?_
    rw [loop_tree]
    refine wpAny_bind (whole_target P ?_)
    obtain ⟨mf, k, hr, hk, ho, hst, hha⟩ := hs
    refine wpAny_bind ?_
    show wpAny _ _ (reRunToEnd (Sre.forSearch (tgt pa l t c).code l.toArray 0 pre.length l.length false)) _ _ s
    rw [show (tgt pa l t c).code = c' from hc]
    refine runToEnd hr hk (.inl ⟨ho, ?_⟩)
    have hll : l.length = pre.length + (u.length + (x.length + v.length)) := by rw [e]; simp
    have hxl : 0 < x.length := List.length_pos_iff.mpr hx
    -- the turn's end
    have fin : ∀ (s₁ : Shared) (ps' : List (List Nat × Tok)), Pcs s₁.heap D ps' → (ps'.map (·.1)).flatten = (ps.map (·.1)).flatten ++ u → ps'.length ≤ ps.length + 1 → (∃ h tk, s₁ = { s with heap := h, toks := tk } ∧ ∀ b o, b ≠ D → s.heap.get? b = some o → h.get? b = some o) →
        wpAny (model prog w) (A.under (.builtin "re.Pattern.sub.loop" ⟨[.ref pa, .str (S l) t, .str (S r) tr, rawInt 0, rawInt 0, rawInt n, rawInt pre.length, rawInt pre.length, .bool false, .ref D, .bool false], []⟩))
        (do
          updateSeq D (·.push (.str (S r) tr))
          again (.builtin "re.Pattern.sub.loop" ⟨[.ref pa, .str (S l) t, .str (S r) tr, rawInt 0, rawInt 0, rawInt ((n : Int) + 1), rawInt mf.handed, rawInt mf.handed, .bool (mf.handed == mf.start), .ref D, .bool false], []⟩))
         (fun fin s' => match fin with | .done f => R (.ok f) s' | .again c' => c'.quiet = true ∧ codeAny (model prog w) A c' R s') (fun e s' => R (.error e) s') s₁ := by
      rintro s₁ ps' HD' hps hlen ⟨h, tk, rfl, hk'⟩
      refine wpAny_bind (push_piece (s := { s with heap := h, toks := tk }) HD' (by omega) fun h2 HD2 sb => ?_)
      refine wpAny_pure ⟨quiet_pat_loop _, ?_⟩
      have hm : (mf.handed == mf.start) = false := by rw [hst, hha]; simpa using hx
      have hh : mf.handed = (pre ++ u ++ x).length := by rw [hha]; simp [Nat.add_assoc]
      rw [hm, hh]
      have keep : ∀ b o, b ≠ D → s.heap.get? b = some o → h2.get? b = some o := fun b o hb e => sb.extBut b o hb (hk' b o hb e)
      have hfl : ((ps' ++ [(r, tr)]).map (·.1)).flatten = (ps.map (·.1)).flatten ++ u ++ r := by simp [hps]
      refine ih { s with heap := h2, toks := tk } (n + 1) (ps' ++ [(r, tr)]) ⟨?_, keep _ _ (Ne.symm d2) P.code⟩ d1 d2 HD2 ?_ ?_ fun h' tk' t' k' => ?_
      · obtain ⟨a1, a2, a3, a4, a5⟩ := P.pat; exact ⟨a1, a2, a3, a4, keep _ _ (Ne.symm d1) a5⟩
      · simp; omega
      · rw [hfl]; simp only [List.length_append] at hb ⊢; omega
      · rw [hfl]
        have := hR h' tk' t' fun b o hb e => k' b o hb (keep b o hb e)
        simpa [List.append_assoc] using this
    by_cases hq : pre.length < mf.start
    · show wpAny _ _ (if pre.length < mf.start then _ else _) _ _ s
      rw [if_pos hq]
      have hs2 : ∀ {Q : Value → Shared → Prop}, Q (.str (S u) s.toks) { s with toks := s.toks + 1 } → wpAny (model prog w) (A.under (.builtin "re.Pattern.sub.loop" ⟨[.ref pa, .str (S l) t, .str (S r) tr, rawInt 0, rawInt 0, rawInt n, rawInt pre.length, rawInt pre.length, .bool false, .ref D, .bool false], []⟩)) (reSlice l.toArray 0 pre.length mf.start) Q (fun e s' => R (.error e) s') s := fun k => by
        rw [hst]; exact reSlice_mid e (Nat.le_trans hz (by decide)) k
      refine wpAny_bind (hs2 ?_)
      refine wpAny_bind (push_piece (s := { s with toks := s.toks + 1 }) HD (by omega) fun h' HD' sb => ?_)
      exact fin _ _ HD' (by simp) (by simp) ⟨h', _, rfl, fun b o hb e => sb.extBut b o hb e⟩
    · show wpAny _ _ (if pre.length < mf.start then _ else _) _ _ s
      rw [if_neg hq]
      have hu0 : u = [] := List.length_eq_zero_iff.mp (by omega)
      exact fin s ps HD (by simp [hu0]) (by omega) ⟨s.heap, s.toks, rfl, fun _ _ _ e => e⟩
end
end
end Mine
end
section
open PySem PySem.W PyProof.Rows PySem.Calls PySem.Builtin.Re PySem.Builtin
set_option maxRecDepth 100000
namespace Mine
noncomputable section
/-- every end of a line as return and feed -/
def fixL : List Nat → List Nat
  | [] => []
  | 13 :: 10 :: r => 13 :: 10 :: fixL r
  | c :: r => if isNl c then 13 :: 10 :: fixL r else c :: fixL r
/-- a dot more at each line that begins with one; b: here a line begins -/
def dotG : Bool → List Nat → List Nat
  | _, [] => []
  | b, c :: r => if b && c == 46 then 46 :: 46 :: dotG false r else c :: dotG (c == 10) r
def quoteL (l : List Nat) : List Nat := dotG true (fixL l)
theorem fixL_free : ∀ (u v : List Nat), (∀ c ∈ u, isNl c = false) → fixL (u ++ v) = u ++ fixL v
  | [], v, _ => rfl
  | c :: u, v, h => by
    have hc := h c (.head _)
    have h13 : c ≠ 13 := fun e => by subst e; cases hc
    show fixL (c :: (u ++ v)) = _
    rw [fixL.eq_3 c (u ++ v) (by intro r e; exact fun _ => absurd e h13), hc]
    simp only [Bool.false_eq_true, if_false]
    rw [fixL_free u v fun x hx => h x (.tail _ hx)]; rfl
theorem fixL_nl {c : Nat} {r : List Nat} (h : isNl c = true) (h2 : (c :: r).take 2 ≠ [13, 10]) : fixL (c :: r) = 13 :: 10 :: fixL r := by
  rw [fixL.eq_3 c r (by intro r' e1 e2; subst e1 e2; exact h2 rfl), h]; rfl
theorem split_nl (l : List Nat) : ∃ u v, l = u ++ v ∧ (∀ c ∈ u, isNl c = false) ∧ (v = [] ∨ ∃ c r, v = c :: r ∧ isNl c = true) := by
  induction l with
  | nil => exact ⟨[], [], rfl, (fun _ h => nomatch h), .inl rfl⟩
  | cons c l ih =>
    by_cases h : isNl c = true
    · exact ⟨[], c :: l, rfl, (fun _ h => nomatch h), .inr ⟨c, l, rfl, h⟩⟩
    · obtain ⟨u, v, e, hu, hv⟩ := ih
      refine ⟨c :: u, v, by rw [e]; rfl, fun x hx => ?_, hv⟩
      rcases List.mem_cons.mp hx with rfl | hx
      · simpa using h
      · exact hu x hx
theorem subs2 : ∀ (n : Nat) (pre rest : List Nat), rest.length ≤ n → (pre ++ rest).length ≤ 100000 → Subs c2 (pre ++ rest) [13, 10] pre rest (fixL rest) := by
  intro n
  induction n with
  | zero =>
    intro pre rest h hz
    have : rest = [] := List.length_eq_zero_iff.mp (by omega)
    subst this
    obtain ⟨mf, k, a, b, d⟩ := search2 pre [] [] (fun _ h => nomatch h) (.inl rfl)
    exact .none rfl ⟨mf, k, a, Nat.le_trans b (by decide), by simpa using d⟩
  | succ n ih =>
    intro pre rest h hz
    obtain ⟨u, v, rfl, hu, hv⟩ := split_nl rest
    obtain ⟨mf, k, a, b, d⟩ := search2 pre u v hu hv
    rcases hv with rfl | ⟨c, r, rfl, hc⟩
    · have e : fixL (u ++ []) = u ++ [] := by rw [fixL_free u [] hu]; rfl
      rw [e]
      exact .none rfl ⟨mf, k, a, Nat.le_trans b (by decide), by simpa using d⟩
    · rw [if_neg (by simp)] at d
      rw [fixL_free u _ hu]
      by_cases h2 : (c :: r).take 2 = [13, 10]
      · obtain ⟨r', rfl, rfl⟩ : ∃ r', c = 13 ∧ r = 10 :: r' := by
          cases r with
          | nil => simp at h2
          | cons d r => simp at h2; exact ⟨r, h2.1, by rw [h2.2]⟩
        rw [if_pos h2] at d
        have := ih (pre ++ u ++ [13, 10]) r' (by simp at h; omega) (by simpa using hz)
        have e : pre ++ u ++ [13, 10] ++ r' = pre ++ (u ++ 13 :: 10 :: r') := by simp
        rw [e] at this
        exact .one (x := [13, 10]) (v := r') rfl (by simp) ⟨mf, k, a, Nat.le_trans b (by decide), d⟩ this
      · rw [if_neg h2] at d
        rw [fixL_nl hc h2]
        have := ih (pre ++ u ++ [c]) r (by simp at h; omega) (by simpa using hz)
        have e : pre ++ u ++ [c] ++ r = pre ++ (u ++ c :: r) := by simp
        rw [e] at this
        exact .one (x := [c]) (v := r) rfl (by simp) ⟨mf, k, a, Nat.le_trans b (by decide), d⟩ this
theorem split_dot : ∀ (l : List Nat) (b : Bool), (NoM b l ∧ dotG b l = l) ∨ ∃ u r, l = u ++ 46 :: r ∧ NoM b u ∧ bolAfter b u = true ∧ dotG b l = u ++ 46 :: 46 :: dotG false r := by
  intro l
  induction l with
  | nil => exact fun b => .inl ⟨trivial, rfl⟩
  | cons c l ih =>
    intro b
    by_cases h : b = true ∧ c = 46
    · obtain ⟨rfl, rfl⟩ := h
      exact .inr ⟨[], l, rfl, trivial, rfl, rfl⟩
    · have e : dotG b (c :: l) = c :: dotG (c == 10) l := by
        have : (b && c == 46) = false := by
          cases b with
          | false => rfl
          | true => simpa using h
        show (if (b && c == 46) = true then _ else _) = _
        rw [this]; rfl
      rcases ih (c == 10) with ⟨h1, h2⟩ | ⟨u, r, h1, h2, h3, h4⟩
      · exact .inl ⟨⟨h, h1⟩, by rw [e, h2]⟩
      · exact .inr ⟨c :: u, r, by rw [h1]; rfl, ⟨h, h2⟩, h3, by rw [e, h4]; rfl⟩
theorem subs1 : ∀ (n : Nat) (pre rest : List Nat) (b : Bool), rest.length ≤ n → (pre ++ rest).length ≤ 100000 → ((pre.length = 0 ∨ (pre ++ rest).toArray.getD (pre.length - 1) 0 = 10) ↔ b = true) → Subs c1 (pre ++ rest) [46, 46] pre rest (dotG b rest) := by
  intro n
  induction n with
  | zero =>
    intro pre rest b h hz hb
    have : rest = [] := List.length_eq_zero_iff.mp (by omega)
    subst this
    obtain ⟨mf, k, a, b', d⟩ := search1 pre [] [] b hb trivial (.inl rfl)
    exact .none rfl ⟨mf, k, a, Nat.le_trans b' (by decide), by simpa using d⟩
  | succ n ih =>
    intro pre rest b h hz hb
    rcases split_dot rest b with ⟨h1, h2⟩ | ⟨u, r, rfl, h2, h3, h4⟩
    · obtain ⟨mf, k, a, b', d⟩ := search1 pre rest [] b (by simpa using hb) h1 (.inl rfl)
      rw [h2]
      rw [List.append_nil] at a
      have hz' : rest.length ≤ 100000 := by simp at hz; omega
      exact .none rfl ⟨mf, k, a, by omega, by simpa using d⟩
    · obtain ⟨mf, k, a, b', d⟩ := search1 pre u (46 :: r) b hb h2 (.inr ⟨h3, r, rfl⟩)
      rw [if_neg (by simp)] at d
      rw [h4]
      have e : pre ++ u ++ [46] ++ r = pre ++ (u ++ 46 :: r) := by simp
      have := ih (pre ++ u ++ [46]) r false (by simp at h; omega) (by simpa using hz) (by
        have q := getD_at (pre ++ u) (46 :: r) (pre ++ u).length 0 rfl
        have q2 : (pre ++ u ++ [46]).length - 1 = (pre ++ u).length + 0 := by simp
        rw [e, q2, show pre ++ (u ++ 46 :: r) = (pre ++ u) ++ 46 :: r by simp, q]
        simp)
      rw [e] at this
      have hu : u.length ≤ 100000 := by simp at hz; omega
      exact .one (x := [46]) (v := r) rfl (by simp) ⟨mf, k, a, by omega, d⟩ this
theorem fixL_len : ∀ (n : Nat) (l : List Nat), l.length ≤ n → (fixL l).length ≤ 2 * l.length := by
  intro n
  induction n with
  | zero => intro l h; have : l = [] := List.length_eq_zero_iff.mp (by omega); subst this; simp [fixL]
  | succ n ih =>
    intro l h
    match l, h with
    | [], _ => simp [fixL]
    | c :: r, h =>
      by_cases h2 : (c :: r).take 2 = [13, 10]
      · obtain ⟨r', rfl, rfl⟩ : ∃ r', c = 13 ∧ r = 10 :: r' := by
          cases r with
          | nil => simp at h2
          | cons d r => simp at h2; exact ⟨r, h2.1, by rw [h2.2]⟩
        have := ih r' (by simp at h; omega)
        show (13 :: 10 :: fixL r').length ≤ _
        simp; omega
      · have := ih r (by simp at h; omega)
        by_cases hc : isNl c = true
        · rw [fixL_nl hc h2]; simp; omega
        · have := fixL_free [c] r (by intro x hx; rw [List.mem_singleton.mp hx]; simpa using hc)
          rw [show c :: r = [c] ++ r from rfl, this]; simp; omega
theorem dotG_len : ∀ (l : List Nat) (b : Bool), (dotG b l).length ≤ 2 * l.length := by
  intro l
  induction l with
  | nil => intro b; simp [dotG]
  | cons c l ih =>
    intro b
    show (if (b && c == 46) = true then _ else _ : List Nat).length ≤ _
    have h1 := ih false
    have h2 := ih (c == 10)
    split <;> simp <;> omega
end
end Mine
end
section
open PySem PySem.W PyProof.Rows PySem.Calls PySem.Builtin.Re PySem.Builtin
set_option maxRecDepth 100000
namespace Mine
noncomputable section
theorem str_noCall : typeLookup (.type "str") "__call__" = pure none := by rw [typeLookup_type, builtinLookup_eq_fast]; kernel_rfl
section
variable {prog : Program} {w : World} {A : Around} {E : Value → Shared → Prop} {s : Shared} {pa ca : Addr} {c : List Int} {l r : List Nat} {t tr : Tok}
theorem sub_call {c' : Array Nat} {out : List Nat} {Q : Value → Shared → Prop} (P : PatAt s.heap pa ca c) (hc : ((c.map fun i => Value.int i 0).toArray.map reRawOf).map (·.toNat) = c') (hr : (S r).cps.contains 92 = false)
    (hz : l.length ≤ 100000) (hz2 : out.length ≤ 500000) (H : Subs c' l r [] l out)
    (k : ∀ h' tk t', (∀ b o, s.heap.get? b = some o → h'.get? b = some o) → Q (.str (S out) t') { s with heap := h', toks := tk }) :
    wpAny (model prog w) A (call (.builtin "re.Pattern.sub") [.ref pa, .str (S r) tr, .str (S l) t]) Q E s := by
  obtain ⟨x, t', fl, ft, hp⟩ := P.pat
  refine wpAny_call (codeAny_call_builtin slot_pat_sub.plain entry_pat_sub (slot_pat_sub.check _ _ _ _ _ _ _ _ ⟨_, hp, rfl⟩ (args_pat_sub _ _ _) ?_))
  unfold Builtin.«re.Pattern.sub» reSubstitute
  dsimp only
  rw [named_pat_sub]
  refine wpAny_bind (wpAny_pure ?_)
  dsimp only
  refine wpAny_bind (wpAny_pure ?_)
  refine wpAny_bind (wpAny_specialOf (typeIs_str _ _ _) str_noCall ?_)
  refine wpAny_bind (wpAny_pure ?_)
  dsimp only
  refine wpAny_bind (wpAny_pure ?_)
  rw [hr, if_neg (by decide), if_pos (by decide)]
  refine wpAny_bind (wpAny_pure ?_)
  dsimp only
  refine wpAny_bind (wpAny_holding (whole_target P ?_))
  rw [if_neg (by decide)]
  refine wpAny_bind (wpAny_newObj_type ?_)
  refine wpAny_pure ⟨quiet_pat_loop _, ?_⟩
  have up : ∀ b o, s.heap.get? b = some o → (s.heap.push { cls := .type "list", data := .seq ([] : List Value).toArray }).get? b = some o := fun b o e => Heap.get?_push_of_some _ e
  have ne : ∀ b o, s.heap.get? b = some o → s.heap.objs.size ≠ b := fun b o e => Nat.ne_of_gt (Heap.lt_size e)
  refine sub_loop (c := c) (ca := ca) (pre := []) s.heap.objs.size hc hz H { s with heap := s.heap.push { cls := .type "list", data := .seq ([] : List Value).toArray } } 0 [] (P.keeps up) (ne _ _ hp) (ne _ _ P.code) ⟨0, Heap.get?_push_size _ rfl⟩ (by decide) (by simpa using hz2) fun h' tk t' k' => ?_
  exact k h' tk t' fun b o e => k' b o (Ne.symm (ne b o e)) (up b o e)
end
section
variable {w : World} {mg mb : Str → Option Value} {A : Around} {E : Value → Shared → Prop} {s : Shared} {h₀ : Heap} {L : Addr} {m : Str → Option Value} {news : List (Addr × Obj)}
theorem Fr.up {h h' : Heap} (F : Fr h₀ L h m) (k : ∀ b o, h.get? b = some o → h'.get? b = some o) : Fr h₀ L h' m := ⟨F.ns.keeps k, fun b o e => k _ _ (F.keep b o e), F.above⟩
theorem News.up {h h' : Heap} (N : News h₀ L h news) (k : ∀ b o, h.get? b = some o → h'.get? b = some o) : News h₀ L h' news := fun p hp => ⟨k _ _ (N p hp).1, (N p hp).2⟩
theorem Gd.pat1 {h : Heap} (G : Gd w mg mb h) : PatAt h 99 98 code1 := ⟨⟨_, _, _, _, G.k _ _ rfl⟩, G.k _ _ rfl⟩
theorem Gd.pat2 {h : Heap} (G : Gd w mg mb h) : PatAt h 104 103 code2 := ⟨⟨_, _, _, _, G.k _ _ rfl⟩, G.k _ _ rfl⟩
theorem c_fix {Q : Value → Shared → Prop} {f : Addr} {l : List Nat} {t : Tok} (G : Gd w mg mb h₀) (hf : mg "_fix_eols" = some (.ref f)) (r : Rm 1 A) (F : Fr h₀ L s.heap m) (N : News h₀ L s.heap news) (hz : l.length ≤ 100000)
    (k : ∀ h' tk t', Fr h₀ L h' m → News h₀ L h' news → Q (.str (S (fixL l)) t') { s with heap := h', toks := tk }) : wpAny (model p0 w) A (call (.ref f) [.str (S l) t]) Q E s := by
  refine enterAt 16 0 [("data", .str (S l) t)] G hf r F N fun A' g L' h₁ tk cd r' G' F' N' => ?_
  clear F N
  obtain ⟨tc, hcr⟩ := G'.crlf
  refine wpAny_execs_cons (wpAny_Return_some (MethodCall_ (ld_global_at F' G'.g G'.n2 ?_)))
  refine getMethod_builtin ⟨_, F'.keep _ _ (G'.k 104 _ rfl), rfl⟩ plainAttrs_pat slot_pat_sub type_pat_sub (fun a e => by cases e; exact ⟨_, F'.keep _ _ (G'.k 104 _ rfl), rfl⟩) ?_
  refine callWith_method1 (spliced_more (ld_global_at F' G'.g hcr (spliced_more (ld F' rfl (spliced_none ?_)))))
  refine sub_call (c := code2) (c' := c2) (r := [13, 10]) (G'.pat2.keeps F'.keep) (by decide +kernel) (by decide +kernel) hz (Nat.le_trans (fixL_len _ l (Nat.le_refl _)) (by omega)) (by simpa using subs2 l.length [] l (Nat.le_refl _) (by simpa using hz)) fun h' tk' t' up => ?_
  exact ⟨_, _, _, Fr.up F' up, News.up N' up, fun F N => k _ _ _ F N⟩
theorem c_quote {Q : Value → Shared → Prop} {f : Addr} {l : List Nat} {t : Tok} (G : Gd w mg mb h₀) (hf : mg "quotedata" = some (.ref f)) (r : Rm 1 A) (F : Fr h₀ L s.heap m) (N : News h₀ L s.heap news) (hz : l.length ≤ 50000)
    (k : ∀ h' tk t', Fr h₀ L h' m → News h₀ L h' news → Q (.str (S (quoteL l)) t') { s with heap := h', toks := tk }) : wpAny (model p0 w) A (call (.ref f) [.str (S l) t]) Q E s := by
  refine enterAt 15 0 [("data", .str (S l) t)] G hf r F N fun A' g L' h₁ tk cd r' G' F' N' => ?_
  clear F N
  obtain ⟨tc, hcr⟩ := G'.crlf
  refine wpAny_execs_cons (wpAny_Return_some (MethodCall_ (ld_global_at F' G'.g G'.n1 ?_)))
  refine getMethod_builtin ⟨_, F'.keep _ _ (G'.k 99 _ rfl), rfl⟩ plainAttrs_pat slot_pat_sub type_pat_sub (fun a e => by cases e; exact ⟨_, F'.keep _ _ (G'.k 99 _ rfl), rfl⟩) ?_
  refine callWith_method1 (spliced_more (Calls.Constant_str ?_))
  refine spliced_more (MethodCall_ (ld_global_at (s := { s with heap := h₁, toks := tk + 1 }) F' G'.g G'.n2 ?_))
  refine getMethod_builtin ⟨_, F'.keep _ _ (G'.k 104 _ rfl), rfl⟩ plainAttrs_pat slot_pat_sub type_pat_sub (fun a e => by cases e; exact ⟨_, F'.keep _ _ (G'.k 104 _ rfl), rfl⟩) ?_
  refine callWith_method1 (spliced_more (ld_global_at (s := { s with heap := h₁, toks := tk + 1 }) F' G'.g hcr (spliced_more (ld (s := { s with heap := h₁, toks := tk + 1 }) F' rfl (spliced_none ?_)))))
  refine sub_call (c := code2) (c' := c2) (r := [13, 10]) (G'.pat2.keeps F'.keep) (by decide +kernel) (by decide +kernel) (by omega) (Nat.le_trans (fixL_len _ l (Nat.le_refl _)) (by omega)) (by simpa using subs2 l.length [] l (Nat.le_refl _) (by simp; omega)) fun h' tk' t' up => ?_
  have F2 := Fr.up F' up
  have N2 := News.up N' up
  have z1 := fixL_len _ l (Nat.le_refl _)
  have z2 := dotG_len (fixL l) true
  refine spliced_none ?_
  refine sub_call (s := { s with heap := h', toks := tk' }) (c := code1) (c' := c1) (r := [46, 46]) (G'.pat1.keeps F2.keep) (by decide +kernel) (by decide +kernel) (by omega) (Nat.le_trans z2 (by omega)) (by simpa using subs1 (fixL l).length [] (fixL l) true (Nat.le_refl _) (by simp; omega) (by simp)) fun h2 tk2 t2 up2 => ?_
  exact ⟨_, _, _, Fr.up F2 up2, News.up N2 up2, fun F N => k _ _ _ F N⟩
end
end
end Mine
end
section
open PySem PySem.W PyProof.Rows PySem.Calls PySem.Builtin
set_option maxRecDepth 100000
namespace Mine
noncomputable section
theorem typeOf_sgi : typeOf (.builtin "str.__getitem__") = pure (.type "wrapper_descriptor") := by show builtinType _ = _; rw [builtinType_eq_fast]; kernel_rfl
theorem lk_sgi : typeLookup (.type "str") "__getitem__" = pure (some (.builtin "str.__getitem__")) := by rw [typeLookup_type, builtinLookup_eq_fast]; kernel_rfl
theorem slot_wd_get : Slot "wrapper_descriptor" "__get__" "wrapper_descriptor.__get__" :=
  .of (owner := "wrapper_descriptor") (n := "__get__") (by rw [typeLookup_type, builtinLookup_eq_fast]; kernel_rfl) (by decide +kernel) (by decide +kernel) (by decide +kernel)
    (by first | exact .inl (by decide +kernel) | exact .inr (by decide +kernel)) (by rw [isSubtype_type]; kernel_rfl)
theorem lk_wd_set : typeLookup (.type "wrapper_descriptor") "__set__" = pure none := by rw [typeLookup_type, builtinLookup_eq_fast]; kernel_rfl
theorem lk_wd_del : typeLookup (.type "wrapper_descriptor") "__delete__" = pure none := by rw [typeLookup_type, builtinLookup_eq_fast]; kernel_rfl
theorem entry_wd_get : entryFor table "wrapper_descriptor.__get__" = some Builtin.«wrapper_descriptor.__get__» := entryFor_of_tree (by kernel_rfl)
theorem args_wd_get (a b c : Value) : argsOk "wrapper_descriptor.__get__" ⟨[a, b, c], []⟩ := by unfold argsOk; kernel_rfl
theorem entry_hasattr : entryFor table "hasattr" = some Builtin.«hasattr» := entryFor_of_tree (by kernel_rfl)
theorem kind_hasattr : builtinKind "hasattr" = none := by decide +kernel
theorem plain_hasattr : plainId "hasattr" = true := by decide +kernel
theorem args_hasattr (a b : Value) : argsOk "hasattr" ⟨[a, b], []⟩ := by unfold argsOk; kernel_rfl
section
variable {prog : Program} {w : World} {A : Around} {E : Value → Shared → Prop} {h : Heap} {g : Array GenState} {d : Drawn} {t : Nat} {os : OsState} {x : Str} {u : Tok}
theorem owner_sgi : (".".intercalate ("str.__getitem__".cutAt '.').dropLast) = "str" := by
  have e0 : "str.__getitem__".cutAt '.' = ["str", "__getitem__"] := by first | rfl | decide +kernel
  rw [e0]; decide +kernel
theorem sub_str_str : isSubtype (.type "str") (.type (".".intercalate ("str.__getitem__".cutAt '.').dropLast)) = pure true := by rw [owner_sgi, isSubtype_type]; kernel_rfl
theorem wd_get {R : Result → Shared → Prop} (hq : ∀ h' tk a, (∀ b o, h.get? b = some o → h'.get? b = some o) → R (.ok (.ret (.ref a))) ⟨h', g, d, tk, os⟩) :
    codeAny (model prog w) A (.call (.builtin "wrapper_descriptor.__get__") ⟨[.builtin "str.__getitem__", .str x u, .type "str"], []⟩) R ⟨h, g, d, t, os⟩ := by
  have hT : (⟨h, g, d, t, os⟩ : Shared).TypeIs (.str x u) "str" := rfl
  have hT5 : (⟨h, g, d, t, os⟩ : Shared).TypeIs (.builtin "str.__getitem__") "wrapper_descriptor" := typeOf_sgi
  have f8 := sub_str_str
  refine codeAny_call_builtin slot_wd_get.plain entry_wd_get (slot_wd_get.check _ _ _ _ _ _ _ _ hT5 (args_wd_get _ _ _) ?_)
  repeat (any_goals (first | assumption | wp_step))
  exact hq _ _ _ fun b o e => Heap.get?_push_of_some _ e
theorem ga_entry {tk : Tok} {Q : Fin → Shared → Prop} (hq : ∀ h' tk a, (∀ b o, h.get? b = some o → h'.get? b = some o) → Q (.done (.ret (.ref a))) ⟨h', g, d, tk, os⟩) :
    wpAny (model prog w) A (Builtin.«object.__getattribute__» ⟨[.str x u, .str "__getitem__" tk], []⟩) Q E ⟨h, g, d, t, os⟩ := by
  have hT : (⟨h, g, d, t, os⟩ : Shared).TypeIs (.str x u) "str" := rfl
  have hT5 : (⟨h, g, d, t, os⟩ : Shared).TypeIs (.builtin "str.__getitem__") "wrapper_descriptor" := typeOf_sgi
  have f4 := lk_sgi
  have f5 := typeOf_sgi
  have f6 := slot_wd_get.lookup
  have f7 := lk_wd_set
  have f8 := lk_wd_del
  repeat (any_goals (first | assumption | wp_step))
  refine wd_get fun h' tk v k => ?_
  repeat (any_goals (first | exact hq _ _ _ k | assumption | wp_step))
theorem ga_call {tk : Tok} {R : Result → Shared → Prop} (hq : ∀ h' tk a, (∀ b o, h.get? b = some o → h'.get? b = some o) → R (.ok (.ret (.ref a))) ⟨h', g, d, tk, os⟩) :
    codeAny (model prog w) A (.call (.builtin "object.__getattribute__") ⟨[.str x u, .str "__getitem__" tk], []⟩) R ⟨h, g, d, t, os⟩ :=
  codeAny_call_builtin F.slot_str_getattribute.plain F.entry_object_getattribute (F.slot_str_getattribute.check _ _ _ _ _ _ _ _ (show (⟨h, g, d, t, os⟩ : Shared).TypeIs (.str x u) "str" from rfl) (F.args_object_getattribute_2 _ _) (ga_entry hq))
theorem ga_by {tk : Tok} {Q : Value → Shared → Prop} (hq : ∀ h' tk a, (∀ b o, h.get? b = some o → h'.get? b = some o) → Q (.ref a) ⟨h', g, d, tk, os⟩) : wpAny (model prog w) A (getAttrBy (.str x u) (.str "__getitem__" tk) false) Q E ⟨h, g, d, t, os⟩ := by
  have hT : (⟨h, g, d, t, os⟩ : Shared).TypeIs (.str x u) "str" := rfl
  have f2 := F.slot_str_getattribute.lookup
  have f3 := F.slot_str_getattribute.bind (.str x u)
  repeat (any_goals (first | assumption | wp_step))
  refine ga_call fun h' tk v k => ?_
  repeat (any_goals (first | exact hq _ _ _ k | assumption | wp_step))
theorem has_call {tk : Tok} {Q : Value → Shared → Prop} (hq : ∀ h' tk, (∀ b o, h.get? b = some o → h'.get? b = some o) → Q (.bool true) ⟨h', g, d, tk, os⟩) : wpAny (model prog w) A (call (.builtin "hasattr") [.str x u, .str "__getitem__" tk]) Q E ⟨h, g, d, t, os⟩ := by
  refine call_function_entry kind_hasattr plain_hasattr entry_hasattr (args_hasattr _ _) ?_
  unfold Builtin.«hasattr»
  dsimp only
  refine wpAny_bind (wpAny_of_eq (show someArgs "hasattr" 2 2 ⟨[.str x u, .str "__getitem__" tk], []⟩ = pure [.str x u, .str "__getitem__" tk] from rfl) ?_)
  dsimp only
  refine wpAny_bind (wpAny_of_eq rfl ?_)
  have hne : (Value.str x u == Value.builtin "__main__.__loader__#opaque") = false := rfl
  rw [hne, if_neg Bool.false_ne_true]
  refine wpAny_bind (wpAny_of_eq (show typeOf (.str x u) = pure (.type "str") from rfl) ?_)
  dsimp only
  refine wpAny_bind (wpAny_of_eq (show asStr? (.str "__getitem__" tk) = pure (some (Str.ofString "__getitem__")) from rfl) ?_)
  dsimp only
  refine wpAny_bind (wpAny_of_eq lk_sgi ?_)
  dsimp only
  refine wpAny_bind (wpAny_of_eq F.slot_str_getattribute.lookup ?_)
  rw [if_neg (by decide +kernel)]
  refine wpAny_bind (wpAny_of_eq rfl ?_)
  rw [if_neg (by decide)]
  unfold getAttrBy?
  refine wpAny_bind (wpAny_bind (wpAny_attempt (ga_by fun h' tk a k => ?_)))
  refine wpAny_pure ?_
  have hn : ((some (Value.ref a)).isNone && (0 : Nat) == 2) = false := rfl
  rw [hn, if_neg Bool.false_ne_true]
  exact wpAny_pure ⟨_, rfl, hq _ _ k⟩
end
end
end Mine
end
section
open PySem PySem.W PyProof.Rows PySem.Calls PySem.Builtin
set_option maxRecDepth 100000
namespace Mine
noncomputable section
section
variable {w : World} {mg mb : Str → Option Value} {A : Around} {E : Value → Shared → Prop} {s : Shared} {h₀ : Heap} {L : Addr} {m : Str → Option Value} {news : List (Addr × Obj)}
theorem has_str {x : Str} {u tk : Tok} {Q : Value → Shared → Prop} (hq : ∀ h' tk, (∀ b o, s.heap.get? b = some o → h'.get? b = some o) → Q (.bool true) { s with heap := h', toks := tk }) : wpAny (model p0 w) A (call (.builtin "hasattr") [.str x u, .str "__getitem__" tk]) Q E s := by
  obtain ⟨h, g, d, t, os⟩ := s
  exact has_call hq
theorem c_concat {Q : Value → Shared → Prop} {f : Addr} {a b : List Nat} {t u : Tok} (G : Gd w mg mb h₀) (hf : mg "concat" = some (.ref f)) (r : Rm 1 A) (F : Fr h₀ L s.heap m) (N : News h₀ L s.heap news) (hz : a.length + b.length ≤ 1000000)
    (k : ∀ h' tk t', Fr h₀ L h' m → News h₀ L h' news → Q (.str (S (a ++ b)) t') { s with heap := h', toks := tk }) : wpAny (model p0 w) A (call (.ref f) [.str (S a) t, .str (S b) u]) Q E s := by
  refine enterAt 6 0 [("a", .str (S a) t), ("b", .str (S b) u)] G hf r F N fun A' g L' h₁ tk cd r' G' F' N' => ?_
  clear F N
  have e1 : mg "hasattr" = none := G'.free "hasattr" (.head _)
  have e2 : mb "hasattr" = some (.builtin "hasattr") := (G'.bt "hasattr" (by decide)).trans boot_hasattr
  refine wpAny_execs_cons (wpAny_If ?_)
  refine wpAny_isTrue_Not ?_
  refine wpAny_isTrue_value ?_
  refine Call_ ?_
  refine ld_builtin_at F' G'.g e1 G'.b e2 ?_
  refine callWith_builtin1 ?_ (by rfl) (by rfl)
  refine spliced_more (ld F' rfl ?_)
  refine spliced_more (Calls.Constant_str (spliced_none ?_))
  refine has_str fun h' tk' up => wpAny_truthy_bool ?_
  have F2 := Fr.up F' up
  have N2 := News.up N' up
  rw [if_neg (by decide)]
  refine wpAny_execs_nil ?_
  refine wpAny_execs_cons (wpAny_Return_some (wpAny_BinOp ?_))
  refine ld (s := { s with heap := h', toks := tk' }) F2 rfl ?_
  refine ld (s := { s with heap := h', toks := tk' }) F2 rfl ?_
  refine add_str (fun t' tk2 => ?_) (by rw [S_len, S_len]; exact Nat.le_trans hz (by decide))
  rw [S_app]
  exact ⟨_, _, _, F2, N2, fun F N => k _ _ _ F N⟩
end
end
end Mine
end
section
open PySem PySem.W PyProof.Rows PySem.Calls PySem.Builtin
set_option maxRecDepth 100000
namespace Mine
noncomputable section
section
variable {prog : Program} {w : World} {A : Around} {E : Value → Shared → Prop} {s : Shared} {env : Env} {h₀ : Heap} {x : Str} {body : List Stmt} {Q : Flow → Shared → Prop}
/-- a turn's end -/
def TEnd (h₀ : Heap) (L : Addr) (J : (Str → Option Value) → List (Addr × Obj) → Prop) (own news₁ : List (Addr × Obj)) (Q : Flow → Shared → Prop) (s₁ : Shared) (f : Flow) (s₂ : Shared) : Prop :=
  match f with
  | .ret v => Q (.ret v) s₂
  | .brk => Q .next s₂
  | _ => ∃ h' tk' m' news', s₂ = { s₁ with heap := h', toks := tk' } ∧ Fr h₀ L h' m' ∧ News h₀ L h' (own ++ news') ∧ (∀ q ∈ news', (∃ o, (q.1, o) ∈ news₁) ∨ s₁.heap.get? q.1 = none ∨ ∀ p ∈ own, p.1 ≠ q.1) ∧ J m' news'
theorem TEnd.go {L : Addr} {J : (Str → Option Value) → List (Addr × Obj) → Prop} {own news₁ : List (Addr × Obj)} {s₁ : Shared} {h' : Heap} {tk' : Nat} {m' : Str → Option Value} {news' : List (Addr × Obj)}
    (F : Fr h₀ L h' m') (N : News h₀ L h' (own ++ news')) (hn : ∀ q ∈ news', (∃ o, (q.1, o) ∈ news₁) ∨ s₁.heap.get? q.1 = none ∨ ∀ p ∈ own, p.1 ≠ q.1) (hj : J m' news') : TEnd h₀ L J own news₁ Q s₁ .next { s₁ with heap := h', toks := tk' } :=
  ⟨h', tk', m', news', rfl, F, N, hn, hj⟩
theorem loop_walk {I : Addr} {fs : List Addr} {n : Nat} {P : Nat → Value → Prop} {St : Nat → Heap → Prop} {m₀ : Str → Option Value} {news : List (Addr × Obj)} (J : Nat → (Str → Option Value) → List (Addr × Obj) → Prop)
    (W : Walks prog w A I (I :: fs) [I] n P St) (alive : ∀ i h, St i h → ∃ o, h.get? I = some o) (hLf : env.locals ∉ I :: fs) (hwr : h₀.get? I = none) (hnw : ∀ p ∈ news, p.1 ≠ I) (hst : St 0 s.heap)
    (F : Fr h₀ env.locals s.heap m₀) (N : News h₀ env.locals s.heap news) (hj : J 0 m₀ news)
    (turn : ∀ i v m₁ news₁ h tk own, i < n → P i v → J i m₁ news₁ → (∀ d, d ∉ fs → (∃ o, (d, o) ∈ news₁) → ∀ p ∈ own, p.1 ≠ d) → Fr h₀ env.locals h (fun y => if y = x then some v else m₁ y) → News h₀ env.locals h (own ++ news₁) →
      wpAny (model prog w) A (execs body env) (TEnd h₀ env.locals (J (i + 1)) own news₁ Q { s with heap := h, toks := tk }) E { s with heap := h, toks := tk })
    (done : ∀ m₁ news₁ h tk, J n m₁ news₁ → Fr h₀ env.locals h m₁ → News h₀ env.locals h news₁ → Q .next { s with heap := h, toks := tk }) :
    LoopAtV prog w A h₀ env x body Q E (.ref I) s := by
  refine ⟨I, I :: fs, [I], n, P, St, m₀, news, J, rfl, W, hLf, fun b hb => List.mem_singleton.mp hb ▸ hwr, fun p hp h => hnw p hp (List.mem_singleton.mp h), hst, F, N, hj, ?_, ?_⟩
  · rintro i v m₁ news₁ s₁ own ⟨h, tk, rfl⟩ hin hP hJ hoff hown hget hmem hst' F₁ N₁
    refine wpAny_mono (turn i v m₁ news₁ h tk own hin hP hJ (fun d hd hm p hp e => ?_) F₁ N₁) (fun f s₂ p => ?_) fun _ _ e => e
    · obtain ⟨o, hm⟩ := hm
      rcases List.mem_cons.mp (hown p hp) with h1 | h1
      · exact hoff _ hm (by rw [← e, h1]; exact List.mem_singleton.mpr rfl)
      · exact hd (e ▸ h1)
    · have fin : (∃ h' tk' m' news', s₂ = { s with heap := h', toks := tk' } ∧ Fr h₀ env.locals h' m' ∧ News h₀ env.locals h' (own ++ news') ∧ (∀ q ∈ news', (∃ o, (q.1, o) ∈ news₁) ∨ h.get? q.1 = none ∨ ∀ p ∈ own, p.1 ≠ q.1) ∧ J (i + 1) m' news') →
          LoopStepU h₀ env.locals [I] own (J (i + 1)) { s with heap := h, toks := tk } .next s₂ := by
        rintro ⟨h', tk', m', news', e, F', N', hn, hm⟩
        refine ⟨rfl, h', tk', m', news', e, F', N', fun q hq hI => ?_, hm⟩
        have hI := List.mem_singleton.mp hI
        rcases hn q hq with ⟨o, h1⟩ | h1 | h1
        · exact hoff _ h1 (List.mem_singleton.mpr hI)
        · obtain ⟨o, ho⟩ := alive _ _ hst'
          rw [hI] at h1
          have ho' : h.get? I = some o := ho
          rw [h1] at ho'; cases ho'
        · obtain ⟨o, ho⟩ := alive _ _ hst'
          exact h1 _ (hmem I (.head _) hwr o ho) hI.symm
      cases f with
      | ret v => exact .ret p
      | brk => exact .brk p
      | next => exact .next (fin p)
      | cont => exact .cont (fin p)
  · rintro h' tk m' news' F' N' _ hJ
    exact done m' news' h' tk hJ F' N'
theorem not_list {h : Heap} {L l : Addr} {m : Str → Option Value} {items : Array Value} (n : h.Ns L m) (hl : h.IsList l items) : l ≠ L := by
  obtain ⟨oL, es, ep, hL, hLd, _⟩ := n
  obtain ⟨ol, ho, _, k, hd⟩ := hl
  rintro rfl
  rw [hL] at ho; cases ho
  rw [hLd] at hd; cases hd
/-- a loop over a list that its turns leave as it is -/
theorem iter_list {l : Addr} {vs : List Value} {m₀ : Str → Option Value} {news : List (Addr × Obj)} (J : Nat → (Str → Option Value) → List (Addr × Obj) → Prop)
    (hh : A.handled = none) (hl : s.heap.IsList l vs.toArray) (F : Fr h₀ env.locals s.heap m₀) (N : News h₀ env.locals s.heap news) (hj : J 0 m₀ news)
    (turn : ∀ i v m₁ news₁ h tk own, vs[i]? = some v → J i m₁ news₁ → (∀ d, d ≠ l → (∃ o, (d, o) ∈ news₁) → ∀ p ∈ own, p.1 ≠ d) → Fr h₀ env.locals h (fun y => if y = x then some v else m₁ y) → News h₀ env.locals h (own ++ news₁) →
      wpAny (model prog w) A (execs body env) (TEnd h₀ env.locals (J (i + 1)) own news₁ Q { s with heap := h, toks := tk }) E { s with heap := h, toks := tk })
    (done : ∀ m₁ news₁ h tk, J vs.length m₁ news₁ → Fr h₀ env.locals h m₁ → News h₀ env.locals h news₁ → Q .next { s with heap := h, toks := tk }) :
    wpAny (model prog w) A (pyIter (.ref l)) (fun it s₂ => LoopAtV prog w A h₀ env x body Q E it s₂) E s := by
  obtain ⟨ol, hol, _⟩ := id hl
  have hlt : l < s.heap.objs.size := Heap.lt_size hol
  have hne : l ≠ s.heap.objs.size := Nat.ne_of_lt hlt
  refine wpAny_pyIter_list hl ?_
  have W := Walks.list (prog := prog) (w := w) hh s.heap.objs.size l hne vs.toArray
  have hlen : vs.toArray.size = vs.length := by simp
  rw [hlen] at W
  refine loop_walk (fs := [l]) J W (fun i h st => let ⟨o, ho, _⟩ := st.1; ⟨o, ho⟩) ?_ ?_ (fun p hp e => absurd (Heap.lt_size (N p hp).1) (e ▸ Nat.lt_irrefl _)) ⟨⟨_, Heap.get?_push_size _ rfl, rfl, rfl⟩, hl.at fun o e => Heap.get?_push_of_some _ e⟩ (F.push _) (fun p hp => ⟨Heap.get?_push_of_some _ (N p hp).1, (N p hp).2⟩) hj
    (fun i v m₁ news₁ h tk own hi hP hJ hoff F₁ N₁ => turn i v m₁ news₁ h tk own (by have : vs.toArray[i]? = some v := hP; simpa using this) hJ (fun d hd => hoff d fun h => hd (List.mem_singleton.mp h)) F₁ N₁) done
  · intro hm
    rcases List.mem_cons.mp hm with e | hm
    · exact absurd F.ns.lt (e ▸ Nat.lt_irrefl _)
    · exact not_list F.ns hl (List.mem_singleton.mp hm).symm
  · exact next_is_new F
end
end
end Mine
end
section
open PySem PySem.W PyProof.Rows PySem.Calls PySem.Builtin
set_option maxRecDepth 100000
namespace Mine
noncomputable section
section
variable {M : Model} {A : Around} {E : Value → Shared → Prop} {s : Shared}
/-- the two compare as r, by `is` or by ==, wherever they stand -/
structure Alike (a b : Value) (r : Bool) : Prop where
  same : ∀ (M : Model) (A : Around) (E : Value → Shared → Prop) (s : Shared) (Q : Bool → Shared → Prop), Q r s → wpAny M A (isSame a b) Q E s
  eq : ∀ (prog : Program) (w : World) (A : Around) (E : Value → Shared → Prop) (s : Shared) (Q : Value → Shared → Prop), Q (.bool r) s → wpAny (model prog w) A (compareOp .Eq a b) Q E s
theorem Alike.is {a b : Value} {r : Bool} (x : Alike a b r) {Q : Value → Shared → Prop} (h : Q (.bool r) s) : wpAny M A (compareOp .Is a b) Q E s := by
  show wpAny M A (do return .bool (← isSame a b)) Q E s
  exact wpAny_bind (x.same M A E s _ (wpAny_pure h))
theorem alike_bool (a b : Bool) : Alike (.bool a) (.bool b) (a == b) :=
  ⟨fun M A E s Q h => wpAny_of_eq (isSame_plain rfl) (by cases a <;> cases b <;> exact h), fun prog w A E s Q h => eq_bool h⟩
theorem alike_int {a b : Int} {t u : Tok} (ha : smallInt a = true) (ht : t ≠ 0) (hu : u ≠ 0) (hn : t ≠ u) : Alike (.int a t) (.int b u) (a == b) := by
  refine ⟨fun M A E s Q h => ?_, fun prog w A E s Q h => eq_int h⟩
  show wpAny M A (if (a == b && smallInt a) = true then isSame.cachedInt t u else isSame.created (a == b) t u) Q E s
  have h0 : (t == 0 || u == 0) = false := by simp [ht, hu]
  rw [ha, Bool.and_true]
  cases e : (a == b) with
  | true =>
    rw [e] at h
    rw [if_pos rfl]
    show wpAny M A (if (t == 0 || u == 0) = true then _ else _) Q E s
    rw [h0, if_neg Bool.false_ne_true]
    exact wpAny_bind (wpAny_rule (wpAny_pure h))
  | false =>
    rw [e] at h
    rw [if_neg Bool.false_ne_true]
    unfold isSame.created
    rw [if_neg (by rw [h0]; exact Bool.false_ne_true), if_neg (by simpa using hn)]
    exact wpAny_pure h
/-- «x is y or x == y» -/
theorem or_test {prog : Program} {w : World} {env : Env} {x y x' y' : Expr} {p1 p2 pos : Pos} {whole : Sem Value} {a b : Value} {r : Bool} {Q : Bool → Shared → Prop} (al : Alike a b r)
    (hx : ∀ (Q : Value → Shared → Prop), Q a s → wpAny (model prog w) A (eval x env) Q E s) (hy : ∀ (Q : Value → Shared → Prop), Q b s → wpAny (model prog w) A (eval y env) Q E s)
    (hx' : ∀ (Q : Value → Shared → Prop), Q a s → wpAny (model prog w) A (eval x' env) Q E s) (hy' : ∀ (Q : Value → Shared → Prop), Q b s → wpAny (model prog w) A (eval y' env) Q E s) (h : Q r s)
    (h1 : behindInMarks .Is y = false) (h2 : behindInMarks .Eq y' = false) :
    wpAny (model prog w) A (isTrue (.BoolOp .Or [.Compare x [.Is] [y] p1, .Compare x' [.Eq] [y'] p2] pos) env whole) Q E s := by
  refine wpAny_isTrue_BoolOp (wpAny_allTrue_Or_cons (wpAny_isTrue_Compare1 (hx _ (hy _ (al.is (wpAny_truthy_bool ?_)))) h1))
  cases r with
  | true => exact h
  | false =>
    rw [if_neg Bool.false_ne_true]
    refine wpAny_allTrue_Or_cons (wpAny_isTrue_Compare1 (hx' _ (hy' _ (al.eq _ _ _ _ _ _ (wpAny_truthy_bool ?_)))) h2)
    rw [if_neg Bool.false_ne_true]
    exact wpAny_allTrue_Or_nil h
end
section
variable {w : World} {mg mb : Str → Option Value} {A : Around} {E : Value → Shared → Prop} {s : Shared} {h₀ : Heap} {L : Addr} {m : Str → Option Value} {news : List (Addr × Obj)}
/-- a store that tells what it leaves -/
theorem stS {M : Model} {name : Str} {scope : Scope} {a : Addr} {cd : Value} {x : Str} {v : Value} {Q : Unit → Shared → Prop} (F : Fr h₀ L s.heap m) (N : News h₀ L s.heap news)
    (h : ∀ h', Fr h₀ L h' (fun y => if y = x then some v else m y) → News h₀ L h' news → (∀ b, b ≠ L → h'.get? b = s.heap.get? b) → Q () { s with heap := h', toks := s.toks + 1 })
    (hk : scope.kind = .function := by rfl) (hl : (envOf name scope L a cd).kindOf x = some .local := by rfl) :
    wpAny M A (storeName (envOf name scope L a cd) x v) Q E s :=
  wpAny_storeName_local hl F.ns (fun h' hn hs => h h' (F.set hn hs) (N.set hs) hs.2)
    (by show (scope.kind == .class || (scope.kind == .module && L != mainGlobals)) = false; rw [hk]; rfl)
theorem take_countP {α : Type} (p : α → Bool) (l : List α) (i : Nat) (v : α) (h : l[i]? = some v) : (l.take (i + 1)).countP p = (l.take i).countP p + (if p v then 1 else 0) := by
  rw [List.take_add_one, h, List.countP_append]
  cases hp : p v <;> simp [hp]
theorem c_countOf {Q : Value → Shared → Prop} {f l : Addr} {vs : List Value} {b : Value} {r : Value → Bool} (G : Gd w mg mb h₀) (hf : mg "countOf" = some (.ref f)) (rm : Rm 1 A) (F : Fr h₀ L s.heap m) (N : News h₀ L s.heap news)
    (hl : s.heap.IsList l vs.toArray) (ha : ∀ v ∈ vs, Alike v b (r v))
    (k : ∀ h' tk t', s.toks ≤ tk → Fr h₀ L h' m → News h₀ L h' news → Q (.int (vs.countP r : Nat) t') { s with heap := h', toks := tk }) : wpAny (model p0 w) A (call (.ref f) [.ref l, b]) Q E s := by
  refine wpAny_with_toks (Nat.le_refl _) ?_
  refine enterUp 7 0 [("a", .ref l), ("b", b)] G hf rm F N fun A' g L' h₁ tk cd up ht r' G' F' N' => ?_
  clear F N
  have hl1 : h₁.IsList l vs.toArray := hl.at fun o e => up _ _ e
  refine wpAny_execs_cons (wpAny_Assign_Name (wpAny_Constant_int (stS F' N' fun h2 F2 N2 k2 => ?_)))
  have hl2 : h2.IsList l vs.toArray := hl1.at fun o e => (k2 l (not_list F'.ns hl1)).trans e
  refine wpAny_execs_cons (For_invV g (by rfl) (by rfl) (ld (s := { s with heap := h2, toks := tk + 1 + 1 }) F2 (by rfl) (iter_list (fun i m' news' => news' = news ∧ m' "b" = some b ∧ ∃ t, m' "count" = some (.int ((vs.take i).countP r : Nat) t)) r'.hh hl2 F2 N2 ⟨rfl, rfl, _, rfl⟩ ?turn ?done)) (by intro _; rfl) (by passes_own))
  case turn =>
    rintro i v m₁ news₁ h tk own hv ⟨rfl, hb, t, hc⟩ hoff F3 N3
    refine wpAny_execs_cons (wpAny_If ?_)
    have hx : ∀ (p : Pos) (Q : Value → Shared → Prop), Q v { s with heap := h, toks := tk } → wpAny (model p0 w) A' (eval (.Name "i" p) (ev 7 L' f cd)) Q (fun _ _ => False) { s with heap := h, toks := tk } := fun p Q' q => ld (s := { s with heap := h, toks := tk }) F3 (by rfl) q
    have hy : ∀ (p : Pos) (Q : Value → Shared → Prop), Q b { s with heap := h, toks := tk } → wpAny (model p0 w) A' (eval (.Name "b" p) (ev 7 L' f cd)) Q (fun _ _ => False) { s with heap := h, toks := tk } := fun p Q' q => ld (s := { s with heap := h, toks := tk }) F3 (by exact hb) q
    refine or_test (ha v (List.mem_of_getElem? hv)) (hx _) (hy _) (hx _) (hy _) ?_ (by with_unfolding_all rfl) (by with_unfolding_all rfl)
    cases hr : r v with
    | true =>
      rw [if_pos rfl]
      refine wpAny_execs_cons (wpAny_AugAssign_Name ?_)
      refine ldn (s := { s with heap := h, toks := tk }) F3 (by exact hc) ?_
      refine wpAny_Constant_int ?_
      refine iadd_int ?_
      refine stN (s := { s with heap := h, toks := tk + 1 + 1 }) F3 N3 fun h4 F4 N4 => ?_
      refine wpAny_execs_nil (wpAny_execs_nil ?_)
      refine TEnd.go (s₁ := { s with heap := h, toks := tk }) F4 N4 (fun q hq => .inl ⟨q.2, hq⟩) ⟨rfl, by exact hb, tk + 1, ?_⟩
      rw [take_countP r vs i v hv, hr]
      rfl
    | false =>
      rw [if_neg Bool.false_ne_true]
      refine wpAny_execs_nil (wpAny_execs_nil ?_)
      refine TEnd.go (s₁ := { s with heap := h, toks := tk }) F3 N3 (fun q hq => .inl ⟨q.2, hq⟩) ⟨rfl, hb, t, ?_⟩
      rw [take_countP r vs i v hv, hr]
      exact hc
  case done =>
    rintro m₁ news₁ h tk ⟨rfl, hb, t, hc⟩ F3 N3
    refine wpAny_execs_cons (wpAny_Return_some (ld (s := { s with heap := h, toks := tk }) F3 hc ?_))
    rw [List.take_length]
    exact ⟨_, _, _, F3, N3, fun F N ht => k _ _ _ ht F N⟩
end
end
end Mine
end
section
open PySem PySem.W PyProof.Rows PySem.Calls PySem.Builtin
set_option maxRecDepth 100000
namespace Mine
noncomputable section
section
variable {w : World} {mg mb : Str → Option Value} {A : Around} {E : Value → Shared → Prop} {s : Shared} {h₀ : Heap} {L : Addr} {m : Str → Option Value} {news : List (Addr × Obj)}
theorem boot_enum : bootBuiltins "enumerate" = some (.type "enumerate") := by kernel_rfl!
theorem c_indexOf {Q : Value → Shared → Prop} {f l : Addr} {vs : List Value} {b : Value} {r : Value → Bool} {n : Nat} {v₀ : Value} (G : Gd w mg mb h₀) (hf : mg "indexOf" = some (.ref f)) (rm : Rm 1 A) (F : Fr h₀ L s.heap m) (N : News h₀ L s.heap news)
    (hl : s.heap.IsList l vs.toArray) (ha : ∀ v ∈ vs, Alike v b (r v)) (hn : vs[n]? = some v₀) (hr : r v₀ = true) (hlt : ∀ j < n, ∀ v, vs[j]? = some v → r v = false)
    (k : ∀ h' tk t', s.toks ≤ tk → Fr h₀ L h' m → News h₀ L h' news → Q (.int n t') { s with heap := h', toks := tk }) : wpAny (model p0 w) A (call (.ref f) [.ref l, b]) Q E s := by
  refine wpAny_with_toks (Nat.le_refl _) ?_
  refine enterUp 9 0 [("a", .ref l), ("b", b)] G hf rm F N fun A' g L' h₁ tk cd up ht r' G' F' N' => ?_
  clear F N
  have hl1 : h₁.IsList l vs.toArray := hl.at fun o e => up _ _ e
  have hlL : l ≠ L' := not_list F'.ns hl1
  have e1 : mg "enumerate" = none := G'.free "enumerate" (by simp)
  have e2 : mb "enumerate" = some (.type "enumerate") := (G'.bt "enumerate" (by decide)).trans boot_enum
  refine wpAny_execs_cons (wpAny_For ?_ (by intro _; rfl))
  refine Call_ ?_
  refine ld_builtin_at F' G'.g e1 G'.b e2 ?_
  refine callWith_type1 ?_ (by rfl) (by rfl)
  refine spliced_more (ld F' (by rfl) (spliced_none ?_))
  refine call_enumerate_list hl1 fun h2 he hit hz up2 => ?_
  refine wpAny_pyIter_enum he ?_
  have F2 := Fr.up F' up2
  have N2 := News.up N' up2
  have hl2 : h2.IsList l vs.toArray := hl1.at fun o e => up2 _ _ e
  have eL : h₁.objs.size + 1 ≠ L' := Nat.ne_of_gt (Nat.lt_succ_of_lt F'.ns.lt)
  have iL : h₁.objs.size ≠ L' := Nat.ne_of_gt F'.ns.lt
  obtain ⟨ol, hol, _⟩ := id hl1
  have le : l ≠ h₁.objs.size + 1 := Nat.ne_of_lt (Nat.lt_succ_of_lt (Heap.lt_size hol))
  have li : l ≠ h₁.objs.size := Nat.ne_of_lt (Heap.lt_size hol)
  have gs : ∀ b o, g.get? b = some o → b ≠ h₁.objs.size + 1 ∧ b ≠ h₁.objs.size := fun b o e => ⟨Nat.ne_of_lt (Nat.lt_succ_of_lt (Heap.lt_size (F'.keep _ _ e))), Nat.ne_of_lt (Heap.lt_size (F'.keep _ _ e))⟩
  have ns : ∀ p ∈ news, p.1 ≠ h₁.objs.size + 1 ∧ p.1 ≠ h₁.objs.size := fun p hp => ⟨Nat.ne_of_lt (Nat.lt_succ_of_lt (Heap.lt_size (N' p hp).1)), Nat.ne_of_lt (Heap.lt_size (N' p hp).1)⟩
  have ei : h₁.objs.size + 1 ≠ h₁.objs.size := Nat.succ_ne_self _
  clear hol
  generalize h₁.objs.size + 1 = e at he hit eL ei le gs ns ⊢
  generalize h₁.objs.size = it at he hit iL ei li gs ns
  refine codeAny_forLoop_any (fun k' s' => ∃ h' tk' m' i old, s' = { s with heap := h', toks := tk' } ∧ IsEnum h' e it ((i : Nat) : Int) old ∧ h'.IsListIter it l i ∧ h'.IsList l vs.toArray ∧ Fr g L' h' m' ∧ News g L' h' news ∧ m' "b" = some b ∧ i ≤ n ∧ k' = n - i) ?_ n
    ⟨_, _, _, 0, _, rfl, he, hit, hl2, F2, N2, rfl, Nat.zero_le _, rfl⟩
  rintro k' s' ⟨H, tk', m', i, old, rfl, he', hit', hl', F3, N3, hb, hi, rfl⟩
  have hnl : n < vs.length := (List.getElem?_eq_some_iff.mp hn).1
  obtain ⟨v, hv⟩ : ∃ v, vs[i]? = some v := ⟨vs[i]'(by omega), List.getElem?_eq_getElem _⟩
  refine wpAny_pyNext_enum_item he' hit' hl' (by simpa using hv) ei fun h4 heo hit4 ht4 hz4 hk4 => ?_
  refine wpAny_letOwnedTupleGo_enum heo fun h5 he5 hs5 => ?_
  replace hs5 : Heap.SameBut e h4 h5 := hs5
  have heH : e < H.objs.size := Heap.lt_size he'
  have hz5 : h5.objs.size = H.objs.size + 1 := hs5.1.trans hz4
  have ht5 : h5.IsTuple H.objs.size #[.int i tk', v] := ⟨_, (hs5.2 _ (Nat.ne_of_gt heH)).trans ht4, rfl, _, rfl⟩
  refine wpAny_assign_Tuple r'.hh ht5 rfl rfl fun h6 hx6 => ?_
  replace hx6 : Heap.ExtBut h5.objs.size h5 h6 := hx6
  have k6 : ∀ b o, b ≠ e → H.get? b = some o ∨ h4.get? b = some o ∧ b < H.objs.size → b ≠ it → h6.get? b = some o := fun b o hbe x hbi => by
    have hb4 : h4.get? b = some o := by rcases x with x | x; exact hk4 b o hbe hbi x; exact x.1
    have hlt : b < H.objs.size := by rcases x with x | x; exact Heap.lt_size x; exact x.2
    exact hx6 b o (Nat.ne_of_lt (by rw [hz5]; exact Nat.lt_succ_of_lt hlt)) ((hs5.2 b hbe).trans hb4)
  have F6 : Fr g L' h6 m' := ⟨F3.ns.at fun o x => k6 _ o (Ne.symm eL) (.inl x) (Ne.symm iL), fun b o x => k6 b o (gs b o x).1 (.inl (F3.keep b o x)) (gs b o x).2, F3.above⟩
  have N6 : News g L' h6 news := fun p hp => ⟨k6 _ _ (ns p hp).1 (.inl (N3 p hp).1) (ns p hp).2, (N3 p hp).2⟩
  have hl6 : h6.IsList l vs.toArray := hl'.at fun o x => k6 l o le (.inl x) li
  have he6 : IsEnum h6 e it ((i : Int) + 1) v := hx6 e _ (Nat.ne_of_lt (by rw [hz5]; exact Nat.lt_succ_of_lt heH)) he5
  have hit6 : h6.IsListIter it l (i + 1) := by
    have hiH : it < H.objs.size := by obtain ⟨o, ho, _⟩ := hit'; exact Heap.lt_size ho
    exact ((hit4.extBut hs5.extBut (Ne.symm ei)).extBut hx6 (Nat.ne_of_lt (by rw [hz5]; exact Nat.lt_succ_of_lt hiH)))
  show wpAny _ A' (do holding [v] (assign (.Name _ _) _ (.int i tk')); do holding [] (assign (.Name _ _) _ v); pure ()) _ _ _
  refine wpAny_bind (wpAny_holding (wpAny_assign_Name ?_))
  refine stS (s := { s with heap := h6, toks := tk' + 1 }) F6 N6 fun h7 F7 N7 k7 => ?_
  refine wpAny_bind (wpAny_holding (wpAny_assign_Name ?_))
  refine stS (s := { s with heap := h7, toks := tk' + 1 + 1 }) F7 N7 fun h8 F8 N8 k8 => wpAny_pure ?_
  have up8 : ∀ b, b ≠ L' → h8.get? b = h6.get? b := fun b hb => (k8 b hb).trans (k7 b hb)
  have hl8 : h8.IsList l vs.toArray := hl6.at fun o x => (up8 l hlL).trans x
  have he8 : IsEnum h8 e it ((i : Int) + 1) v := (up8 e eL).trans he6
  have hit8 : h8.IsListIter it l (i + 1) := by obtain ⟨o, ho, r⟩ := hit6; exact ⟨o, (up8 it iL).trans ho, r⟩
  refine wpAny_execs_cons (wpAny_If ?_)
  have hx : ∀ (p : Pos) (E : Value → Shared → Prop) (Q : Value → Shared → Prop), Q v { s with heap := h8, toks := tk' + 1 + 1 + 1 } → wpAny (model p0 w) A' (eval (.Name "j" p) (ev 9 L' f cd)) Q E { s with heap := h8, toks := tk' + 1 + 1 + 1 } := fun p E Q' q => ld (s := { s with heap := h8, toks := tk' + 1 + 1 + 1 }) F8 (by rfl) q
  have hy : ∀ (p : Pos) (E : Value → Shared → Prop) (Q : Value → Shared → Prop), Q b { s with heap := h8, toks := tk' + 1 + 1 + 1 } → wpAny (model p0 w) A' (eval (.Name "b" p) (ev 9 L' f cd)) Q E { s with heap := h8, toks := tk' + 1 + 1 + 1 } := fun p E Q' q => ld (s := { s with heap := h8, toks := tk' + 1 + 1 + 1 }) F8 (by exact hb) q
  refine or_test (ha v (List.mem_of_getElem? hv)) (hx _ _) (hy _ _) (hx _ _) (hy _ _) ?_ (by with_unfolding_all rfl) (by with_unfolding_all rfl)
  by_cases hin : i = n
  · subst hin
    have hvv : v = v₀ := Option.some.inj (hv.symm.trans hn)
    subst hvv
    rw [hr, if_pos rfl]
    refine wpAny_execs_cons (wpAny_Return_some (ld (s := { s with heap := h8, toks := tk' + 1 + 1 + 1 }) F8 (by rfl) ?_))
    exact ⟨_, _, _, F8, N8, fun F N ht => k _ _ _ ht F N⟩
  · rw [hlt i (by omega) v hv, if_neg Bool.false_ne_true]
    refine wpAny_execs_nil (wpAny_execs_nil ?_)
    refine ⟨n - (i + 1), by omega, h8, _, _, i + 1, v, rfl, ?_, hit8, hl8, F8, N8, by exact hb, by omega, rfl⟩
    have : ((i + 1 : Nat) : Int) = (i : Int) + 1 := by push_cast; rfl
    rw [this]; exact he8
end
end
end Mine
end
section
open PySem PySem.W PyProof.Rows PySem.Calls
set_option maxRecDepth 100000
namespace Mine
noncomputable section
section
variable {w : World} {mg mb : Str → Option Value} {A : Around} {E : Value → Shared → Prop} {s : Shared} {h₀ : Heap} {L : Addr} {m : Str → Option Value} {news rest : List (Addr × Obj)}
theorem News.sub {news' : List (Addr × Obj)} {h : Heap} (N : News h₀ L h news) (k : ∀ p ∈ news', p ∈ news) : News h₀ L h news' := fun p hp => N p (k p hp)
theorem News.list {h : Heap} {a : Addr} {its : Array Value} {n : Nat} (N : News h₀ L h news) (k : (a, listOf its n) ∈ news) : h.IsList a its := ⟨_, (N _ k).1, rfl, _, rfl⟩
theorem setItem_K {prog : Program} {l : Addr} {vs : List Value} {n : Nat} {j : Nat} {k : Int} (hk : k = j) {t : Tok} {v : Value} {Q : Unit → Shared → Prop} (F : Fr h₀ L s.heap m) (N : News h₀ L s.heap ((l, listOf vs.toArray n) :: rest))
    (hd : ∀ p ∈ rest, p.1 ≠ l) (hj : j < vs.length) (hfit : (j : Int) < 2 ^ 63)
    (h : ∀ h', Fr h₀ L h' m → News h₀ L h' ((l, listOf (vs.set j v).toArray n) :: rest) → Q () { s with heap := h' }) :
    wpAny (model prog w) A (setItem (.ref l) (.int k t) v) Q E s := by
  have ho := (N _ (.head _)).1
  have hl : s.heap.IsList l vs.toArray := News.list N (.head _)
  unfold setItem
  try with_reducible refine wpAny_holding ?_
  first | refine wpAny_bind (wpAny_pure ?_) | skip
  refine wpAny_bind (wpAny_sequenceKey hl.typeIs (by decide) ?_)
  refine wpAny_bind (wpAny_callSpecial?_slot (name := Str.ofString "__setitem__") hl.typeIs slot_list_setitem
    (wpAny_call_entry slot_list_setitem hl.typeIs entry_list_setitem ?_ (args_list_setitem _ _ _)))
  show wpAny _ _ (Builtin.List.listSubscript? (.int k t) >>= _) _ _ s
  refine wpAny_bind (wpAny_listSubscript_int (fitsIndex_of (by omega) (by omega)) ?_)
  subst hk
  have hx' : vs.toArray[j]? = some vs[j] := by simp [hj]
  show wpAny _ _ ((seqItemAt l j >>= fun r => pure (r.map (j, ·))) >>= _) _ _ s
  refine wpAny_bind (wpAny_bind (wpAny_seqItemAt ho rfl (wpAny_pure ?_)))
  rw [hx']
  show wpAny _ _ (setSeqItemAt l j v >>= _) _ _ s
  have e : Obj.mapSeq (·.setIfInBounds j v) (listOf vs.toArray n) = listOf (vs.set j v).toArray n := by
    show (⟨_, _, .seq (vs.toArray.setIfInBounds j v) (if (vs.toArray.setIfInBounds j v).size == vs.toArray.size then n else n + 1), _⟩ : Obj) = _
    rw [if_pos (by simp)]
    simp
  obtain ⟨F', N'⟩ := news_upd (pre := []) F N (fun p hp => nomatch hp) hd e rfl
  have fin := h _ F' N'
  refine wpAny_bind (wpAny_setSeqItemAt ho rfl ?_)
  first
    | exact wpAny_bind (wpAny_pure (wpAny_pure ⟨.none, rfl, wpAny_pure fin⟩))
    | exact wpAny_pure ⟨.none, rfl, wpAny_pure fin⟩
theorem setItem_N {prog : Program} {l : Addr} {vs : List Value} {n : Nat} {j : Nat} {t : Tok} {v : Value} {Q : Unit → Shared → Prop} (F : Fr h₀ L s.heap m) (N : News h₀ L s.heap ((l, listOf vs.toArray n) :: rest))
    (hd : ∀ p ∈ rest, p.1 ≠ l) (hj : j < vs.length) (hfit : (j : Int) < 2 ^ 63)
    (h : ∀ h', Fr h₀ L h' m → News h₀ L h' ((l, listOf (vs.set j v).toArray n) :: rest) → Q () { s with heap := h' }) :
    wpAny (model prog w) A (setItem (.ref l) (.int j t) v) Q E s := setItem_K rfl F N hd hj hfit h
theorem c_getitem {Q : Value → Shared → Prop} {f l : Addr} {vs : List Value} {j : Nat} {u : Tok} {v : Value} (G : Gd w mg mb h₀) (hf : mg "getitem" = some (.ref f)) (rm : Rm 1 A) (F : Fr h₀ L s.heap m) (N : News h₀ L s.heap news)
    (hl : s.heap.IsList l vs.toArray) (hv : vs[j]? = some v) (hj : j < 1000)
    (k : ∀ h' tk, s.toks ≤ tk → Fr h₀ L h' m → News h₀ L h' news → Q v { s with heap := h', toks := tk }) : wpAny (model p0 w) A (call (.ref f) [.ref l, .int j u]) Q E s := by
  refine wpAny_with_toks (Nat.le_refl _) ?_
  refine enterUp 8 0 [("a", .ref l), ("b", .int j u)] G hf rm F N fun A' g L' h₁ tk cd up ht r' G' F' N' => ?_
  clear F N
  have hl1 : h₁.IsList l vs.toArray := hl.at fun o e => up _ _ e
  refine wpAny_execs_cons (wpAny_Return_some (Subscript_ ?_))
  refine ld F' (by rfl) (ld F' (by rfl) ?_)
  refine item_listL hl1 (Int.natCast_nonneg j) (by omega) (by simpa using hv) ?_
  exact ⟨_, _, _, F', N', fun F N ht => k _ _ ht F N⟩
theorem c_setitem {Q : Value → Shared → Prop} {f l : Addr} {vs : List Value} {n : Nat} {j : Nat} {u : Tok} {v : Value} (G : Gd w mg mb h₀) (hf : mg "setitem" = some (.ref f)) (rm : Rm 1 A) (F : Fr h₀ L s.heap m) (N : News h₀ L s.heap ((l, listOf vs.toArray n) :: rest))
    (hd : ∀ p ∈ rest, p.1 ≠ l) (hj : j < vs.length) (hj2 : j < 1000)
    (k : ∀ h' tk, s.toks ≤ tk → Fr h₀ L h' m → News h₀ L h' ((l, listOf (vs.set j v).toArray n) :: rest) → Q .none { s with heap := h', toks := tk }) : wpAny (model p0 w) A (call (.ref f) [.ref l, .int j u, v]) Q E s := by
  refine wpAny_with_toks (Nat.le_refl _) ?_
  refine enterUp 10 0 [("a", .ref l), ("b", .int j u), ("c", v)] G hf rm F N fun A' g L' h₁ tk cd up ht r' G' F' N' => ?_
  clear F N
  refine wpAny_execs_cons (wpAny_Assign_Subscript ?_ (by rfl))
  refine ld F' (by rfl) (ld F' (by rfl) (ld F' (by rfl) ?_))
  refine setItem_N F' N' hd hj (by omega) fun h2 F2 N2 => ?_
  refine wpAny_execs_nil ?_
  exact ⟨_, _, _, F2, N2, fun F N ht => k _ _ ht F N⟩
end
end
end Mine
end
section
open PySem PySem.W PyProof.Rows PySem.Calls
set_option maxRecDepth 100000
namespace Mine
noncomputable section
section
variable {M : Model} {A : Around} {E : Value → Shared → Prop} {h₀ h : Heap} {L a : Addr} {m : Str → Option Value} {news : List (Addr × Obj)} {name : Str} {scope : Scope} {cd : Value} {g : Array GenState} {d : Drawn} {tk : Nat} {os : OsState}
theorem ld' {x : Str} {pos : Pos} {v : Value} {Q : Value → Shared → Prop} (F : Fr h₀ L h m) (hv : m x = some v) (q : Q v ⟨h, g, d, tk, os⟩)
    (hk : scope.kind = .function := by rfl) (hl : (envOf name scope L a cd).kindOf x = some .local := by rfl)
    (hd : (x == ("__debug__" : Str)) = false := by decide) :
    wpAny M A (eval (.Name x pos) (envOf name scope L a cd)) Q E ⟨h, g, d, tk, os⟩ := ld (s := ⟨h, g, d, tk, os⟩) F hv q hk hl hd
theorem ldn' {x : Str} {v : Value} {Q : Value → Shared → Prop} (F : Fr h₀ L h m) (hv : m x = some v) (q : Q v ⟨h, g, d, tk, os⟩)
    (hk : scope.kind = .function := by rfl) (hl : (envOf name scope L a cd).kindOf x = some .local := by rfl) :
    wpAny M A (loadName (envOf name scope L a cd) x) Q E ⟨h, g, d, tk, os⟩ := ldn (s := ⟨h, g, d, tk, os⟩) F hv q hk hl
theorem stN' {x : Str} {v : Value} {Q : Unit → Shared → Prop} (F : Fr h₀ L h m) (N : News h₀ L h news)
    (q : ∀ h', Fr h₀ L h' (fun y => if y = x then some v else m y) → News h₀ L h' news → Q () ⟨h', g, d, tk + 1, os⟩)
    (hk : scope.kind = .function := by rfl) (hl : (envOf name scope L a cd).kindOf x = some .local := by rfl) :
    wpAny M A (storeName (envOf name scope L a cd) x v) Q E ⟨h, g, d, tk, os⟩ := stN (s := ⟨h, g, d, tk, os⟩) F N q hk hl
theorem newList' {vs : List Value} {Q : Value → Shared → Prop} (F : Fr h₀ L h m) (N : News h₀ L h news)
    (q : ∀ l h', (∀ p ∈ news, p.1 ≠ l) → Fr h₀ L h' m → News h₀ L h' ((l, listOf vs.toArray 0) :: news) → Q (.ref l) ⟨h', g, d, tk, os⟩) (hsz : vs.length ≤ 1000000) :
    wpAny M A (newList vs) Q E ⟨h, g, d, tk, os⟩ :=
  newList_N (s := ⟨h, g, d, tk, os⟩) F N (fun h' F' N' => q _ h' (fun p hp => Nat.ne_of_lt (Heap.lt_size (N p hp).1)) F' N') (Nat.le_trans hsz (by decide))
theorem newTuple' {vs : List Value} {Q : Value → Shared → Prop} (F : Fr h₀ L h m) (N : News h₀ L h news)
    (q : ∀ l h', (∀ p ∈ news, p.1 ≠ l) → Fr h₀ L h' m → News h₀ L h' ((l, { cls := .type "tuple", data := .seq vs.toArray }) :: news) → Q (.ref l) ⟨h', g, d, tk, os⟩) (hsz : vs.length ≤ 1000000) :
    wpAny M A (newTuple vs) Q E ⟨h, g, d, tk, os⟩ :=
  newTuple_N (s := ⟨h, g, d, tk, os⟩) F N (fun h' F' N' => q _ h' (fun p hp => Nat.ne_of_lt (Heap.lt_size (N p hp).1)) F' N') (Nat.le_trans hsz (by decide))
end
section
variable {prog : Program} {w : World} {A : Around} {E : Value → Shared → Prop} {s : Shared} {env : Env} {h₀ : Heap} {x : Str} {body : List Stmt} {Q : Flow → Shared → Prop}
theorem mod_nat {a b : Nat} {t u : Tok} {Q : Value → Shared → Prop} (hb : b ≠ 0) (h : Q (.int ((a % b : Nat) : Int) s.toks) { s with toks := s.toks + 1 }) : wpAny (model prog w) A (binaryOp .Mod (.int (a : Nat) t) (.int (b : Nat) u)) Q E s := by
  refine mod_int' (by omega) ?_
  rw [Int.fmod_eq_emod_of_nonneg _ (by omega)]
  exact h
theorem div_nat {a b : Nat} {t u : Tok} {Q : Value → Shared → Prop} (hb : b ≠ 0) (hb2 : b ≤ 1000000000) (h : Q (.int ((a / b : Nat) : Int) s.toks) { s with toks := s.toks + 1 }) : wpAny (model prog w) A (binaryOp .FloorDiv (.int (a : Nat) t) (.int (b : Nat) u)) Q E s := by
  refine floordiv_int (by omega) ?_ (.inl (PyProof.noPylong_small (by omega)))
  rw [Int.fdiv_eq_ediv_of_nonneg _ (by omega)]
  exact h
theorem range_size (a n : Nat) : Builtin.Range.rangeSize (a : Int) ((a + n : Nat) : Int) 1 = n := by
  unfold Builtin.Range.rangeSize
  rw [if_pos (by decide)]
  by_cases h : (a : Int) < ((a + n : Nat) : Int)
  · rw [if_pos h]; omega
  · rw [if_neg h]; omega
/-- a loop over range(a, a + n) -/
theorem iter_range {r : Addr} {a n b : Nat} {t u v : Tok} {m₀ : Str → Option Value} {news : List (Addr × Obj)} (J : Nat → (Str → Option Value) → List (Addr × Obj) → Prop)
    (hh : A.handled = none) (hr : IsRange s.heap r (a : Nat) (b : Nat) 1 t u v) (hb : b = a + n) (hz : b ≤ 1000000000000) (F : Fr h₀ env.locals s.heap m₀) (N : News h₀ env.locals s.heap news) (hj : J 0 m₀ news)
    (turn : ∀ i t m₁ news₁ h tk own, i < n → J i m₁ news₁ → (∀ d, (∃ o, (d, o) ∈ news₁) → ∀ p ∈ own, p.1 ≠ d) → Fr h₀ env.locals h (fun y => if y = x then some (.int ((a + i : Nat) : Int) t) else m₁ y) → News h₀ env.locals h (own ++ news₁) →
      wpAny (model prog w) A (execs body env) (TEnd h₀ env.locals (J (i + 1)) own news₁ Q { s with heap := h, toks := tk }) E { s with heap := h, toks := tk })
    (done : ∀ m₁ news₁ h tk, J n m₁ news₁ → Fr h₀ env.locals h m₁ → News h₀ env.locals h news₁ → Q .next { s with heap := h, toks := tk }) :
    wpAny (model prog w) A (pyIter (.ref r)) (fun it s₂ => LoopAtV prog w A h₀ env x body Q E it s₂) E s := by
  subst hb
  have e := range_size a n
  refine wpAny_pyIter_range hr ?_ ?_
  · unfold Builtin.Range.small
    rw [e]
    unfold Builtin.Range.rangeFitsLong
    simp
    omega
  have W := Walks.range (prog := prog) (w := w) hh s.heap.objs.size (a : Int) 1 n
  refine loop_walk (fs := []) J W (fun i h st => ⟨_, st⟩) ?_ ?_ (fun p hp e => absurd (Heap.lt_size (N p hp).1) (e ▸ Nat.lt_irrefl _)) ?_ (F.push _) (fun p hp => ⟨Heap.get?_push_of_some _ (N p hp).1, (N p hp).2⟩) hj
    (fun i v m₁ news₁ h tk own hi hP hJ hoff F₁ N₁ => ?_) done
  · intro hm
    exact absurd F.ns.lt (List.mem_singleton.mp hm ▸ Nat.lt_irrefl _)
  · exact next_is_new F
  · show IsRangeIter _ _ _ _ _
    rw [e]
    simpa using Heap.get?_push_size _ rfl
  · obtain ⟨t', rfl⟩ := hP
    have e2 : (a : Int) + (i : Int) * 1 = ((a + i : Nat) : Int) := by omega
    rw [e2] at F₁
    exact turn i t' m₁ news₁ h tk own hi hJ (fun d => hoff d (by simp)) F₁ N₁
end
end
end Mine
end
section
open PySem PySem.W PyProof.Rows PySem.Calls
set_option maxRecDepth 100000
namespace Mine
noncomputable section
def endsL : List (List Nat) := [[10], [13], [13, 10]]
def signL : List (List Nat) := [[60], [60, 61], [62], [62, 61]]
def endAt (k : Nat) : List Nat := endsL.getD (k % 3) []
def signAt (k : Nat) : List Nat := signL.getD (k % 4) []
def rowT (low k : Nat) : List Nat := List.replicate low 46 ++ signAt k ++ endAt k
def headT (way : Nat) : List Nat := if way % 2 = 0 then [126, 46] ++ endAt way else [46] ++ endAt way ++ endAt (way + 1)
def growT (low way : Nat) : Nat → List Nat
  | 0 => headT way
  | i + 1 => (if i = 0 then growT low way i else quoteL (growT low way i)) ++ rowT low (way + i)
theorem endAt_len (k : Nat) : (endAt k).length ≤ 2 := by
  unfold endAt
  have : k % 3 < 3 := Nat.mod_lt _ (by decide)
  generalize k % 3 = j at this
  match j, this with
  | 0, _ => decide
  | 1, _ => decide
  | 2, _ => decide
theorem signAt_len (k : Nat) : (signAt k).length ≤ 2 := by
  unfold signAt
  have : k % 4 < 4 := Nat.mod_lt _ (by decide)
  generalize k % 4 = j at this
  match j, this with
  | 0, _ => decide
  | 1, _ => decide
  | 2, _ => decide
  | 3, _ => decide
theorem quoteL_len (l : List Nat) : (quoteL l).length ≤ 4 * l.length := by
  have h1 := dotG_len (fixL l) true
  have h2 := fixL_len _ l (Nat.le_refl _)
  show (dotG true (fixL l)).length ≤ _
  omega
theorem rowT_len (low k : Nat) : (rowT low k).length ≤ low + 4 := by
  have h1 := signAt_len k
  have h2 := endAt_len k
  simp only [rowT, List.length_append, List.length_replicate]
  omega
theorem headT_len (way : Nat) : (headT way).length ≤ 5 := by
  have h1 := endAt_len way
  have h2 := endAt_len (way + 1)
  unfold headT
  split
  · simp only [List.length_append, List.length_cons, List.length_nil]; omega
  · simp only [List.length_append, List.length_cons, List.length_nil]; omega
def bnd : Nat → Nat
  | 0 => 5
  | i + 1 => 4 * bnd i + 8
theorem growT_len (low way : Nat) (hl : low ≤ 4) : ∀ i, (growT low way i).length ≤ bnd i
  | 0 => headT_len way
  | i + 1 => by
    have ih := growT_len low way hl i
    have h1 := rowT_len low (way + i)
    have h2 := quoteL_len (growT low way i)
    show ((if i = 0 then growT low way i else quoteL (growT low way i)) ++ rowT low (way + i)).length ≤ 4 * bnd i + 8
    rw [List.length_append]
    split <;> omega
theorem growT_small {low way i : Nat} (hl : low ≤ 4) (hi : i ≤ 4) : (growT low way i).length ≤ 2000 := by
  have h := growT_len low way hl i
  have : ∀ i ≤ 4, bnd i ≤ 2000 := by decide
  exact Nat.le_trans h (this i hi)
end
section
variable {w : World} {mg mb : Str → Option Value} {A : Around} {E : Value → Shared → Prop} {s : Shared} {h₀ : Heap} {L : Addr} {m : Str → Option Value} {news : List (Addr × Obj)}
/-- a call of one of the text's own defs -/
theorem callG {x : Str} {p pos : Pos} {e : Expr} {rest : List Expr} {f : Addr} {name : Str} {scope : Scope} {a : Addr} {cd : Value} {Q : Value → Shared → Prop} (i : Nat) (G : Gd w mg mb h₀) (hf : mg x = some (.ref f)) (F : Fr h₀ L s.heap m)
    (h : wpAny (model p0 w) A (spliced (backTo pos (starEach (e :: rest) (envOf name scope L a cd)))) (fun vs s₁ => (∀ b o, h₀.get? b = some o → s₁.heap.get? b = some o) ∧ wpAny (model p0 w) A (call (.ref f) vs) Q E s₁) E s)
    (hx : x = nmAt i := by rfl) (hi : i ∈ defIds := by decide) (e0 : fnAt i = some (nmAt i, paAt i, bdAt i, scAt i) := by rfl)
    (he : starEach (e :: rest) (envOf name scope L a cd) = (false, eval e (envOf name scope L a cd)) :: starEach rest (envOf name scope L a cd) := by rfl)
    (hk : scope.kind = .function := by rfl) (hl : (envOf name scope L a cd).kindOf x = some .globalImplicit := by rfl) (hd : (x == ("__debug__" : Str)) = false := by decide) :
    wpAny (model p0 w) A (eval (.Call (.Name x p) (e :: rest) [] pos) (envOf name scope L a cd)) Q E s := by
  subst hx
  obtain ⟨f', o, pm, cd', doc, h1, h2, h3, h4⟩ := G.fn i hi _ _ _ _ e0
  obtain rfl : f = f' := Value.ref.inj (Option.some.inj (hf.symm.trans h1))
  refine Call_ (ld_global_at F G.g hf ?_ hk hl hd)
  exact callWith_def h3 (wpAny_mono h (fun vs s₁ q => ⟨q.1 _ _ h2, q.2⟩) fun _ _ x => x) he
end
end Mine
end
section
open PySem PySem.W PyProof.Rows PySem.Calls
set_option maxRecDepth 100000
namespace Mine
noncomputable section
section
variable {M : Model} {prog : Program} {w : World} {A : Around} {E : Value → Shared → Prop} {h : Heap} {g : Array GenState} {d : Drawn} {tk : Nat} {os : OsState}
theorem cInt' {env : Env} {i : Int} {n : Nat} {pos : Pos} {Q : Value → Shared → Prop} (q : Q (.int i tk) ⟨h, g, d, tk + 1, os⟩) : wpAny M A (eval (.Constant (.int i) n pos) env) Q E ⟨h, g, d, tk, os⟩ := wpAny_Constant_int (s := ⟨h, g, d, tk, os⟩) q
theorem cStr' {env : Env} {x : Str} {n : Nat} {pos : Pos} {Q : Value → Shared → Prop} (q : Q (.str x tk) ⟨h, g, d, tk + 1, os⟩) : wpAny M A (eval (.Constant (.str x) n pos) env) Q E ⟨h, g, d, tk, os⟩ := Calls.Constant_str (s := ⟨h, g, d, tk, os⟩) q
theorem mod' {a b : Nat} {t u : Tok} {j : Int} {Q : Value → Shared → Prop} (hj : j = (b : Nat)) (hb : b ≠ 0) (q : Q (.int ((a % b : Nat) : Int) tk) ⟨h, g, d, tk + 1, os⟩) : wpAny (model prog w) A (binaryOp .Mod (.int (a : Nat) t) (.int j u)) Q E ⟨h, g, d, tk, os⟩ := by subst hj; exact mod_nat (s := ⟨h, g, d, tk, os⟩) hb q
theorem div' {a b : Nat} {t u : Tok} {j : Int} {Q : Value → Shared → Prop} (hj : j = (b : Nat)) (hb : b ≠ 0) (hb2 : b ≤ 1000000000) (q : Q (.int ((a / b : Nat) : Int) tk) ⟨h, g, d, tk + 1, os⟩) : wpAny (model prog w) A (binaryOp .FloorDiv (.int (a : Nat) t) (.int j u)) Q E ⟨h, g, d, tk, os⟩ := by subst hj; exact div_nat (s := ⟨h, g, d, tk, os⟩) hb hb2 q
theorem add' {a b : Int} {c : Int} {t u : Tok} {Q : Value → Shared → Prop} (e : a + b = c) (q : Q (.int c tk) ⟨h, g, d, tk + 1, os⟩) : wpAny (model prog w) A (binaryOp .Add (.int a t) (.int b u)) Q E ⟨h, g, d, tk, os⟩ := by subst e; exact add_int (s := ⟨h, g, d, tk, os⟩) q
theorem sub' {a b : Int} {c : Int} {t u : Tok} {Q : Value → Shared → Prop} (e : a - b = c) (q : Q (.int c tk) ⟨h, g, d, tk + 1, os⟩) : wpAny (model prog w) A (binaryOp .Sub (.int a t) (.int b u)) Q E ⟨h, g, d, tk, os⟩ := by subst e; exact sub_int (s := ⟨h, g, d, tk, os⟩) q
theorem mul' {a b : Int} {c : Int} {t u : Tok} {Q : Value → Shared → Prop} (e : a * b = c) (hm : IntMulOk a b) (q : Q (.int c tk) ⟨h, g, d, tk + 1, os⟩) : wpAny (model prog w) A (binaryOp .Mult (.int a t) (.int b u)) Q E ⟨h, g, d, tk, os⟩ := by subst e; exact mul_int (s := ⟨h, g, d, tk, os⟩) q hm
theorem addS' {a b c : List Nat} {x y : Str} {t u : Tok} {Q : Value → Shared → Prop} (ha : x = S a) (hb : y = S b) (hc : a ++ b = c) (hz : c.length ≤ 1000000) (q : ∀ t' tk', Q (.str (S c) t') ⟨h, g, d, tk', os⟩) : wpAny (model prog w) A (binaryOp .Add (.str x t) (.str y u)) Q E ⟨h, g, d, tk, os⟩ := by
  subst ha hb hc
  refine add_str (s := ⟨h, g, d, tk, os⟩) (fun t' tk2 => ?_) (by rw [S_len, S_len]; rw [List.length_append] at hz; exact Nat.le_trans hz (by decide))
  rw [S_app]
  exact q _ _
theorem rep_flat (n : Nat) (c : Nat) : (⟨(List.replicate n #[c]).foldl (· ++ ·) #[]⟩ : Str) = S (List.replicate n c) := by
  have : ∀ (n : Nat) (a : Array Nat), (List.replicate n #[c]).foldl (· ++ ·) a = a ++ (List.replicate n c).toArray := by
    intro n
    induction n with
    | zero => intro a; simp
    | succ n ih => intro a; rw [List.replicate_succ, List.foldl_cons, ih, List.replicate_succ]; apply Array.ext'; simp
  show (⟨_⟩ : Str) = ⟨_⟩
  rw [this]; simp
/-- a sign times a small number -/
theorem mulS' {c : Nat} {n : Nat} {j : Int} {x : Str} {t u : Tok} {Q : Value → Shared → Prop} (hx : x = S [c]) (hj : j = (n : Nat)) (hn : n ≤ 1000) (q : ∀ t' tk', Q (.str (S (List.replicate n c)) t') ⟨h, g, d, tk', os⟩) : wpAny (model prog w) A (binaryOp .Mult (.str x t) (.int j u)) Q E ⟨h, g, d, tk, os⟩ := by
  subst hx hj
  refine SB.mul (s := ⟨h, g, d, tk, os⟩) ⟨?_, fun h1 _ => ?_, fun _ _ => ?_⟩ fun t' tk' => ?_
  · simp; omega
  · have e : ((S [c]).length : Int) = 1 := rfl
    rw [e]
    have h2 : (1 : Int) ≤ (2 ^ 63 - 1) / (n : Int) := (Int.le_ediv_iff_mul_le (by omega)).mpr (by omega)
    omega
  · have e : (S [c]).length * (n : Int).toNat = n := by rw [S_len]; simp
    rw [e]
    exact decide_eq_false (by show ¬ n > _; have : (1000 : Nat) ≤ sizeLine := by decide
                              exact Nat.not_lt.mpr (Nat.le_trans hn this))
  · have e : Txt.mul (S [c]) (n : Nat) = S (List.replicate n c) := by
      unfold Txt.mul
      by_cases h1 : (n : Int) < 1
      · rw [if_pos h1]
        have : n = 0 := by omega
        subst this; rfl
      · rw [if_neg h1]
        by_cases h2 : n = 1
        · subst h2; rfl
        · rw [if_neg (by simp [S_len]; omega)]
          exact rep_flat n c
    rw [e]
    exact q _ _
end
end
end Mine
end
section
open PySem PySem.W PyProof.Rows PySem.Calls
set_option maxRecDepth 100000
namespace Mine
noncomputable section
section
variable {w : World} {mg mb : Str → Option Value} {A : Around} {E : Value → Shared → Prop} {h₀ h : Heap} {L : Addr} {m : Str → Option Value} {news rest : List (Addr × Obj)} {g : Array GenState} {d : Drawn} {tk : Nat} {os : OsState}
theorem enter' {Q : Value → Shared → Prop} {f : Addr} {args : List Value} (i : Nat) (k : Nat) (binds : List (Str × Value)) (G : Gd w mg mb h₀) (hf : mg (nmAt i) = some (.ref f)) (r : Rm (k + 1) A) (F : Fr h₀ L h m) (N : News h₀ L h news)
    (q : ∀ A' g' L' h₁ tk' cd, (∀ b o, h.get? b = some o → h₁.get? b = some o) → tk ≤ tk' → Rm k A' → Gd w mg mb g' → Fr g' L' h₁ (mp binds.reverse) → News g' L' h₁ news →
      wpAny (model p0 w) A' (execs (bdAt i) (ev i L' f cd)) (fun fl s' => Back h₀ L m g' Q (match fl with | .ret v => v | _ => .none) s') (fun _ _ => False) ⟨h₁, g, d, tk', os⟩)
    (hbind : ∀ pm cd doc, bindArgs (docDef (nmAt i) (paAt i) (bdAt i) (scAt i) pm cd doc) ⟨args, []⟩ = pure binds := by intros; rfl)
    (hi : i ∈ defIds := by decide) (e : fnAt i = some (nmAt i, paAt i, bdAt i, scAt i) := by rfl) (hloc : (binds.all fun x => decide ((scAt i).names.lookup x.1 = some .local)) = true := by rfl)
    (hco : (scAt i).isCoroutine = false := by rfl) (hgen : (scAt i).isGenerator = false := by rfl) (hk : (scAt i).kind = .function := by rfl)
    (hcell : ∀ x ∈ (scAt i).names, x.2 ≠ .cell := by decide) :
    wpAny (model p0 w) A (call (.ref f) args) Q E ⟨h, g, d, tk, os⟩ :=
  enterUp (s := ⟨h, g, d, tk, os⟩) i k binds G hf r F N q hbind hi e hloc hco hgen hk hcell
theorem quote' {Q : Value → Shared → Prop} {f : Addr} {l : List Nat} {t : Tok} (G : Gd w mg mb h₀) (hf : mg "quotedata" = some (.ref f)) (r : Rm 1 A) (F : Fr h₀ L h m) (N : News h₀ L h news) (hz : l.length ≤ 50000)
    (k : ∀ h' tk' t', Fr h₀ L h' m → News h₀ L h' news → Q (.str (S (quoteL l)) t') ⟨h', g, d, tk', os⟩) : wpAny (model p0 w) A (call (.ref f) [.str (S l) t]) Q E ⟨h, g, d, tk, os⟩ := c_quote (s := ⟨h, g, d, tk, os⟩) G hf r F N hz k
theorem fix' {Q : Value → Shared → Prop} {f : Addr} {l : List Nat} {t : Tok} (G : Gd w mg mb h₀) (hf : mg "_fix_eols" = some (.ref f)) (r : Rm 1 A) (F : Fr h₀ L h m) (N : News h₀ L h news) (hz : l.length ≤ 100000)
    (k : ∀ h' tk' t', Fr h₀ L h' m → News h₀ L h' news → Q (.str (S (fixL l)) t') ⟨h', g, d, tk', os⟩) : wpAny (model p0 w) A (call (.ref f) [.str (S l) t]) Q E ⟨h, g, d, tk, os⟩ := c_fix (s := ⟨h, g, d, tk, os⟩) G hf r F N hz k
theorem concat' {Q : Value → Shared → Prop} {f : Addr} {a b : List Nat} {t u : Tok} (G : Gd w mg mb h₀) (hf : mg "concat" = some (.ref f)) (r : Rm 1 A) (F : Fr h₀ L h m) (N : News h₀ L h news) (hz : a.length + b.length ≤ 1000000)
    (k : ∀ h' tk' t', Fr h₀ L h' m → News h₀ L h' news → Q (.str (S (a ++ b)) t') ⟨h', g, d, tk', os⟩) : wpAny (model p0 w) A (call (.ref f) [.str (S a) t, .str (S b) u]) Q E ⟨h, g, d, tk, os⟩ := c_concat (s := ⟨h, g, d, tk, os⟩) G hf r F N hz k
theorem callD {x : Str} {p pos : Pos} {e : Expr} {rest : List Expr} {f : Addr} {name : Str} {scope : Scope} {a : Addr} {cd : Value} {Q : Value → Shared → Prop} (i : Nat) (G : Gd w mg mb h₀) (hf : mg x = some (.ref f)) (F : Fr h₀ L h m)
    (q : wpAny (model p0 w) A (spliced (backTo pos (starEach (e :: rest) (envOf name scope L a cd)))) (fun vs s₁ => (∀ b o, h₀.get? b = some o → s₁.heap.get? b = some o) ∧ wpAny (model p0 w) A (call (.ref f) vs) Q E s₁) E ⟨h, g, d, tk, os⟩)
    (hx : x = nmAt i := by rfl) (hi : i ∈ defIds := by decide) (e0 : fnAt i = some (nmAt i, paAt i, bdAt i, scAt i) := by rfl)
    (he : starEach (e :: rest) (envOf name scope L a cd) = (false, eval e (envOf name scope L a cd)) :: starEach rest (envOf name scope L a cd) := by rfl)
    (hk : scope.kind = .function := by rfl) (hl : (envOf name scope L a cd).kindOf x = some .globalImplicit := by rfl) (hd : (x == ("__debug__" : Str)) = false := by decide) :
    wpAny (model p0 w) A (eval (.Call (.Name x p) (e :: rest) [] pos) (envOf name scope L a cd)) Q E ⟨h, g, d, tk, os⟩ := callG (s := ⟨h, g, d, tk, os⟩) i G hf F q hx hi e0 he hk hl hd
theorem Gd.has (G : Gd w mg mb h₀) (i : Nat) (hi : i ∈ defIds) (e0 : fnAt i = some (nmAt i, paAt i, bdAt i, scAt i)) : ∃ f, mg (nmAt i) = some (.ref f) :=
  let ⟨f, _, _, _, _, h1, _⟩ := G.fn i hi _ _ _ _ e0; ⟨f, h1⟩
end
section
variable {prog : Program} {w : World} {A : Around} {E : Value → Shared → Prop} {env : Env} {h₀ h : Heap} {x : Str} {body : List Stmt} {Q : Flow → Shared → Prop} {g : Array GenState} {d : Drawn} {tk : Nat} {os : OsState}
theorem TEnd.go' {L : Addr} {J : (Str → Option Value) → List (Addr × Obj) → Prop} {own news₁ : List (Addr × Obj)} {h' : Heap} {tk' : Nat} {m' : Str → Option Value} {news' : List (Addr × Obj)}
    (F : Fr h₀ L h' m') (N : News h₀ L h' (own ++ news')) (hn : ∀ q ∈ news', (∃ o, (q.1, o) ∈ news₁) ∨ h.get? q.1 = none ∨ ∀ p ∈ own, p.1 ≠ q.1) (hj : J m' news') : TEnd h₀ L J own news₁ Q ⟨h, g, d, tk, os⟩ .next ⟨h', g, d, tk', os⟩ :=
  TEnd.go (s₁ := ⟨h, g, d, tk, os⟩) F N hn hj
theorem list' {l : Addr} {vs : List Value} {m₀ : Str → Option Value} {news : List (Addr × Obj)} (J : Nat → (Str → Option Value) → List (Addr × Obj) → Prop)
    (hh : A.handled = none) (hl : h.IsList l vs.toArray) (F : Fr h₀ env.locals h m₀) (N : News h₀ env.locals h news) (hj : J 0 m₀ news)
    (turn : ∀ i v m₁ news₁ h tk own, vs[i]? = some v → J i m₁ news₁ → (∀ d, d ≠ l → (∃ o, (d, o) ∈ news₁) → ∀ p ∈ own, p.1 ≠ d) → Fr h₀ env.locals h (fun y => if y = x then some v else m₁ y) → News h₀ env.locals h (own ++ news₁) →
      wpAny (model prog w) A (execs body env) (TEnd h₀ env.locals (J (i + 1)) own news₁ Q ⟨h, g, d, tk, os⟩) E ⟨h, g, d, tk, os⟩)
    (done : ∀ m₁ news₁ h tk, J vs.length m₁ news₁ → Fr h₀ env.locals h m₁ → News h₀ env.locals h news₁ → Q .next ⟨h, g, d, tk, os⟩) :
    wpAny (model prog w) A (pyIter (.ref l)) (fun it s₂ => LoopAtV prog w A h₀ env x body Q E it s₂) E ⟨h, g, d, tk, os⟩ := iter_list (s := ⟨h, g, d, tk, os⟩) J hh hl F N hj turn done
theorem range' {r : Addr} {a n b : Nat} {t u v : Tok} {m₀ : Str → Option Value} {news : List (Addr × Obj)} (J : Nat → (Str → Option Value) → List (Addr × Obj) → Prop)
    (hh : A.handled = none) (hr : IsRange h r (a : Nat) (b : Nat) 1 t u v) (hb : b = a + n) (hz : b ≤ 1000000000000) (F : Fr h₀ env.locals h m₀) (N : News h₀ env.locals h news) (hj : J 0 m₀ news)
    (turn : ∀ i t m₁ news₁ h tk own, i < n → J i m₁ news₁ → (∀ d, (∃ o, (d, o) ∈ news₁) → ∀ p ∈ own, p.1 ≠ d) → Fr h₀ env.locals h (fun y => if y = x then some (.int ((a + i : Nat) : Int) t) else m₁ y) → News h₀ env.locals h (own ++ news₁) →
      wpAny (model prog w) A (execs body env) (TEnd h₀ env.locals (J (i + 1)) own news₁ Q ⟨h, g, d, tk, os⟩) E ⟨h, g, d, tk, os⟩)
    (done : ∀ m₁ news₁ h tk, J n m₁ news₁ → Fr h₀ env.locals h m₁ → News h₀ env.locals h news₁ → Q .next ⟨h, g, d, tk, os⟩) :
    wpAny (model prog w) A (pyIter (.ref r)) (fun it s₂ => LoopAtV prog w A h₀ env x body Q E it s₂) E ⟨h, g, d, tk, os⟩ := iter_range (s := ⟨h, g, d, tk, os⟩) J hh hr hb hz F N hj turn done
theorem callRange' {L : Addr} {m : Str → Option Value} {a b : Int} {t u : Tok} {news : List (Addr × Obj)} {Q : Value → Shared → Prop} (F : Fr h₀ L h m) (N : News h₀ L h news)
    (q : ∀ r h' tk' t₁ u₁ v₁, IsRange h' r a b 1 t₁ u₁ v₁ → Fr h₀ L h' m → News h₀ L h' news → Q (.ref r) ⟨h', g, d, tk', os⟩) :
    wpAny (model prog w) A (call (.type "range") [.int a t, .int b u]) Q E ⟨h, g, d, tk, os⟩ := range2_rows (s := ⟨h, g, d, tk, os⟩) F N fun h' tk' t₁ u₁ v₁ i F' N' _ => q _ h' tk' t₁ u₁ v₁ i F' N'
end
end
end Mine
end
section
open PySem PySem.W PyProof.Rows PySem.Calls
set_option maxRecDepth 100000
namespace Mine
noncomputable section
section
variable {w : World} {mg mb : Str → Option Value} {A : Around} {E : Value → Shared → Prop} {h₀ h : Heap} {L : Addr} {m : Str → Option Value} {news : List (Addr × Obj)} {g : Array GenState} {d : Drawn} {tk : Nat} {os : OsState}
theorem ends_at {t0 t1 t2 : Tok} (k : Nat) : ∃ t, ([Value.str (Str.ofString "\n") t0, .str (Str.ofString "\r") t1, .str (Str.ofString "\r\n") t2] : List Value)[k % 3]? = some (.str (S (endAt k)) t) := by
  have e0 : Str.ofString "\n" = S [10] := by decide +kernel
  have e1 : Str.ofString "\r" = S [13] := by decide +kernel
  have e2 : Str.ofString "\r\n" = S [13, 10] := by decide +kernel
  unfold endAt
  have : k % 3 < 3 := Nat.mod_lt _ (by decide)
  generalize k % 3 = j at this
  match j, this with
  | 0, _ => exact ⟨t0, by rw [e0]; rfl⟩
  | 1, _ => exact ⟨t1, by rw [e1]; rfl⟩
  | 2, _ => exact ⟨t2, by rw [e2]; rfl⟩
theorem signs_at {t0 t1 t2 t3 : Tok} (k : Nat) : ∃ t, ([Value.str (Str.ofString "<") t0, .str (Str.ofString "<=") t1, .str (Str.ofString ">") t2, .str (Str.ofString ">=") t3] : List Value)[k % 4]? = some (.str (S (signAt k)) t) := by
  have e0 : Str.ofString "<" = S [60] := by decide +kernel
  have e1 : Str.ofString "<=" = S [60, 61] := by decide +kernel
  have e2 : Str.ofString ">" = S [62] := by decide +kernel
  have e3 : Str.ofString ">=" = S [62, 61] := by decide +kernel
  unfold signAt
  have : k % 4 < 4 := Nat.mod_lt _ (by decide)
  generalize k % 4 = j at this
  match j, this with
  | 0, _ => exact ⟨t0, by rw [e0]; rfl⟩
  | 1, _ => exact ⟨t1, by rw [e1]; rfl⟩
  | 2, _ => exact ⟨t2, by rw [e2]; rfl⟩
  | 3, _ => exact ⟨t3, by rw [e3]; rfl⟩
/-- a list's item by a small number -/
theorem item' {value slice : PySem.Expr} {a : Addr} {l : List Value} {k : Nat} {u : Tok} {x : Value} {prog : Program} {Q : Value → Shared → Prop} (hl : h.IsList a l.toArray) (hk : k < 1000000) (hx : l[k]? = some x) (q : Q x ⟨h, g, d, tk, os⟩)
    (hs : subscripted slice false (.ref a) (.int (k : Nat) u) = operate [.ref a, .int (k : Nat) u] (getItem (.ref a) (.int (k : Nat) u))) :
    wpAny (model prog w) A (subscriptTail value slice (.ref a) (.int (k : Nat) u)) Q E ⟨h, g, d, tk, os⟩ :=
  kba_turn (value' := PySem.Expr.Name (PySem.Str.ofString "_") ⟨0, 0, 0, 0⟩) (fun _ => rfl) (item_listL (s := ⟨h, g, d, tk, os⟩) hl (Int.natCast_nonneg k) (by omega) (by simpa using hx) q hs (fun _ => rfl))
end
end
end Mine
end
section
open PySem PySem.W PyProof.Rows PySem.Calls
set_option maxRecDepth 100000
namespace Mine
noncomputable section
section
variable {w : World} {mg mb : Str → Option Value} {A : Around} {E : Value → Shared → Prop} {h₀ h : Heap} {L : Addr} {m : Str → Option Value} {news : List (Addr × Obj)} {g : Array GenState} {d : Drawn} {tk : Nat} {os : OsState}
theorem ite_post {M : Model} {α : Type} {s : Shared} {c : Prop} [Decidable c] {x y : Sem α} {Q : α → Shared → Prop} (P : α → Shared → Prop) (hx : c → wpAny M A x P E s) (hy : ¬ c → wpAny M A y P E s) (hpq : ∀ a s', P a s' → Q a s') :
    if c then wpAny M A x Q E s else wpAny M A y Q E s := by
  by_cases h : c
  · rw [if_pos h]; exact wpAny_mono (hx h) hpq fun _ _ e => e
  · rw [if_neg h]; exact wpAny_mono (hy h) hpq fun _ _ e => e
theorem c_block {Q : Value → Shared → Prop} {f : Addr} {low size way : Nat} {t u v : Tok} (G : Gd w mg mb h₀) (hf : mg "_law_block" = some (.ref f)) (rm : Rm 2 A) (F : Fr h₀ L h m) (N : News h₀ L h news)
    (hl : low ≤ 4) (hs : size ≤ 4) (hw : way ≤ 1000000000)
    (k : ∀ h' tk' t', Fr h₀ L h' m → News h₀ L h' news → Q (.str (S (growT low way size)) t') ⟨h', g, d, tk', os⟩) : wpAny (model p0 w) A (call (.ref f) [.int low t, .int size u, .int way v]) Q E ⟨h, g, d, tk, os⟩ := by
  refine enter' 67 1 [("low", .int low t), ("size", .int size u), ("way", .int way v)] G hf rm F N fun A' g' L' h₁ tk1 cd up ht r' G' F' N' => ?_
  clear F N
  refine wpAny_execs_cons (wpAny_Assign_Name (List_ (spliced_more (cStr' (spliced_more (cStr' (spliced_more (cStr' (spliced_none ?_)))))))))
  refine newList' F' N' (fun a h2 ha F2 N2 => ?_) (by exact Nat.le_of_ble_eq_true rfl)
  refine stN' F2 N2 fun h3 F3 N3 => ?_
  have he3 := News.list N3 (.head _)
  -- the head
  have hd1 : ∀ (p1 p2 p3 p4 p5 : Pos) (j : Nat) (h : Heap) (tk : Nat) (mm : Str → Option Value) (Q : Value → Shared → Prop) (N : News g' L' h ((a, listOf ([Value.str (Str.ofString "\n") tk1, .str (Str.ofString "\r") (tk1 + 1), .str (Str.ofString "\r\n") (tk1 + 1 + 1)] : List Value).toArray 0) :: news)), Fr g' L' h mm → mm "ends" = some (.ref a) → mm "way" = some (.int way v) →
      (∀ t tk', Q (.str (S (endAt way)) t) ⟨h, g, d, tk', os⟩) → wpAny (model p0 w) A' (eval (.Subscript (.Name "ends" p1) (.BinOp (.Name "way" p2) .Mod (.Constant (.int 3) j p3) p4) p5) (ev 67 L' f cd)) Q (fun _ _ => False) ⟨h, g, d, tk, os⟩ := by
    intro p1 p2 p3 p4 p5 j h tk mm Q N F h1 h2 q
    refine Subscript_ (ld' F h1 (wpAny_BinOp (ld' F h2 (cInt' (mod' (b := 3) rfl (by decide) ?_)))))
    obtain ⟨t', ht'⟩ := ends_at (t0 := tk1) (t1 := tk1 + 1) (t2 := tk1 + 1 + 1) way
    exact item' (News.list N (.head _)) (Nat.lt_of_lt_of_le (Nat.mod_lt way (by decide)) (by decide)) ht' (q _ _) (by with_unfolding_all rfl)
  refine wpAny_execs_cons (wpAny_Assign_Name (IfExp_ ?_))
  refine wpAny_isTrue_Compare1 (wpAny_BinOp (ld' F3 (by rfl) (cInt' (mod' (b := 2) rfl (by decide) (cInt' (eq_int (wpAny_truthy_bool ?_))))))) (by rfl)
  refine ite_post (fun v s' => ∃ t tk', v = .str (S (headT way)) t ∧ s' = ⟨h3, g, d, tk', os⟩) (fun hc => ?_) (fun hc => ?_) ?_
  · have hw2 : way % 2 = 0 := by have := beq_iff_eq.mp hc; omega
    refine wpAny_BinOp (cStr' (hd1 _ _ _ _ _ _ _ _ _ _ N3 F3 (by rfl) (by rfl) fun t2 tk2 => addS' (a := [126, 46]) (by decide +kernel) rfl rfl ?_ fun t3 tk3 => ⟨t3, tk3, ?_, rfl⟩))
    · have := endAt_len way; rw [List.length_append]; show 2 + _ ≤ _; omega
    · unfold headT; rw [if_pos hw2]
  · have hw2 : ¬ way % 2 = 0 := by intro e; rw [e] at hc; exact hc rfl
    refine wpAny_BinOp (wpAny_BinOp (cStr' (hd1 _ _ _ _ _ _ _ _ _ _ N3 F3 (by rfl) (by rfl) fun t2 tk2 => addS' (a := [46]) (by decide +kernel) rfl rfl ?_ fun t3 tk3 => ?_)))
    · have := endAt_len way; rw [List.length_append]; show 1 + _ ≤ _; omega
    refine Subscript_ (ld' F3 (by rfl) (wpAny_BinOp (wpAny_BinOp (ld' F3 (by rfl) (cInt' (add' (c := ((way + 1 : Nat) : Int)) (by omega) (cInt' (mod' (b := 3) rfl (by decide) ?_))))))))
    obtain ⟨t', ht'⟩ := ends_at (t0 := tk1) (t1 := tk1 + 1) (t2 := tk1 + 1 + 1) (way + 1)
    refine item' he3 (Nat.lt_of_lt_of_le (Nat.mod_lt (way + 1) (by decide)) (by decide)) ht' ?_ (by with_unfolding_all rfl)
    refine addS' rfl rfl rfl ?_ fun t4 tk4 => ⟨t4, tk4, ?_, rfl⟩
    · have h1 := endAt_len way; have h2 := endAt_len (way + 1); simp only [List.length_append, List.length_cons, List.length_nil]; omega
    · unfold headT; rw [if_neg hw2]
  rintro _ _ ⟨t2, tk2, rfl, rfl⟩
  refine stN' F3 N3 fun h4 F4 N4 => ?_
  -- the loop
  have e1 : mg "range" = none := G'.free "range" (by simp)
  have e2 : mb "range" = some (.type "range") := (G'.bt "range" (by decide)).trans boot_range
  obtain ⟨fq, hfq⟩ := Gd.has G' 15 (by decide) (by rfl)
  obtain ⟨fc, hfc⟩ := Gd.has G' 6 (by decide) (by rfl)
  refine wpAny_execs_cons (For_invV g' (by rfl) (by rfl) ?_ (by intro _; rfl) (by passes_own))
  refine Call_ (ld_builtin_at (s := ⟨h4, g, d, tk2 + 1, os⟩) F4 G'.g e1 G'.b e2 (callWith_type1 ?_ (by rfl) (by rfl)))
  refine spliced_more (ld' F4 (by rfl) (spliced_more (wpAny_BinOp (ld' F4 (by rfl) (ld' F4 (by rfl) (add' (c := ((way + size : Nat) : Int)) (by omega) (spliced_none ?_)))))))
  refine callRange' F4 N4 fun r h5 tk5 t5 u5 v5 hr5 F5 N5 => ?_
  refine range' (n := size) (fun i m' news' => news' = (a, listOf ([Value.str (Str.ofString "\n") tk1, .str (Str.ofString "\r") (tk1 + 1), .str (Str.ofString "\r\n") (tk1 + 1 + 1)] : List Value).toArray 0) :: news ∧
    m' "ends" = some (.ref a) ∧ m' "way" = some (.int way v) ∧ m' "low" = some (.int low t) ∧ ∃ t, m' "text" = some (.str (S (growT low way i)) t)) r'.hh hr5 rfl (by omega) F5 N5 ⟨rfl, rfl, rfl, rfl, _, rfl⟩ ?turn ?done
  case done =>
    rintro m₁ news₁ h tk ⟨rfl, h1, h2, h3, t6, h4⟩ F6 N6
    refine wpAny_execs_cons (wpAny_Return_some (ld' F6 h4 ?_))
    refine ⟨_, _, _, F6, News.sub N6 fun p hp => .tail _ hp, fun F N => k _ _ _ F N⟩
  case turn =>
    rintro i ti m₁ news₁ h tk own hi ⟨rfl, h1, h2, h3, t6, h4⟩ hoff F6 N6
    refine wpAny_execs_cons (wpAny_If (wpAny_isTrue_Compare1 (ld' F6 (by rfl) (ld' F6 (by exact h2) (gt_int (wpAny_truthy_bool ?_)))) (by rfl)))
    refine ite_post (fun fl s' => fl = .next ∧ ∃ h' tk' m' t', s' = ⟨h', g, d, tk', os⟩ ∧ Fr g' L' h' m' ∧ News g' L' h' (own ++ ((a, listOf ([Value.str (Str.ofString "\n") tk1, .str (Str.ofString "\r") (tk1 + 1), .str (Str.ofString "\r\n") (tk1 + 1 + 1)] : List Value).toArray 0) :: news)) ∧
      m' "ends" = some (.ref a) ∧ m' "way" = some (.int way v) ∧ m' "low" = some (.int low t) ∧ m' "k" = some (.int ((way + i : Nat) : Int) ti) ∧ m' "text" = some (.str (S (if i = 0 then growT low way i else quoteL (growT low way i))) t')) (fun hc => ?_) (fun hc => ?_) ?_
    · have hi0 : i ≠ 0 := by have := of_decide_eq_true hc; omega
      refine wpAny_execs_cons (wpAny_Assign_Name (callD 15 G' hfq F6 (spliced_more (ld' F6 (by exact h4) (spliced_none ⟨F6.keep, ?_⟩)))))
      refine quote' G' hfq r' F6 N6 (Nat.le_trans (growT_small hl (by omega)) (by decide)) fun h7 tk7 t7 F7 N7 => ?_
      refine stN' F7 N7 fun h8 F8 N8 => wpAny_execs_nil ?_
      exact ⟨rfl, h8, _, _, t7, rfl, F8, N8, by exact h1, by exact h2, by exact h3, by rfl, by rw [if_neg hi0]; rfl⟩
    · have hi0 : i = 0 := by
        have : ¬ (((way + i : Nat) : Int) > ((way : Nat) : Int)) := fun q => hc (decide_eq_true q)
        omega
      refine wpAny_execs_nil ?_
      exact ⟨rfl, h, _, _, t6, rfl, F6, N6, by exact h1, by exact h2, by exact h3, by rfl, by rw [if_pos hi0]; exact h4⟩
    clear F6 N6 h1 h2 h3 h4
    rintro _ _ ⟨rfl, h7, tk7, m7, t7, rfl, F7, N7, h1, h2, h3, hk, h4⟩
    have hlen : (if i = 0 then growT low way i else quoteL (growT low way i)).length ≤ 8000 := by
      have h5 := growT_small (low := low) (way := way) (i := i) hl (by omega)
      have h6 := quoteL_len (growT low way i)
      split <;> omega
    refine wpAny_execs_cons (wpAny_Assign_Name (callD 6 G' hfc F7 (spliced_more (ld' F7 h4 (spliced_more (wpAny_BinOp (wpAny_BinOp (wpAny_BinOp (cStr' (ld' F7 h3 ?_))))))))))
    refine mulS' (c := 46) (n := low) (by decide +kernel) rfl (by omega) fun t8 tk8 => ?_
    refine Subscript_ (List_ (spliced_more (cStr' (spliced_more (cStr' (spliced_more (cStr' (spliced_more (cStr' (spliced_none ?_))))))))))
    refine newList' F7 N7 (fun b h9 hb F9 N9 => ?_) (by exact Nat.le_of_ble_eq_true rfl)
    refine wpAny_BinOp (ld' F9 hk (cInt' (mod' (b := 4) rfl (by decide) ?_)))
    obtain ⟨t9, ht9⟩ := signs_at (t0 := tk8) (t1 := tk8 + 1) (t2 := tk8 + 1 + 1) (t3 := tk8 + 1 + 1 + 1) (way + i)
    refine item' (News.list N9 (.head _)) (Nat.lt_of_lt_of_le (Nat.mod_lt (way + i) (by decide)) (by decide)) ht9 ?_ (by with_unfolding_all rfl)
    have hr0 := rowT_len low (way + i)
    refine addS' rfl rfl rfl (by unfold rowT at hr0; rw [List.length_append] at hr0; omega) fun t10 tk10 => ?_
    refine Subscript_ (ld' F9 h1 (wpAny_BinOp (ld' F9 hk (cInt' (mod' (b := 3) rfl (by decide) ?_)))))
    obtain ⟨t11, ht11⟩ := ends_at (t0 := tk1) (t1 := tk1 + 1) (t2 := tk1 + 1 + 1) (way + i)
    refine item' (News.list N9 (.tail _ (List.mem_append_right _ (.head _)))) (Nat.lt_of_lt_of_le (Nat.mod_lt (way + i) (by decide)) (by decide)) ht11 ?_ (by with_unfolding_all rfl)
    refine addS' rfl rfl rfl (show (rowT low (way + i)).length ≤ _ by omega) fun t12 tk12 => spliced_none ⟨F9.keep, ?_⟩
    refine concat' G' hfc r' F9 N9 (show _ + (rowT low (way + i)).length ≤ _ by omega) fun h13 tk13 t13 F13 N13 => ?_
    refine stN' F13 N13 fun h14 F14 N14 => wpAny_execs_nil ?_
    refine TEnd.go' F14 (News.sub N14 fun p hp => .tail _ hp) (fun q hq => .inl ⟨q.2, hq⟩) ⟨rfl, by exact h1, by exact h2, by exact h3, t13, by rfl⟩
end
end
end Mine
end
section
open PySem PySem.W PyProof.Rows PySem.Calls
set_option maxRecDepth 100000
namespace Mine
noncomputable section
section
variable {prog : Program} {w : World} {A : Around} {E : Value → Shared → Prop} {R : Result → Shared → Prop} {h₀ h : Heap} {L : Addr} {m : Str → Option Value} {news rest : List (Addr × Obj)} {g : Array GenState} {d : Drawn} {tk : Nat} {os : OsState}
theorem append' {l : Addr} {vs : List Value} {n : Nat} {x : Value} {Q : Value → Shared → Prop} (F : Fr h₀ L h m) (N : News h₀ L h ((l, listOf vs.toArray n) :: rest)) (hd : ∀ p ∈ rest, p.1 ≠ l) (hz : vs.length ≤ 1000000)
    (q : ∀ h' n', Fr h₀ L h' m → News h₀ L h' ((l, listOf (vs ++ [x]).toArray n') :: rest) → Q .none ⟨h', g, d, tk, os⟩) :
    wpAny (model prog w) A (call (.builtin "list.append") [.ref l, x]) Q E ⟨h, g, d, tk, os⟩ := by
  have ho : (⟨h, g, d, tk, os⟩ : Shared).heap.get? l = some (listOf vs.toArray n) := (N _ (.head _)).1
  have hT : (⟨h, g, d, tk, os⟩ : Shared).TypeIs (.ref l) "list" := (show h.IsList l vs.toArray from News.list N (.head _)).typeIs
  refine wpAny_call_entry slot_list_append hT entry_list_append ?_ (args_list_append _ _)
  show wpAny _ _ (updateSeq l (·.push x) >>= fun _ => ret .none) _ _ _
  refine wpAny_bind ?_
  have e : Obj.mapSeq (·.push x) (listOf vs.toArray n) = listOf (vs ++ [x]).toArray (n + 1) := by
    show (⟨_, _, .seq (vs.toArray.push x) (if (vs.toArray.push x).size == vs.toArray.size then n else n + 1), _⟩ : Obj) = _
    rw [if_neg (by simp)]
    simp
  obtain ⟨F', N'⟩ := news_upd (pre := []) F N (fun p hp => nomatch hp) hd e rfl
  exact wpAny_updateSeq ho rfl (wpAny_pure ⟨.none, rfl, q _ _ F' N'⟩) (by rw [List.size_toArray]; exact Nat.le_trans hz (by decide)) (by rw [Array.size_push, List.size_toArray]; exact Nat.succ_le_succ (Nat.le_trans hz (by decide)))
/-- a comprehension's loop, in frame and ledger -/
theorem comp_loop {elt iter : Expr} {x : Str} {px : Pos} {scope : Scope} {pos : Pos} {I D : Addr} {fp wr : List Addr} {n : Nat} {P : Nat → Value → Prop} {St : Nat → Heap → Prop} {cenv : Env}
    (W : Walks prog w A I fp wr n P St) (hx : cenv.kindOf x = some .local) (hp : (cenv.scope.kind == .class || (cenv.scope.kind == .module && cenv.locals != cenv.globals)) = false)
    (hCf : cenv.locals ∉ fp) (hDf : D ∉ fp) (hwr : ∀ b ∈ wr, h₀.get? b = none) (hst : St 0 h) (F : Fr h₀ cenv.locals h m) (hex : ∀ p ∈ rest, p.1 ∉ wr) (hD : ∀ p ∈ rest, p.1 ≠ D)
    (J : Nat → List Value → List (Addr × Obj) → Prop) (N : News h₀ cenv.locals h ((D, listOf ([] : List Value).toArray 0) :: rest)) (hj : J 0 [] rest) (hn : n ≤ 1000000)
    (turn : ∀ i v ys ex h tk (m₁ : Str → Option Value) own k, i < n → P i v → J i ys ex → ys.length = i → (∀ p ∈ own, p.1 ∈ fp) → (∀ b ∈ fp, h₀.get? b = none → ∀ o, h.get? b = some o → (b, o) ∈ own) → (∀ p ∈ ex, p.1 ∉ wr ∧ p.1 ≠ D) → St (i + 1) h → Fr h₀ cenv.locals h (fun y => if y = x then some v else m₁ y) → News h₀ cenv.locals h (own ++ (D, listOf ys.toArray k) :: ex) →
      wpAny (model prog w) A (eval elt cenv) (fun y s' => ∃ h' tk' m' ex', s' = ⟨h', g, d, tk', os⟩ ∧ Fr h₀ cenv.locals h' m' ∧ News h₀ cenv.locals h' (own ++ (D, listOf ys.toArray k) :: ex') ∧ (∀ p ∈ ex', p.1 ∉ wr ∧ p.1 ≠ D) ∧ J (i + 1) (ys ++ [y]) ex')
        (notedBy (model prog w) A cenv fun e s' => R (.error e) s') ⟨h, g, d, tk, os⟩)
    (done : ∀ ys ex h' tk m' k, J n ys ex → ys.length = n → (∀ p ∈ ex, p.1 ∉ wr ∧ p.1 ≠ D) → Fr h₀ cenv.locals h' m' → News h₀ cenv.locals h' ((D, listOf ys.toArray k) :: ex) → R (.ok .next) ⟨h', g, d, tk, os⟩) :
    codeAny (model prog w) A (.compLoop (.ListComp elt [⟨.Name x px, iter, [], 0⟩] scope pos) 0 (.ref I) (.ref D) cenv) R ⟨h, g, d, tk, os⟩ := by
  have hCw : cenv.locals ∉ wr := fun h => hCf (W.sub _ h)
  have hDw : D ∉ wr := fun h => hDf (W.sub _ h)
  have old : ∀ b o, h₀.get? b = some o → b ∉ wr := fun b o e hb => by rw [hwr b hb] at e; cases e
  refine codeAny_compLoop_list (fun k' s' => ∃ h' tk' m' i ys ex k, s' = ⟨h', g, d, tk', os⟩ ∧ St i h' ∧ Fr h₀ cenv.locals h' m' ∧ News h₀ cenv.locals h' ((D, listOf ys.toArray k) :: ex) ∧ (∀ p ∈ ex, p.1 ∉ wr ∧ p.1 ≠ D) ∧ J i ys ex ∧ ys.length = i ∧ i ≤ n ∧ k' = n + 1 - i) ?_ (n + 1)
    ⟨h, tk, m, 0, [], rest, 0, rfl, hst, F, N, fun p hp => ⟨hex p hp, hD p hp⟩, hj, rfl, Nat.zero_le _, rfl⟩
  rintro k' s' ⟨h', tk', m', i, ys, ex, k, rfl, hst', F', N', hex', hJ, hlen, hi, rfl⟩
  have next : ∀ h₁ : Heap, (∀ b o, b ∉ wr → h'.get? b = some o → h₁.get? b = some o) → Fr h₀ cenv.locals h₁ m' ∧ News h₀ cenv.locals h₁ ((D, listOf ys.toArray k) :: ex) := fun h₁ hk₁ =>
    ⟨⟨F'.ns.at' fun o e => hk₁ _ o hCw e, fun b o e => hk₁ b o (old b o e) (F'.keep b o e), F'.above⟩, fun p hp => ⟨hk₁ _ _ (by rcases List.mem_cons.mp hp with rfl | hp; exact hDw; exact (hex' p hp).1) (N' p hp).1, (N' p hp).2⟩⟩
  by_cases hlt : i < n
  · refine W.item i _ _ _ hlt hst' fun v h₁ tk₁ hP hst₁ hk₁ => ?_
    obtain ⟨F₁, N₁⟩ := next h₁ hk₁
    refine wpAny_assign_Name (wpAny_storeName_local hx F₁.ns (fun h₂ hn₂ hs₂ => ?_) hp)
    have F₂ := F₁.set hn₂ hs₂
    have N₂ := N₁.set hs₂
    have hst₂ : St (i + 1) h₂ := W.frame _ _ _ hst₁ fun b hb o e => hs₂.extBut b o (fun q => hCf (q ▸ hb)) e
    have Nown : News h₀ cenv.locals h₂ (ownOf h₀ fp h₂) := news_ownOf hCf
    refine wpAny_mono (turn i v ys ex h₂ _ _ (ownOf h₀ fp h₂) k hlt hP hJ hlen ownOf_sub (fun b hb hn o ho => mem_ownOf hb hn ho) hex' hst₂ F₂ (Nown.append N₂)) (fun y s₃ q => ?_) fun _ _ e => e
    obtain ⟨h₃, tk₃, m₃, ex₃, rfl, F₃, N₃, hex₃, hJ₃⟩ := q
    have N₃' : News h₀ cenv.locals h₃ ((D, listOf ys.toArray k) :: (ex₃ ++ ownOf h₀ fp h₂)) := News.sub N₃ fun p hp => by
      simp only [List.mem_cons, List.mem_append] at hp ⊢
      rcases hp with h | h | h
      · exact .inr (.inl h)
      · exact .inr (.inr h)
      · exact .inl h
    refine append' F₃ N₃' (fun p hp => ?_) (by omega) fun h₄ k₄ F₄ N₄ => ?_
    · rcases List.mem_append.mp hp with h | h
      · exact (hex₃ p h).2
      · exact fun e => hDf (e ▸ ownOf_sub p h)
    refine ⟨n + 1 - (i + 1), by omega, h₄, tk₃, m₃, i + 1, ys ++ [y], ex₃, k₄, rfl, ?_, F₄, News.sub N₄ (fun p hp => ?_), hex₃, hJ₃, by simp [hlen], hlt, rfl⟩
    · refine W.frame _ _ _ hst₂ fun b hb o e => ?_
      cases hn : h₀.get? b with
      | some o₀ =>
        have : o₀ = o := by have := F₂.keep b o₀ hn; rw [e] at this; exact (Option.some.inj this).symm
        exact this ▸ F₄.keep b o₀ hn
      | none => exact (N₄ _ (.tail _ (List.mem_append_right _ (mem_ownOf hb hn e)))).1
    · simp only [List.mem_cons, List.mem_append] at hp ⊢
      rcases hp with h | h
      · exact .inl h
      · exact .inr (.inl h)
  · have hin : i = n := by omega
    subst hin
    refine W.done _ _ _ hst' fun h₁ tk₁ hk₁ => ?_
    obtain ⟨F₁, N₁⟩ := next h₁ hk₁
    exact done ys ex h₁ tk₁ m' k hJ hlen hex' F₁ N₁
end
end
end Mine
end
section
open PySem PySem.W PyProof.Rows PySem.Calls
set_option maxRecDepth 100000
namespace Mine
noncomputable section
section
variable {prog : Program} {w : World} {A : Around} {E : Value → Shared → Prop} {h₀ h : Heap} {L : Addr} {m : Str → Option Value} {news : List (Addr × Obj)} {g : Array GenState} {d : Drawn} {tk : Nat} {os : OsState}
theorem Fr.sameAt {h' : Heap} {C : Addr} (F : Fr h₀ L h m) (hs : Heap.SameBut C h h') (hL : C ≠ L) (hC : h₀.get? C = none) : Fr h₀ L h' m :=
  ⟨F.ns.at' fun o e => hs.extBut L o hL.symm e, fun b o e => hs.extBut b o (fun q => by rw [q, hC] at e; cases e) (F.keep b o e), F.above⟩
theorem News.sameAt {h' : Heap} {C : Addr} (N : News h₀ L h news) (hs : Heap.SameBut C h h') (hC : ∀ p ∈ news, p.1 ≠ C) : News h₀ L h' news := fun p hp => ⟨hs.extBut _ _ (hC p hp) (N p hp).1, (N p hp).2⟩
/-- a whole comprehension, once its iterator is there -/
theorem comp_atR {elt iter : Expr} {x : Str} {px : Pos} {scope : Scope} {cl : List (Str × Addr)} {pos : Pos} {env : Env} {RR : Value → Addr → Result → Shared → Prop} {I : Addr} {fp wr : List Addr} {n : Nat} {P : Nat → Value → Prop} {St : Nat → Heap → Prop}
    (hkind : scope.kind = .function) (hcell : ∀ y ∈ scope.names, y.2 ≠ .cell) (hx : scope.names.lookup x = some .local)
    (W : Walks prog w A I fp wr n P St) (hst : St 0 h) (hfp : ∀ b ∈ fp, b < h.objs.size) (alive : ∀ i h, St i h → ∀ b ∈ wr, ∃ o, h.get? b = some o) (hLw : L ∉ wr) (hwr : ∀ b ∈ wr, h₀.get? b = none) (hnw : ∀ p ∈ news, p.1 ∉ wr) (hn : n ≤ 1000000)
    (F : Fr h₀ L h m) (N : News h₀ L h news) (J : Nat → List Value → List (Addr × Obj) → Prop) (hj : J 0 [] [])
    (turn : ∀ C g₁ D, (∀ b o, b ∉ wr → h.get? b = some o → g₁.get? b = some o) → ∀ E' i v ys ex h tk (m₁ : Str → Option Value) own k, i < n → P i v → J i ys ex → ys.length = i →
      Fr g₁ C h (fun y => if y = x then some v else m₁ y) → News g₁ C h (own ++ (D, listOf ys.toArray k) :: ex) →
      wpAny (model prog w) A (eval elt (compEnvC scope cl C env)) (fun y s' => ∃ h' tk' m' ex', s' = ⟨h', g, d, tk', os⟩ ∧ Fr g₁ C h' m' ∧ News g₁ C h' (own ++ (D, listOf ys.toArray k) :: ex') ∧ (∀ p ∈ ex', (∃ o, (p.1, o) ∈ ex) ∨ h.get? p.1 = none ∨ ∀ q ∈ own ++ (D, listOf ys.toArray k) :: ex, q.1 ≠ p.1) ∧ J (i + 1) (ys ++ [y]) ex')
        E' ⟨h, g, d, tk, os⟩)
    (done : ∀ C D ys ex h' tk' k m', J n ys ex → ys.length = n → (∀ p ∈ ex ++ news, p.1 ≠ D) → C ≠ L → h₀.get? C = none → (∀ p ∈ (D, listOf ys.toArray k) :: (ex ++ news), p.1 ≠ C) → h'.Ns C m' → Fr h₀ L h' m → News h₀ L h' ((D, listOf ys.toArray k) :: (ex ++ news)) → RR (.ref D) C (.ok .next) ⟨h', g, d, tk', os⟩) :
    wpAny (model prog w) A (newList []) (fun acc s₃ => wpAny (model prog w) A (newFunctionEnv scope env.globals cl [] env.qual none .none (some env)) (fun cenv s₄ =>
      codeAny (model prog w) A (.compStart (.ListComp elt [⟨.Name x px, iter, [], 0⟩] scope pos) 0 (.ref I) acc { cenv with scope := relabel scope env }) (RR acc cenv.locals) s₄) E s₃) E ⟨h, g, d, tk, os⟩ := by
  refine wpAny_newObj_type (s := ⟨h, g, d, tk, os⟩) (wpAny_newFunctionEnv hcell (by intro y hy; simp at hy) (fun h₁ hns₁ hsb₁ => ?_) hkind)
  dsimp only at hns₁ hsb₁ ⊢
  generalize hH2 : h.push { cls := .type "list", dict := none, data := .seq ([] : List Value).toArray } = H2 at hns₁ hsb₁ ⊢
  have hC : H2.objs.size = h.objs.size + 1 := by rw [← hH2, Heap.size_push]
  have hDC : h.objs.size ≠ H2.objs.size := by rw [hC]; exact Nat.ne_of_lt (Nat.lt_succ_self _)
  have below : ∀ b, b < h.objs.size → b ≠ H2.objs.size ∧ b ≠ h.objs.size := fun b hb => ⟨by rw [hC]; exact Nat.ne_of_lt (Nat.lt_succ_of_lt hb), Nat.ne_of_lt hb⟩
  have old : ∀ b o, h.get? b = some o → h₁.get? b = some o := fun b o e => hsb₁.extBut b o (below b (Heap.lt_size e)).1 (Heap.get?_push_of_some _ (hH2 ▸ Heap.get?_push_of_some _ e))
  have hacc : h₁.get? h.objs.size = some (listOf ([] : List Value).toArray 0) := hsb₁.extBut _ _ hDC (Heap.get?_push_of_some _ (hH2 ▸ Heap.get?_push_size _ rfl))
  have hst₁ : St 0 h₁ := W.frame _ _ _ hst fun b _ o e => old b o e
  have g1 : ∀ b o, (hideAll h wr).get? b = some o → h.get? b = some o := fun b o e => of_hideAll _ e
  have g2 : ∀ b o, b ∉ wr → h.get? b = some o → (hideAll h wr).get? b = some o := fun b o hb e => hideAll_get _ e hb
  have g0 : ∀ b o, h₀.get? b = some o → (hideAll h wr).get? b = some o := fun b o e => g2 b o (fun hb => by rw [hwr b hb] at e; cases e) (F.keep b o e)
  have gz : (hideAll h wr).objs.size = h.objs.size := hideAll_size _ _
  have gD : (hideAll h wr).get? h.objs.size = none := Heap.get?_none_of_le (Nat.le_of_eq gz)
  have gw : ∀ b ∈ wr, (hideAll h wr).get? b = none := fun b hb => hideAll_none _ hb
  have F1 : Fr (hideAll h wr) H2.objs.size h₁ _ := ⟨hns₁, fun b o e => old b o (g1 b o e), by rw [gz, hC]; exact Nat.le_succ _⟩
  have N1 : News (hideAll h wr) H2.objs.size h₁ ((h.objs.size, listOf ([] : List Value).toArray 0) :: []) := fun p hp => by
    rw [List.mem_singleton.mp hp]
    exact ⟨hacc, hDC, gD⟩
  have loop : ∀ s₃ : Shared, s₃ = ⟨h₁, g, d, tk + ([] : List (Str × Value)).length, os⟩ →
      codeAny (model prog w) A (.compLoop (.ListComp elt [⟨.Name x px, iter, [], 0⟩] scope pos) 0 (.ref I) (.ref h.objs.size) (compEnvC scope cl H2.objs.size env))
        (RR (.ref h.objs.size) H2.objs.size) s₃ := by
    rintro s₃ rfl
    refine comp_loop (cenv := compEnvC scope cl H2.objs.size env) W (lookup_relabel_local hx) (by simp [compEnvC, relabel, hkind]) (fun hm => (below _ (hfp _ hm)).1 rfl) (fun hm => (below _ (hfp _ hm)).2 rfl) gw hst₁ F1 (fun p hp => absurd hp List.not_mem_nil) (fun p hp => absurd hp List.not_mem_nil)
      J N1 hj hn (fun i v ys ex h' tk' m₁ own k hi hP hJ hl hown hmem hexw hst' F' N' => ?_) fun ys ex h' tk' m' k hJ hl hexw F' N' => ?_
    · refine wpAny_mono (turn _ _ _ g2 _ i v ys ex h' tk' m₁ own k hi hP hJ hl F' N') (fun y s' q => ?_) fun _ _ e => e
      obtain ⟨h₂, tk₂, m₂, ex₂, e, F₂, N₂, hex₂, hJ₂⟩ := q
      have key : ∀ p ∈ ex₂, p.1 ∉ wr ∧ p.1 ≠ h.objs.size := fun p hp => by
        rcases hex₂ p hp with ⟨o, ho⟩ | hnone | hap
        · exact hexw (p.1, o) ho
        · refine ⟨fun hw => ?_, fun e' => ?_⟩
          · obtain ⟨o, ho⟩ := alive _ _ hst' _ hw
            rw [hnone] at ho; cases ho
          · have := (N' _ (List.mem_append_right _ (.head _))).1
            rw [← e', hnone] at this; cases this
        · refine ⟨fun hw => ?_, fun e' => hap _ (List.mem_append_right _ (.head _)) e'.symm⟩
          obtain ⟨o, ho⟩ := alive _ _ hst' _ hw
          exact hap _ (List.mem_append_left _ (hmem _ (W.sub _ hw) (gw _ hw) o ho)) rfl
      exact ⟨h₂, tk₂, m₂, ex₂, e, F₂, N₂, key, hJ₂⟩
    · have up : ∀ b o, b ∉ wr → h.get? b = some o → h'.get? b = some o := fun b o hb e => F'.keep b o (g2 b o hb e)
      have low : ∀ p ∈ (h.objs.size, listOf ys.toArray k) :: ex, h'.get? p.1 = some p.2 ∧ p.1 ≠ L ∧ h₀.get? p.1 = none := fun p hp => by
        have q := N' p hp
        refine ⟨q.1, fun e => ?_, ?_⟩
        · obtain ⟨oL, es, ep, hL, _⟩ := F.ns
          have := q.2.2
          rw [e, g2 _ _ hLw hL] at this; cases this
        · cases e : h₀.get? p.1 with
          | none => rfl
          | some o => have := q.2.2; rw [g0 _ _ e] at this; cases this
      refine done H2.objs.size _ ys ex h' tk' k m' hJ hl (fun p hp => ?_) (below L F.ns.lt).1.symm ?_ (fun p hp => ?_) F'.ns ⟨F.ns.at' fun o e => up L o hLw e, fun b o e => up b o (fun hb => by rw [hwr b hb] at e; cases e) (F.keep b o e), F.above⟩ fun p hp => ?_
      · rcases List.mem_append.mp hp with hp | hp
        · exact (hexw p hp).2
        · exact (below _ (Heap.lt_size (N p hp).1)).2
      · cases e : h₀.get? H2.objs.size with
        | none => rfl
        | some o => exact absurd rfl (below _ (Heap.lt_size (F.keep _ _ e))).1
      · rcases List.mem_cons.mp hp with rfl | hp
        · exact hDC
        · rcases List.mem_append.mp hp with hp | hp
          · exact (N' p (.tail _ hp)).2.1
          · exact (below _ (Heap.lt_size (N p hp).1)).1
      · rcases List.mem_cons.mp hp with rfl | hp
        · exact low _ (.head _)
        · rcases List.mem_append.mp hp with hp | hp
          · exact low p (.tail _ hp)
          · exact ⟨up _ _ (hnw p hp) (N p hp).1, (N p hp).2⟩
  exact codeAny_compStart_list (loop _ rfl) (W.self 0 _ _ _ hst₁ (loop _ rfl))
end
end
end Mine
end
section
open PySem PySem.W PyProof.Rows PySem.Calls
set_option maxRecDepth 100000
namespace Mine
noncomputable section
section
variable {prog : Program} {w : World} {A : Around} {E : Value → Shared → Prop} {s : Shared} {h₀ h : Heap} {L : Addr} {m : Str → Option Value} {news : List (Addr × Obj)} {g : Array GenState} {d : Drawn} {tk : Nat} {os : OsState}
def CompRest (prog : Program) (w : World) (A : Around) (E : Value → Shared → Prop) (elt iter : Expr) (x : Str) (px : Pos) (scope : Scope) (cl : List (Str × Addr)) (pos : Pos) (env : Env) (Q : Value → Shared → Prop) (it : Value) (s₂ : Shared) : Prop :=
  wpAny (model prog w) A (newList []) (fun acc s₃ => wpAny (model prog w) A (newFunctionEnv scope env.globals cl [] env.qual none .none (some env)) (fun cenv s₄ =>
      codeAny (model prog w) A (.compStart (.ListComp elt [⟨.Name x px, iter, [], 0⟩] scope pos) 0 it acc { cenv with scope := relabel scope env }) (compPost (model prog w) A E none Q acc cenv.locals) s₄) E s₃) E s₂
def CompRestR (prog : Program) (w : World) (A : Around) (E : Value → Shared → Prop) (elt iter : Expr) (x : Str) (px : Pos) (scope : Scope) (cl : List (Str × Addr)) (pos : Pos) (env : Env) (RR : Value → Addr → Result → Shared → Prop) (it : Value) (s₂ : Shared) : Prop :=
  wpAny (model prog w) A (newList []) (fun acc s₃ => wpAny (model prog w) A (newFunctionEnv scope env.globals cl [] env.qual none .none (some env)) (fun cenv s₄ =>
      codeAny (model prog w) A (.compStart (.ListComp elt [⟨.Name x px, iter, [], 0⟩] scope pos) 0 it acc { cenv with scope := relabel scope env }) (RR acc cenv.locals) s₄) E s₃) E s₂
theorem comp_eval {elt iter : Expr} {x : Str} {px : Pos} {scope : Scope} {cl : List (Str × Addr)} {pos : Pos} {env : Env} {Q : Value → Shared → Prop} (hclos : closureFor scope env = pure cl)
    (q : wpAny (model prog w) A (eval iter env) (fun xv s₁ => wpAny (model prog w) A (pyIter xv) (CompRest prog w A E elt iter x px scope cl pos env Q) E s₁) E s)
    (hs : ∀ x, foldedSetIterable iter env x = pure x) (hkind : scope.kind = .function) (hnames : ∀ x ∈ scope.names, x.2 = .local → scope.names.lookup x.1 = some .local) :
    wpAny (model prog w) A (eval (.ListComp elt [⟨.Name x px, iter, [], 0⟩] scope pos) env) Q E s := by
  rw [eval_ListComp]
  exact wpAny_comprehension_free (use := none) rfl hs hclos hkind hnames q
theorem comp_assign {elt iter : Expr} {x y : Str} {px py : Pos} {scope : Scope} {cl : List (Str × Addr)} {pos spos : Pos} {env : Env} {Q : Flow → Shared → Prop} (hsw : swapsWith (.ListComp elt [⟨.Name x px, iter, [], 0⟩] scope pos) (some (.Name y py)) spos.line env = pure true) (hclos : closureFor scope env = pure cl)
    (q : wpAny (model prog w) A (eval iter env) (fun xv s₁ => wpAny (model prog w) A (pyIter xv) (CompRestR prog w A E elt iter x px scope cl pos env (compPost (model prog w) A E (some (assign (.Name y py) env)) (fun _ s' => Q .next s'))) E s₁) E s)
    (hs : ∀ x, foldedSetIterable iter env x = pure x) (hkind : scope.kind = .function) (hnames : ∀ x ∈ scope.names, x.2 = .local → scope.names.lookup x.1 = some .local) :
    wpAny (model prog w) A (exec (.Assign [.Name y py] (.ListComp elt [⟨.Name x px, iter, [], 0⟩] scope pos) spos) env) Q E s := by
  rw [exec_Assign_Name_used _ _ _ _ hsw]
  refine wpAny_bind (wpAny_standAt (wpAny_bind ?_))
  show wpAny _ A (do let _ ← comprehension (.ListComp elt [⟨.Name x px, iter, [], 0⟩] scope pos) scope env _ (newList []) false (eval iter env) (some (assign (.Name y py) env))) _ _ s
  exact wpAny_bind (wpAny_mono (wpAny_comprehension_free (use := some (assign (.Name y py) env)) (Q := fun _ s' => Q .next s') rfl hs hclos hkind hnames q) (fun _ s' hq => wpAny_pure (wpAny_pure hq)) fun _ _ e => e)
theorem compLR {elt iter : Expr} {x : Str} {px : Pos} {scope : Scope} {cl : List (Str × Addr)} {pos : Pos} {env : Env} {RR : Value → Addr → Result → Shared → Prop} {l : Addr} {vs : List Value}
    (hkind : scope.kind = .function) (hcell : ∀ y ∈ scope.names, y.2 ≠ .cell) (hx : scope.names.lookup x = some .local) (hh : A.handled = none) (hl : h.IsList l vs.toArray) (hn : vs.length ≤ 1000000)
    (F : Fr h₀ L h m) (N : News h₀ L h news) (J : Nat → List Value → List (Addr × Obj) → Prop) (hj : J 0 [] [])
    (turn : ∀ C g₁ D, (∀ b o, h.get? b = some o → g₁.get? b = some o) → ∀ E' i v ys ex h tk (m₁ : Str → Option Value) own k, vs[i]? = some v → J i ys ex → ys.length = i →
      Fr g₁ C h (fun y => if y = x then some v else m₁ y) → News g₁ C h (own ++ (D, listOf ys.toArray k) :: ex) →
      wpAny (model prog w) A (eval elt (compEnvC scope cl C env)) (fun y s' => ∃ h' tk' m' ex', s' = ⟨h', g, d, tk', os⟩ ∧ Fr g₁ C h' m' ∧ News g₁ C h' (own ++ (D, listOf ys.toArray k) :: ex') ∧ (∀ p ∈ ex', (∃ o, (p.1, o) ∈ ex) ∨ h.get? p.1 = none ∨ ∀ q ∈ own ++ (D, listOf ys.toArray k) :: ex, q.1 ≠ p.1) ∧ J (i + 1) (ys ++ [y]) ex')
        E' ⟨h, g, d, tk, os⟩)
    (done : ∀ C D ys ex h' tk' k m', J vs.length ys ex → ys.length = vs.length → (∀ p ∈ ex ++ news, p.1 ≠ D) → C ≠ L → h₀.get? C = none → (∀ p ∈ (D, listOf ys.toArray k) :: (ex ++ news), p.1 ≠ C) → h'.Ns C m' → Fr h₀ L h' m → News h₀ L h' ((D, listOf ys.toArray k) :: (ex ++ news)) → RR (.ref D) C (.ok .next) ⟨h', g, d, tk', os⟩) :
    wpAny (model prog w) A (pyIter (.ref l)) (CompRestR prog w A E elt iter x px scope cl pos env RR) E ⟨h, g, d, tk, os⟩ := by
  obtain ⟨ol, hol, _⟩ := id hl
  have hlt : l < h.objs.size := Heap.lt_size hol
  refine wpAny_pyIter_list (s := ⟨h, g, d, tk, os⟩) hl ?_
  have W := Walks.list (prog := prog) (w := w) hh h.objs.size l (Nat.ne_of_lt hlt) vs.toArray
  have hlen : vs.toArray.size = vs.length := by simp
  rw [hlen] at W
  have nb : ∀ b o, h.get? b = some o → b ∉ [h.objs.size] := fun b o e hb => by
    have := Heap.lt_size e
    rw [List.mem_singleton.mp hb] at this
    exact Nat.lt_irrefl _ this
  refine comp_atR (fp := [h.objs.size, l]) (wr := [h.objs.size]) hkind hcell hx W ⟨⟨_, Heap.get?_push_size _ rfl, rfl, rfl⟩, hl.at fun o e => Heap.get?_push_of_some _ e⟩ ?_ (fun i h' st b hb => ?_) ?_ (fun b hb => ?_) (fun p hp => nb _ _ (N p hp).1) hn (F.push _)
    (fun p hp => ⟨Heap.get?_push_of_some _ (N p hp).1, (N p hp).2⟩) J hj (fun C g₁ D up => ?_) done
  · intro b hb
    rw [Heap.size_push]
    rcases List.mem_cons.mp hb with rfl | hb
    · exact Nat.lt_succ_self _
    · rw [List.mem_singleton.mp hb]; exact Nat.lt_succ_of_lt hlt
  · rw [List.mem_singleton.mp hb]
    obtain ⟨o, ho, _⟩ := st.1
    exact ⟨o, ho⟩
  · exact fun hm => absurd F.ns.lt (List.mem_singleton.mp hm ▸ Nat.lt_irrefl _)
  · rw [List.mem_singleton.mp hb]; exact next_is_new F
  · intro E' i v ys ex h' tk' m₁ own k hi hP
    exact turn C g₁ D (fun b o e => up b o (nb b o e) (Heap.get?_push_of_some _ e)) E' i v ys ex h' tk' m₁ own k (by simpa using hP)
theorem compL {elt iter : Expr} {x : Str} {px : Pos} {scope : Scope} {cl : List (Str × Addr)} {pos : Pos} {env : Env} {Q : Value → Shared → Prop} {l : Addr} {vs : List Value}
    (hkind : scope.kind = .function) (hcell : ∀ y ∈ scope.names, y.2 ≠ .cell) (hx : scope.names.lookup x = some .local) (hh : A.handled = none) (hl : h.IsList l vs.toArray) (hn : vs.length ≤ 1000000)
    (F : Fr h₀ L h m) (N : News h₀ L h news) (J : Nat → List Value → List (Addr × Obj) → Prop) (hj : J 0 [] [])
    (turn : ∀ C g₁ D, (∀ b o, h.get? b = some o → g₁.get? b = some o) → ∀ E' i v ys ex h tk (m₁ : Str → Option Value) own k, vs[i]? = some v → J i ys ex → ys.length = i →
      Fr g₁ C h (fun y => if y = x then some v else m₁ y) → News g₁ C h (own ++ (D, listOf ys.toArray k) :: ex) →
      wpAny (model prog w) A (eval elt (compEnvC scope cl C env)) (fun y s' => ∃ h' tk' m' ex', s' = ⟨h', g, d, tk', os⟩ ∧ Fr g₁ C h' m' ∧ News g₁ C h' (own ++ (D, listOf ys.toArray k) :: ex') ∧ (∀ p ∈ ex', (∃ o, (p.1, o) ∈ ex) ∨ h.get? p.1 = none ∨ ∀ q ∈ own ++ (D, listOf ys.toArray k) :: ex, q.1 ≠ p.1) ∧ J (i + 1) (ys ++ [y]) ex')
        E' ⟨h, g, d, tk, os⟩)
    (done : ∀ D ys ex h' tk' k, J vs.length ys ex → ys.length = vs.length → (∀ p ∈ ex ++ news, p.1 ≠ D) → Fr h₀ L h' m → News h₀ L h' ((D, listOf ys.toArray k) :: (ex ++ news)) → Q (.ref D) ⟨h', g, d, tk', os⟩) :
    wpAny (model prog w) A (pyIter (.ref l)) (CompRest prog w A E elt iter x px scope cl pos env Q) E ⟨h, g, d, tk, os⟩ :=
  compLR (RR := compPost (model prog w) A E none Q) hkind hcell hx hh hl hn F N J hj turn fun C D ys ex h' tk' k m' hJ hl hne hCL hC hap hns F' N' =>
    ⟨m', hns, fun h'' hs => done D ys ex h'' tk' k hJ hl hne (Fr.sameAt F' hs hCL hC) (News.sameAt N' hs hap)⟩
theorem compLU {elt iter : Expr} {x : Str} {px : Pos} {scope : Scope} {cl : List (Str × Addr)} {pos : Pos} {env : Env} {Q : Value → Shared → Prop} {y : Str} {py : Pos} {l : Addr} {vs : List Value}
    (hkind : scope.kind = .function) (hcell : ∀ y ∈ scope.names, y.2 ≠ .cell) (hx : scope.names.lookup x = some .local) (hh : A.handled = none) (hl : h.IsList l vs.toArray) (hn : vs.length ≤ 1000000)
    (F : Fr h₀ env.locals h m) (N : News h₀ env.locals h news) (hy : env.kindOf y = some .local) (hp : (env.scope.kind == .class || (env.scope.kind == .module && env.locals != env.globals)) = false) (J : Nat → List Value → List (Addr × Obj) → Prop) (hj : J 0 [] [])
    (turn : ∀ C g₁ D, (∀ b o, h.get? b = some o → g₁.get? b = some o) → ∀ E' i v ys ex h tk (m₁ : Str → Option Value) own k, vs[i]? = some v → J i ys ex → ys.length = i →
      Fr g₁ C h (fun y => if y = x then some v else m₁ y) → News g₁ C h (own ++ (D, listOf ys.toArray k) :: ex) →
      wpAny (model prog w) A (eval elt (compEnvC scope cl C env)) (fun y s' => ∃ h' tk' m' ex', s' = ⟨h', g, d, tk', os⟩ ∧ Fr g₁ C h' m' ∧ News g₁ C h' (own ++ (D, listOf ys.toArray k) :: ex') ∧ (∀ p ∈ ex', (∃ o, (p.1, o) ∈ ex) ∨ h.get? p.1 = none ∨ ∀ q ∈ own ++ (D, listOf ys.toArray k) :: ex, q.1 ≠ p.1) ∧ J (i + 1) (ys ++ [y]) ex')
        E' ⟨h, g, d, tk, os⟩)
    (done : ∀ D ys ex h' tk' k, J vs.length ys ex → ys.length = vs.length → (∀ p ∈ ex ++ news, p.1 ≠ D) → Fr h₀ env.locals h' (fun z => if z = y then some (.ref D) else m z) → News h₀ env.locals h' ((D, listOf ys.toArray k) :: (ex ++ news)) → Q .none ⟨h', g, d, tk', os⟩) :
    wpAny (model prog w) A (pyIter (.ref l)) (CompRestR prog w A E elt iter x px scope cl pos env (compPost (model prog w) A E (some (assign (.Name y py) env)) Q)) E ⟨h, g, d, tk, os⟩ := by
  refine compLR (RR := compPost (model prog w) A E (some (assign (.Name y py) env)) Q) hkind hcell hx hh hl hn F N J hj turn fun C D ys ex h' tk' k m' hJ hl hne hCL hC hap hns F' N' => ?_
  show wpAny _ A (assign (.Name y py) env (.ref D)) _ _ _
  refine wpAny_assign_Name (wpAny_storeName_local (s := ⟨h', g, d, tk', os⟩) hy F'.ns (fun h₂ hn₂ hs₂ => ⟨m', hns.sameBut hs₂ hCL, fun h₃ hs₃ => ?_⟩) hp)
  exact done D ys ex h₃ _ k hJ hl hne (Fr.sameAt (F'.set hn₂ hs₂) hs₃ hCL hC) (News.sameAt (N'.set hs₂) hs₃ hap)
theorem compRR {elt iter : Expr} {x : Str} {px : Pos} {scope : Scope} {cl : List (Str × Addr)} {pos : Pos} {env : Env} {RR : Value → Addr → Result → Shared → Prop} {r : Addr} {a b n : Nat} {t u v : Tok}
    (hkind : scope.kind = .function) (hcell : ∀ y ∈ scope.names, y.2 ≠ .cell) (hx : scope.names.lookup x = some .local) (hh : A.handled = none) (hr : IsRange h r (a : Nat) (b : Nat) 1 t u v) (hb : b = a + n) (hz : b ≤ 1000000000000) (hn : n ≤ 1000000)
    (F : Fr h₀ L h m) (N : News h₀ L h news) (J : Nat → List Value → List (Addr × Obj) → Prop) (hj : J 0 [] [])
    (turn : ∀ C g₁ D, (∀ b o, h.get? b = some o → g₁.get? b = some o) → ∀ E' i t ys ex h tk (m₁ : Str → Option Value) own k, i < n → J i ys ex → ys.length = i →
      Fr g₁ C h (fun y => if y = x then some (.int ((a + i : Nat) : Int) t) else m₁ y) → News g₁ C h (own ++ (D, listOf ys.toArray k) :: ex) →
      wpAny (model prog w) A (eval elt (compEnvC scope cl C env)) (fun y s' => ∃ h' tk' m' ex', s' = ⟨h', g, d, tk', os⟩ ∧ Fr g₁ C h' m' ∧ News g₁ C h' (own ++ (D, listOf ys.toArray k) :: ex') ∧ (∀ p ∈ ex', (∃ o, (p.1, o) ∈ ex) ∨ h.get? p.1 = none ∨ ∀ q ∈ own ++ (D, listOf ys.toArray k) :: ex, q.1 ≠ p.1) ∧ J (i + 1) (ys ++ [y]) ex')
        E' ⟨h, g, d, tk, os⟩)
    (done : ∀ C D ys ex h' tk' k m', J n ys ex → ys.length = n → (∀ p ∈ ex ++ news, p.1 ≠ D) → C ≠ L → h₀.get? C = none → (∀ p ∈ (D, listOf ys.toArray k) :: (ex ++ news), p.1 ≠ C) → h'.Ns C m' → Fr h₀ L h' m → News h₀ L h' ((D, listOf ys.toArray k) :: (ex ++ news)) → RR (.ref D) C (.ok .next) ⟨h', g, d, tk', os⟩) :
    wpAny (model prog w) A (pyIter (.ref r)) (CompRestR prog w A E elt iter x px scope cl pos env RR) E ⟨h, g, d, tk, os⟩ := by
  subst hb
  have e := range_size a n
  refine wpAny_pyIter_range (s := ⟨h, g, d, tk, os⟩) hr ?_ ?_
  · unfold Builtin.Range.small
    rw [e]
    unfold Builtin.Range.rangeFitsLong
    simp
    omega
  have W := Walks.range (prog := prog) (w := w) hh h.objs.size (a : Int) 1 n
  have nb : ∀ b o, h.get? b = some o → b ∉ [h.objs.size] := fun b o e hb => by
    have := Heap.lt_size e
    rw [List.mem_singleton.mp hb] at this
    exact Nat.lt_irrefl _ this
  refine comp_atR (fp := [h.objs.size]) (wr := [h.objs.size]) hkind hcell hx W ?_ ?_ (fun i h' st b hb => ?_) ?_ (fun b hb => ?_) (fun p hp => nb _ _ (N p hp).1) hn (F.push _)
    (fun p hp => ⟨Heap.get?_push_of_some _ (N p hp).1, (N p hp).2⟩) J hj (fun C g₁ D up => ?_) done
  · show IsRangeIter _ _ _ _ _
    rw [e]
    simpa using Heap.get?_push_size _ rfl
  · intro b hb
    rw [Heap.size_push, List.mem_singleton.mp hb]
    exact Nat.lt_succ_self _
  · rw [List.mem_singleton.mp hb]; exact ⟨_, st⟩
  · exact fun hm => absurd F.ns.lt (List.mem_singleton.mp hm ▸ Nat.lt_irrefl _)
  · rw [List.mem_singleton.mp hb]; exact next_is_new F
  · rintro E' i v ys ex h' tk' m₁ own k hi ⟨t', rfl⟩ hJ hl F' N'
    have e2 : (a : Int) + (i : Int) * 1 = ((a + i : Nat) : Int) := by omega
    rw [e2] at F'
    exact turn C g₁ D (fun b o e => up b o (nb b o e) (Heap.get?_push_of_some _ e)) E' i t' ys ex h' tk' m₁ own k hi hJ hl F' N'
theorem compR {elt iter : Expr} {x : Str} {px : Pos} {scope : Scope} {cl : List (Str × Addr)} {pos : Pos} {env : Env} {Q : Value → Shared → Prop} {r : Addr} {a b n : Nat} {t u v : Tok}
    (hkind : scope.kind = .function) (hcell : ∀ y ∈ scope.names, y.2 ≠ .cell) (hx : scope.names.lookup x = some .local) (hh : A.handled = none) (hr : IsRange h r (a : Nat) (b : Nat) 1 t u v) (hb : b = a + n) (hz : b ≤ 1000000000000) (hn : n ≤ 1000000)
    (F : Fr h₀ L h m) (N : News h₀ L h news) (J : Nat → List Value → List (Addr × Obj) → Prop) (hj : J 0 [] [])
    (turn : ∀ C g₁ D, (∀ b o, h.get? b = some o → g₁.get? b = some o) → ∀ E' i t ys ex h tk (m₁ : Str → Option Value) own k, i < n → J i ys ex → ys.length = i →
      Fr g₁ C h (fun y => if y = x then some (.int ((a + i : Nat) : Int) t) else m₁ y) → News g₁ C h (own ++ (D, listOf ys.toArray k) :: ex) →
      wpAny (model prog w) A (eval elt (compEnvC scope cl C env)) (fun y s' => ∃ h' tk' m' ex', s' = ⟨h', g, d, tk', os⟩ ∧ Fr g₁ C h' m' ∧ News g₁ C h' (own ++ (D, listOf ys.toArray k) :: ex') ∧ (∀ p ∈ ex', (∃ o, (p.1, o) ∈ ex) ∨ h.get? p.1 = none ∨ ∀ q ∈ own ++ (D, listOf ys.toArray k) :: ex, q.1 ≠ p.1) ∧ J (i + 1) (ys ++ [y]) ex')
        E' ⟨h, g, d, tk, os⟩)
    (done : ∀ D ys ex h' tk' k, J n ys ex → ys.length = n → (∀ p ∈ ex ++ news, p.1 ≠ D) → Fr h₀ L h' m → News h₀ L h' ((D, listOf ys.toArray k) :: (ex ++ news)) → Q (.ref D) ⟨h', g, d, tk', os⟩) :
    wpAny (model prog w) A (pyIter (.ref r)) (CompRest prog w A E elt iter x px scope cl pos env Q) E ⟨h, g, d, tk, os⟩ :=
  compRR (RR := compPost (model prog w) A E none Q) hkind hcell hx hh hr hb hz hn F N J hj turn fun C D ys ex h' tk' k m' hJ hl hne hCL hC hap hns F' N' =>
    ⟨m', hns, fun h'' hs => done D ys ex h'' tk' k hJ hl hne (Fr.sameAt F' hs hCL hC) (News.sameAt N' hs hap)⟩
theorem compRU {elt iter : Expr} {x : Str} {px : Pos} {scope : Scope} {cl : List (Str × Addr)} {pos : Pos} {env : Env} {Q : Value → Shared → Prop} {y : Str} {py : Pos} {r : Addr} {a b n : Nat} {t u v : Tok}
    (hkind : scope.kind = .function) (hcell : ∀ y ∈ scope.names, y.2 ≠ .cell) (hx : scope.names.lookup x = some .local) (hh : A.handled = none) (hr : IsRange h r (a : Nat) (b : Nat) 1 t u v) (hb : b = a + n) (hz : b ≤ 1000000000000) (hn : n ≤ 1000000)
    (F : Fr h₀ env.locals h m) (N : News h₀ env.locals h news) (hy : env.kindOf y = some .local) (hp : (env.scope.kind == .class || (env.scope.kind == .module && env.locals != env.globals)) = false) (J : Nat → List Value → List (Addr × Obj) → Prop) (hj : J 0 [] [])
    (turn : ∀ C g₁ D, (∀ b o, h.get? b = some o → g₁.get? b = some o) → ∀ E' i t ys ex h tk (m₁ : Str → Option Value) own k, i < n → J i ys ex → ys.length = i →
      Fr g₁ C h (fun y => if y = x then some (.int ((a + i : Nat) : Int) t) else m₁ y) → News g₁ C h (own ++ (D, listOf ys.toArray k) :: ex) →
      wpAny (model prog w) A (eval elt (compEnvC scope cl C env)) (fun y s' => ∃ h' tk' m' ex', s' = ⟨h', g, d, tk', os⟩ ∧ Fr g₁ C h' m' ∧ News g₁ C h' (own ++ (D, listOf ys.toArray k) :: ex') ∧ (∀ p ∈ ex', (∃ o, (p.1, o) ∈ ex) ∨ h.get? p.1 = none ∨ ∀ q ∈ own ++ (D, listOf ys.toArray k) :: ex, q.1 ≠ p.1) ∧ J (i + 1) (ys ++ [y]) ex')
        E' ⟨h, g, d, tk, os⟩)
    (done : ∀ D ys ex h' tk' k, J n ys ex → ys.length = n → (∀ p ∈ ex ++ news, p.1 ≠ D) → Fr h₀ env.locals h' (fun z => if z = y then some (.ref D) else m z) → News h₀ env.locals h' ((D, listOf ys.toArray k) :: (ex ++ news)) → Q .none ⟨h', g, d, tk', os⟩) :
    wpAny (model prog w) A (pyIter (.ref r)) (CompRestR prog w A E elt iter x px scope cl pos env (compPost (model prog w) A E (some (assign (.Name y py) env)) Q)) E ⟨h, g, d, tk, os⟩ := by
  refine compRR (RR := compPost (model prog w) A E (some (assign (.Name y py) env)) Q) hkind hcell hx hh hr hb hz hn F N J hj turn fun C D ys ex h' tk' k m' hJ hl hne hCL hC hap hns F' N' => ?_
  show wpAny _ A (assign (.Name y py) env (.ref D)) _ _ _
  refine wpAny_assign_Name (wpAny_storeName_local (s := ⟨h', g, d, tk', os⟩) hy F'.ns (fun h₂ hn₂ hs₂ => ⟨m', hns.sameBut hs₂ hCL, fun h₃ hs₃ => ?_⟩) hp)
  exact done D ys ex h₃ _ k hJ hl hne (Fr.sameAt (F'.set hn₂ hs₂) hs₃ hCL hC) (News.sameAt (N'.set hs₂) hs₃ hap)
end
end
end Mine
end
section
open PySem PySem.W PyProof.Rows PySem.Calls
set_option maxRecDepth 100000
namespace Mine
noncomputable section
def evC (i : Nat) (L f : Addr) (cd : Value) : Env := envOfC (nmAt i) (scAt i) L f cd
section
variable {prog : Program} {w : World} {A : Around} {E : Value → Shared → Prop} {s : Shared} {h₀ : Heap} {L : Addr} {m : Str → Option Value} {news : List (Addr × Obj)}
/-- entering a def with cells: what the tokens do is told too -/
theorem call_cellsT {R : Result → Shared → Prop} {name : Str} {params : Arguments} {body : List Stmt} {scope : Scope}
    {pm cd doc : Value} {a : Addr} {o : Obj} {args : List Value} {binds : List (Str × Value)}
    (hroom : A.depth < recursionLimit) (ho : s.heap.get? a = some o) (hdata : o.data = .func (docDef name params body scope pm cd doc)) (hlim : s.heap.NoLimit) (hcd : s.heap.CodeRec cd name)
    (hbind : bindArgs (docDef name params body scope pm cd doc) ⟨args, []⟩ = pure binds)
    (hkind : ∀ x ∈ binds, scope.names.lookup x.1 = some .local ∨ (scope.names.lookup x.1 = some .cell ∧ ((cellsFrom (s.heap.objs.size + 1) scope.names []).lookup x.1).isSome = true))
    (hnd : ((cellsFrom 0 scope.names []).map (·.1)).Nodup)
    (h : ∀ h₁ tk cells, s.toks ≤ tk → Fr s.heap s.heap.objs.size h₁ (bindL (envOfC name scope s.heap.objs.size a cd).kindOf binds fun _ => none) → News s.heap s.heap.objs.size h₁ cells →
      CellsAre (bindC (envOfC name scope s.heap.objs.size a cd).kindOf binds fun _ => none) (cellsFrom (s.heap.objs.size + 1) scope.names []) cells →
      wpAny (model prog w) (A.deeper (envOfC name scope s.heap.objs.size a cd)) (execs body (envOfC name scope s.heap.objs.size a cd))
        (fun f s' => R (.ok (.ret (match f with | .ret v => v | _ => .none))) s') (fun _ _ => False) { s with heap := h₁, toks := tk })
    (hco : scope.isCoroutine = false) (hgen : scope.isGenerator = false) (hk : scope.kind = .function) :
    codeAny (model prog w) A (.call (.ref a) ⟨args, []⟩) R s := by
  refine codeAny_call_function (fd := docDef name params body scope pm cd doc) hroom ho hdata hco hgen rfl hcd ?_
  rw [hbind]
  refine wpAny_pure (wpAny_with_toks (n := s.toks) (Nat.le_refl _) (wpAny_newFunctionEnv_cells hk hkind fun env he s' x hT => ?_))
  subst he
  refine ⟨hlim.keeps x.toInCall.keep, codeAny_func ?_⟩
  obtain ⟨h₁, tk, rfl, _⟩ := x.done
  obtain ⟨cells, N, Y⟩ := Cl.news (h₀ := s.heap) (Nat.le_refl _) fun n c hm => ⟨x.cell n c (lookup_of_mem_nodup (cellsFrom_names scope.names 0 (s.heap.objs.size + 1) [] [] rfl ▸ hnd) hm), x.above n c hm⟩
  exact wpAny_mono (h h₁ tk cells hT ⟨x.toInCall.ns, x.toInCall.keep, x.toInCall.fresh⟩ N Y) (fun _ _ x => x) fun _ _ x => x.elim
theorem enterCells {Q : Value → Shared → Prop} {name : Str} {params : Arguments} {body : List Stmt} {scope : Scope} {doc pm cd : Value} {f : Addr} {o : Obj} {args : List Value} {binds : List (Str × Value)}
    (F : Fr h₀ L s.heap m) (N : News h₀ L s.heap news) (hlim : h₀.NoLimit)
    (ho : h₀.get? f = some o) (hd : o.data = .func (docDef name params body scope pm cd doc)) (hcd : h₀.CodeRec cd name) (hroom : A.depth < recursionLimit)
    (hbind : bindArgs (docDef name params body scope pm cd doc) ⟨args, []⟩ = pure binds)
    (hkind : ∀ x ∈ binds, scope.names.lookup x.1 = some .local ∨ (scope.names.lookup x.1 = some .cell ∧ ((cellsFrom (s.heap.objs.size + 1) scope.names []).lookup x.1).isSome = true))
    (hnd : ((cellsFrom 0 scope.names []).map (·.1)).Nodup)
    (h : ∀ g L' h₁ tk' cells, (∀ b o, s.heap.get? b = some o → h₁.get? b = some o) → s.toks ≤ tk' → h₀.StaysIn g → Fr g L' h₁ (bindL (envOfC name scope L' f cd).kindOf binds fun _ => none) → News g L' h₁ (cells ++ news) → (∀ p ∈ news, ∀ q ∈ cells, p.1 ≠ q.1) →
      CellsAre (bindC (envOfC name scope L' f cd).kindOf binds fun _ => none) (cellsFrom (L' + 1) scope.names []) cells →
      wpAny (model prog w) (A.deeper (envOfC name scope L' f cd)) (execs body (envOfC name scope L' f cd))
        (fun fl s' => Back h₀ L m g Q (match fl with | .ret v => v | _ => .none) s') (fun _ _ => False)
        { s with heap := h₁, toks := tk' })
    (hco : scope.isCoroutine = false) (hgen : scope.isGenerator = false) (hk : scope.kind = .function) : wpAny (model prog w) A (call (.ref f) args) Q E s := by
  refine wpAny_call (call_cellsT hroom (F.keep _ _ ho) hd (hlim.keeps F.keep) (hcd.keeps F.keep) hbind hkind hnd (fun h₁ tk' cells hT F1 N1 X => ?_) hco hgen hk)
  have nm : ∀ b o, h₀.get? b = some o → b ∉ news.map (·.1) := fun b o e q => by
    obtain ⟨p, hp, rfl⟩ := List.mem_map.mp q
    rw [(N p hp).2.2] at e; cases e
  have st : h₀.StaysIn (hideAll s.heap (news.map (·.1))) := fun b o e => hideAll_get _ (F.keep b o e) (nm b o e)
  obtain ⟨oL, es, ep, hL, hLd, hLk, hLf⟩ := F.ns
  have nL : L ∉ news.map (·.1) := fun q => by
    obtain ⟨p, hp, e⟩ := List.mem_map.mp q
    exact (N p hp).2.1 e
  have hLg := hideAll_get (news.map (·.1)) hL nL
  have apart : ∀ p ∈ news, ∀ q ∈ cells, p.1 ≠ q.1 := fun p hp q hq e => by
    have := (N1 q hq).2.2
    rw [← e, (N p hp).1] at this; cases this
  refine wpAny_mono (h _ s.heap.objs.size h₁ tk' cells F1.keep hT st ⟨F1.ns, fun b o e => F1.keep b o (of_hideAll _ e), Nat.le_of_eq (hideAll_size _ _)⟩
    (fun p hp => ?_) apart X) (fun fl s' hl => ?_) fun _ _ y => y.elim
  · rcases List.mem_append.mp hp with hp | hp
    · refine ⟨(N1 p hp).1, (N1 p hp).2.1, ?_⟩
      cases e : (hideAll s.heap (news.map (·.1))).get? p.1 with
      | none => rfl
      | some o => have := of_hideAll _ e; rw [(N1 p hp).2.2] at this; cases this
    · exact ⟨F1.keep _ _ (N p hp).1, Nat.ne_of_lt (Heap.lt_size (N p hp).1), hideAll_none _ (List.mem_map_of_mem hp)⟩
  obtain ⟨L', m', news', F', N', k⟩ := hl
  refine k ⟨⟨oL, es, ep, F'.keep L oL hLg, hLd, hLk, hLf⟩, fun b o e => F'.keep b o (st b o e), F.above⟩ fun p hp => ⟨(N' p hp).1, fun q => ?_, ?_⟩
  · have := (N' p hp).2.2; rw [q, hLg] at this; cases this
  · cases q : h₀.get? p.1 with
    | none => rfl
    | some o => have := (N' p hp).2.2; rw [st _ _ q] at this; cases this
end
end
end Mine
end
section
open PySem PySem.W PyProof.Rows PySem.Calls
set_option maxRecDepth 100000
namespace Mine
noncomputable section
section
variable {w : World} {mg mb : Str → Option Value} {A : Around} {E : Value → Shared → Prop} {h₀ h : Heap} {L : Addr} {m : Str → Option Value} {news rest : List (Addr × Obj)} {g : Array GenState} {d : Drawn} {tk : Nat} {os : OsState} {env : Env}
theorem ldE {M : Model} {x : Str} {pos : Pos} {v : Value} {Q : Value → Shared → Prop} (F : Fr h₀ L h m) (hv : m x = some v) (q : Q v ⟨h, g, d, tk, os⟩)
    (hL : env.locals = L) (hk : env.scope.kind = .function) (hl : env.kindOf x = some .local) (hd : (x == ("__debug__" : Str)) = false) :
    wpAny M A (eval (.Name x pos) env) Q E ⟨h, g, d, tk, os⟩ := by
  subst hL
  exact wpAny_Name (wpAny_loadName_local (s := ⟨h, g, d, tk, os⟩) hk hl F.ns hv q) hd
theorem cellE {M : Model} {x : Str} {pos : Pos} {c : Addr} {v : Value} {Q : Value → Shared → Prop} (hv : h.IsCell c (some v)) (q : Q v ⟨h, g, d, tk, os⟩)
    (hc : env.cells.lookup x = some c) (hk : env.scope.kind = .function) (hl : env.kindOf x = some .cell) (hd : (x == ("__debug__" : Str)) = false) :
    wpAny M A (eval (.Name x pos) env) Q E ⟨h, g, d, tk, os⟩ := wpAny_Name (wpAny_loadName_cell (s := ⟨h, g, d, tk, os⟩) hk hl hc hv q) hd
theorem stE {M : Model} {x : Str} {v : Value} {Q : Unit → Shared → Prop} (F : Fr h₀ L h m) (N : News h₀ L h news)
    (q : ∀ h', Fr h₀ L h' (fun y => if y = x then some v else m y) → News h₀ L h' news → Q () ⟨h', g, d, tk + 1, os⟩)
    (hL : env.locals = L) (hk : env.scope.kind = .function) (hl : env.kindOf x = some .local) :
    wpAny M A (storeName env x v) Q E ⟨h, g, d, tk, os⟩ := by
  subst hL
  exact wpAny_storeName_local (s := ⟨h, g, d, tk, os⟩) hl F.ns (fun h' hn hs => q h' (F.set hn hs) (N.set hs)) (by rw [hk]; rfl)
theorem globE {M : Model} {x : Str} {pos : Pos} {v : Value} {Q : Value → Shared → Prop} (G : Gd w mg mb h₀) (F : Fr h₀ L h m) (hv : mg x = some v) (q : Q v ⟨h, g, d, tk, os⟩)
    (hg : env.globals = mainGlobals) (hk : env.scope.kind = .function) (hx : env.kindOf x = some .globalImplicit) (hd : (x == ("__debug__" : Str)) = false) :
    wpAny M A (eval (.Name x pos) env) Q E ⟨h, g, d, tk, os⟩ :=
  Calls.Name_function_global (s := ⟨h, g, d, tk, os⟩) hk hx (Calls.loadGlobal_global (env := env) (by rw [hg]; exact G.g.keeps F.keep) hv q) hd
theorem bltE {M : Model} {x : Str} {pos : Pos} {v : Value} {Q : Value → Shared → Prop} (G : Gd w mg mb h₀) (F : Fr h₀ L h m) (hx0 : x ∈ (["hasattr", "type", "range", "len", "enumerate"] : List Str)) (hne : x ≠ "__name__") (hv : bootBuiltins x = some v) (q : Q v ⟨h, g, d, tk, os⟩)
    (hg : env.globals = mainGlobals) (hb : env.builtins = builtinsNs) (hk : env.scope.kind = .function) (hx : env.kindOf x = some .globalImplicit) (hd : (x == ("__debug__" : Str)) = false) :
    wpAny M A (eval (.Name x pos) env) Q E ⟨h, g, d, tk, os⟩ :=
  Calls.Name_function_global (s := ⟨h, g, d, tk, os⟩) hk hx (Calls.loadGlobal_builtin (env := env) (by rw [hg]; exact G.g.keeps F.keep) (G.free x hx0) (by rw [hb]; exact G.b.keeps F.keep) ((G.bt x hne).trans hv) q) hd
theorem callE {x : Str} {p pos : Pos} {e : Expr} {rest : List Expr} {f : Addr} {Q : Value → Shared → Prop} (i : Nat) (G : Gd w mg mb h₀) (hf : mg x = some (.ref f)) (F : Fr h₀ L h m)
    (q : wpAny (model p0 w) A (spliced (backTo pos (starEach (e :: rest) env))) (fun vs s₁ => (∀ b o, h₀.get? b = some o → s₁.heap.get? b = some o) ∧ wpAny (model p0 w) A (call (.ref f) vs) Q E s₁) E ⟨h, g, d, tk, os⟩)
    (hx : x = nmAt i) (hi : i ∈ defIds) (e0 : fnAt i = some (nmAt i, paAt i, bdAt i, scAt i))
    (he : starEach (e :: rest) env = (false, eval e env) :: starEach rest env)
    (hg : env.globals = mainGlobals) (hk : env.scope.kind = .function) (hl : env.kindOf x = some .globalImplicit) (hd : (x == ("__debug__" : Str)) = false) :
    wpAny (model p0 w) A (eval (.Call (.Name x p) (e :: rest) [] pos) env) Q E ⟨h, g, d, tk, os⟩ := by
  subst hx
  obtain ⟨f', o, pm, cd', doc, h1, h2, h3, h4⟩ := G.fn i hi _ _ _ _ e0
  obtain rfl : f = f' := Value.ref.inj (Option.some.inj (hf.symm.trans h1))
  refine Call_ (globE G F hf ?_ hg hk hl hd)
  exact callWith_def h3 (wpAny_mono q (fun vs s₁ q => ⟨q.1 _ _ h2, q.2⟩) fun _ _ x => x) he
/-- entering one of the text's defs that has cells -/
theorem enterC' {Q : Value → Shared → Prop} {f : Addr} {args : List Value} (i : Nat) (k : Nat) (binds : List (Str × Value)) (G : Gd w mg mb h₀) (hf : mg (nmAt i) = some (.ref f)) (r : Rm (k + 1) A) (F : Fr h₀ L h m) (N : News h₀ L h news)
    (q : ∀ A' g' L' h₁ tk' cd cells, (∀ b o, h.get? b = some o → h₁.get? b = some o) → tk ≤ tk' → Rm k A' → Gd w mg mb g' → Fr g' L' h₁ (bindL (evC i L' f cd).kindOf binds fun _ => none) → News g' L' h₁ (cells ++ news) → (∀ p ∈ news, ∀ q ∈ cells, p.1 ≠ q.1) →
      CellsAre (bindC (evC i L' f cd).kindOf binds fun _ => none) (cellsFrom (L' + 1) (scAt i).names []) cells →
      wpAny (model p0 w) A' (execs (bdAt i) (evC i L' f cd)) (fun fl s' => Back h₀ L m g' Q (match fl with | .ret v => v | _ => .none) s') (fun _ _ => False) ⟨h₁, g, d, tk', os⟩)
    (hbind : ∀ pm cd doc, bindArgs (docDef (nmAt i) (paAt i) (bdAt i) (scAt i) pm cd doc) ⟨args, []⟩ = pure binds)
    (hkind : ∀ n, ∀ x ∈ binds, (scAt i).names.lookup x.1 = some .local ∨ ((scAt i).names.lookup x.1 = some .cell ∧ ((cellsFrom (n + 1) (scAt i).names []).lookup x.1).isSome = true))
    (hnd : ((cellsFrom 0 (scAt i).names []).map (·.1)).Nodup)
    (hi : i ∈ defIds) (e : fnAt i = some (nmAt i, paAt i, bdAt i, scAt i))
    (hco : (scAt i).isCoroutine = false) (hgen : (scAt i).isGenerator = false) (hk : (scAt i).kind = .function) :
    wpAny (model p0 w) A (call (.ref f) args) Q E ⟨h, g, d, tk, os⟩ := by
  obtain ⟨f', o, pm, cd, doc, h1, h2, h3, h4⟩ := G.fn i hi _ _ _ _ e
  obtain rfl : f = f' := Value.ref.inj (Option.some.inj (hf.symm.trans h1))
  refine enterCells (s := ⟨h, g, d, tk, os⟩) F N G.lim h2 h3 h4 (by have := r.d; show A.depth < 1000; omega) (hbind pm cd doc) (hkind _) hnd (fun g' L' h₁ tk' cells up hT st FG F' ap X => ?_) hco hgen hk
  exact q _ g' L' h₁ tk' cd cells up hT ⟨r.hh, by have := r.d; show A.depth + 1 + k ≤ 900; omega, by have := r.u; show A.units + 3 + 10 * k ≤ 9000; omega⟩ (G.keeps st) FG F' ap X
end
end
end Mine
end
section
open PySem PySem.W PyProof.Rows PySem.Calls
set_option maxRecDepth 100000
namespace Mine
noncomputable section
def planRow (low way size i : Nat) : List Nat := List.replicate (low + size - 1 - i) 46 ++ signAt (way + i)
def planHead (size way : Nat) : List (List Nat) := if way % 2 = 0 then [[126, 46]] else [List.replicate size 46, []]
def planL (low size way : Nat) : List (List Nat) := planHead size way ++ (List.range size).map (planRow low way size)
/-- values that are these strings -/
inductive Strs : List Value → List (List Nat) → Prop
  | nil : Strs [] []
  | cons {r : List Nat} {t : Tok} {vs : List Value} {rs : List (List Nat)} : Strs vs rs → Strs (.str (S r) t :: vs) (r :: rs)
theorem Strs.append : ∀ {vs ws : List Value} {rs qs : List (List Nat)}, Strs vs rs → Strs ws qs → Strs (vs ++ ws) (rs ++ qs)
  | _, _, _, _, .nil, h => h
  | _, _, _, _, .cons a, h => .cons (a.append h)
theorem Strs.length : ∀ {vs : List Value} {rs : List (List Nat)}, Strs vs rs → vs.length = rs.length
  | _, _, .nil => rfl
  | _, _, .cons a => by simp [a.length]
theorem Strs.get : ∀ {vs : List Value} {rs : List (List Nat)}, Strs vs rs → ∀ {i : Nat} {v : Value}, vs[i]? = some v → ∃ r t, rs[i]? = some r ∧ v = .str (S r) t
  | _, _, .nil, _, _, e => by simp at e
  | _, _, .cons (r := r) (t := t) a, 0, v, e => ⟨r, t, rfl, by simpa using e.symm⟩
  | _, _, .cons a, i + 1, v, e => a.get (i := i) (by simpa using e)
section
variable {w : World} {mg mb : Str → Option Value} {A : Around} {E : Value → Shared → Prop} {h₀ h : Heap} {L : Addr} {m : Str → Option Value} {news : List (Addr × Obj)} {g : Array GenState} {d : Drawn} {tk : Nat} {os : OsState}
theorem addL' {prog : Program} {l b : Addr} {vs ws : List Value} {Q : Value → Shared → Prop} (F : Fr h₀ L h m) (N : News h₀ L h news) (hl : h.IsList l vs.toArray) (hb : h.IsList b ws.toArray) (hz : vs.length + ws.length ≤ 1000000)
    (q : ∀ r h', (∀ p ∈ news, p.1 ≠ r) → Fr h₀ L h' m → News h₀ L h' ((r, listOf (vs ++ ws).toArray 0) :: news) → Q (.ref r) ⟨h', g, d, tk, os⟩) :
    wpAny (model prog w) A (binaryOp .Add (.ref l) (.ref b)) Q E ⟨h, g, d, tk, os⟩ :=
  add_lists (s := ⟨h, g, d, tk, os⟩) F N hl hb (fun h' F' N' => q _ h' (fun p hp => Nat.ne_of_lt (Heap.lt_size (N p hp).1)) F' N') (Nat.le_trans hz (by decide))
theorem c_plan {Q : Value → Shared → Prop} {f : Addr} {low size way : Nat} {t u v : Tok} (G : Gd w mg mb h₀) (hf : mg "_law_plan" = some (.ref f)) (rm : Rm 2 A) (F : Fr h₀ L h m) (N : News h₀ L h news)
    (hl : low ≤ 4) (hl1 : 1 ≤ low) (hs : size ≤ 4) (hw : way ≤ 1000000000)
    (k : ∀ l vs n h' tk', Strs vs (planL low size way) → (∀ p ∈ news, p.1 ≠ l) → Fr h₀ L h' m → News h₀ L h' ((l, listOf vs.toArray n) :: news) → Q (.ref l) ⟨h', g, d, tk', os⟩) : wpAny (model p0 w) A (call (.ref f) [.int low t, .int size u, .int way v]) Q E ⟨h, g, d, tk, os⟩ := by
  refine enterC' 68 1 [("low", .int low t), ("size", .int size u), ("way", .int way v)] G hf rm F N (fun A' g' L' h₁ tk1 cd cells up _ r' G' F' N' ap X => ?_) (by intros; rfl) (fun n x hx => ?_) (by decide +kernel) (by decide) (by rfl) (by rfl) (by rfl) (by rfl)
  · clear F N
    obtain ⟨o1, o2, o3, rfl, d1, d2, d3⟩ := CellsAre.three X
    have hc1 : (evC 68 L' f cd).cells.lookup (Str.ofString "low") = some (L' + 1) := by rfl
    have hc2 : (evC 68 L' f cd).cells.lookup (Str.ofString "size") = some (L' + 1 + 1) := by rfl
    have hc3 : (evC 68 L' f cd).cells.lookup (Str.ofString "way") = some (L' + 1 + 1 + 1) := by rfl
    have d1' : o1.data = .cell (some (.int way v)) := d1
    have d2' : o2.data = .cell (some (.int size u)) := d2
    have d3' : o3.data = .cell (some (.int low t)) := d3
    clear X d1 d2 d3 up
    refine wpAny_execs_cons (wpAny_Assign_Name (IfExp_ ?_))
    refine wpAny_isTrue_Compare1 (wpAny_BinOp (cellE ⟨o1, (N' _ (.head _)).1, d1'⟩ ?_ hc3 (by rfl) (by rfl) (by decide))) (by rfl)
    refine cInt' (mod' (b := 2) rfl (by decide) (cInt' (eq_int (wpAny_truthy_bool ?_))))
    refine ite_post (fun y s' => ∃ l vs h2 tk2, y = .ref l ∧ s' = ⟨h2, g, d, tk2, os⟩ ∧ Strs vs (planHead size way) ∧ Fr g' L' h2 (bindL (evC 68 L' f cd).kindOf [("low", .int low t), ("size", .int size u), ("way", .int way v)] fun _ => none) ∧
      News g' L' h2 ((l, listOf vs.toArray 0) :: ([(L' + 1 + 1 + 1, o1), (L' + 1 + 1, o2), (L' + 1, o3)] ++ news))) (fun hc => ?_) (fun hc => ?_) ?_
    · have hw2 : way % 2 = 0 := by have := beq_iff_eq.mp hc; omega
      refine List_ (spliced_more (cStr' (spliced_none ?_)))
      refine newList' F' N' (fun l h2 hl2 F2 N2 => ⟨l, _, h2, _, rfl, rfl, ?_, F2, N2⟩) (by exact Nat.le_of_ble_eq_true rfl)
      unfold planHead
      rw [if_pos hw2, show Str.ofString "~." = S [126, 46] by decide +kernel]
      exact .cons .nil
    · have hw2 : ¬ way % 2 = 0 := by intro e; rw [e] at hc; exact hc rfl
      refine List_ (spliced_more (wpAny_BinOp (cStr' (cellE ⟨o2, (N' _ (.tail _ (.head _))).1, d2'⟩ ?_ hc2 (by rfl) (by rfl) (by decide)))))
      refine mulS' (c := 46) (n := size) (by decide +kernel) rfl (by omega) fun t2 tk2 => spliced_more (cStr' (spliced_none ?_))
      refine newList' F' N' (fun l h2 hl2 F2 N2 => ⟨l, _, h2, _, rfl, rfl, ?_, F2, N2⟩) (by exact Nat.le_of_ble_eq_true rfl)
      unfold planHead
      rw [if_neg hw2, show Str.ofString "" = S [] by decide +kernel]
      exact .cons (.cons .nil)
    clear F' N'
    rintro _ _ ⟨l, vs, h2, tk2, rfl, rfl, hvs, F2, N2⟩
    refine stE F2 N2 (fun h3 F3 N3 => ?_) (by rfl) (by rfl) (by rfl)
    refine wpAny_execs_cons (wpAny_Return_some (wpAny_BinOp (ldE F3 (by rfl) ?_ (by rfl) (by rfl) (by rfl) (by decide))))
    refine comp_eval (cl := [("way", L' + 1 + 1 + 1), ("size", L' + 1 + 1), ("low", L' + 1)]) ?hclos ?_ (by intro _; rfl) (by rfl) ?hnames
    case hclos => rfl
    case hnames => decide
    have i1 := (N3 _ (.tail _ (.head _))).1
    have i2 := (N3 _ (.tail _ (.tail _ (.head _)))).1
    have i3 := (N3 _ (.tail _ (.tail _ (.tail _ (.head _))))).1
    refine Call_ (bltE G' F3 (by simp) (by decide) boot_range ?_ (by rfl) (by rfl) (by rfl) (by rfl) (by decide))
    refine callWith_type1 ?_ (by rfl) (by rfl)
    refine spliced_more (cellE ⟨o1, i1, d1'⟩ ?_ hc3 (by rfl) (by rfl) (by decide))
    refine spliced_more (wpAny_BinOp (cellE ⟨o1, i1, d1'⟩ ?_ hc3 (by rfl) (by rfl) (by decide)))
    refine cellE ⟨o2, i2, d2'⟩ ?_ hc2 (by rfl) (by rfl) (by decide)
    refine add' (c := ((way + size : Nat) : Int)) (by omega) (spliced_none ?_)
    refine callRange' F3 N3 fun r h5 tk5 t5 u5 v5 hr5 F5 N5 => ?_
    have j1 := (N5 _ (.tail _ (.head _))).1
    have j2 := (N5 _ (.tail _ (.tail _ (.head _)))).1
    have j3 := (N5 _ (.tail _ (.tail _ (.tail _ (.head _))))).1
    refine compR (n := size) (by rfl) (by decide) (by rfl) r'.hh hr5 rfl (by omega) (by omega) F5 N5 (fun i ys ex => ex = [] ∧ Strs ys ((List.range i).map (planRow low way size))) ⟨rfl, .nil⟩ (fun C g₁ D up E' i ti ys ex h tk m₁ own k hi hJ hlen F6 N6 => ?_) (fun D ys ex h' tk' k' hJ hlen hne F6 N6 => ?_)
    · obtain ⟨rfl, hys⟩ := hJ
      have k1 := F6.keep _ _ (up _ _ j1)
      have k2 := F6.keep _ _ (up _ _ j2)
      have k3 := F6.keep _ _ (up _ _ j3)
      refine wpAny_BinOp (wpAny_BinOp (cStr' (wpAny_BinOp (wpAny_BinOp (wpAny_BinOp (wpAny_BinOp (cellE ⟨o3, k3, d3'⟩ ?_ (by rfl) (by rfl) (by rfl) (by decide))))))))
      refine cellE ⟨o1, k1, d1'⟩ ?_ (by rfl) (by rfl) (by rfl) (by decide)
      refine add' (c := ((low + way : Nat) : Int)) (by omega) (cellE ⟨o2, k2, d2'⟩ ?_ (by rfl) (by rfl) (by rfl) (by decide))
      refine add' (c := ((low + way + size : Nat) : Int)) (by omega) (cInt' (sub' (c := ((low + way + size - 1 : Nat) : Int)) (by omega) (ldE F6 (by rfl) ?_ (by rfl) (by rfl) (by rfl) (by decide))))
      refine sub' (c := ((low + size - 1 - i : Nat) : Int)) (by omega) ?_
      refine mulS' (c := 46) (by decide +kernel) rfl (by omega) fun t8 tk8 => ?_
      refine Subscript_ (List_ (spliced_more (cStr' (spliced_more (cStr' (spliced_more (cStr' (spliced_more (cStr' (spliced_none ?_))))))))))
      refine newList' F6 N6 (fun b h9 hb F9 N9 => ?_) (by exact Nat.le_of_ble_eq_true rfl)
      refine wpAny_BinOp (ldE F9 (by rfl) ?_ (by rfl) (by rfl) (by rfl) (by decide))
      refine cInt' (mod' (b := 4) rfl (by decide) ?_)
      obtain ⟨t9, ht9⟩ := signs_at (t0 := tk8) (t1 := tk8 + 1) (t2 := tk8 + 1 + 1) (t3 := tk8 + 1 + 1 + 1) (way + i)
      refine item' (News.list N9 (.head _)) (Nat.lt_of_lt_of_le (Nat.mod_lt (way + i) (by decide)) (by decide)) ht9 ?_ (by with_unfolding_all rfl)
      refine addS' rfl rfl rfl (by have := signAt_len (way + i); rw [List.length_append, List.length_replicate]; omega) fun t10 tk10 => ?_
      refine ⟨h9, _, _, [], rfl, F9, News.sub N9 fun p hp => .tail _ hp, fun p hp => absurd hp List.not_mem_nil, rfl, ?_⟩
      rw [List.range_succ, List.map_append]
      exact hys.append (.cons .nil)
    · obtain ⟨rfl, hys⟩ := hJ
      have hlen2 := hvs.length
      have hh2 : (planHead size way).length ≤ 2 := by unfold planHead; split <;> simp
      refine addL' F6 N6 (News.list N6 (.tail _ (.head _))) (News.list N6 (.head _)) (by omega) fun z h10 hz F10 N10 => ?_
      refine ⟨_, _, (z, listOf (vs ++ ys).toArray 0) :: news, F10, News.sub N10 fun p hp => ?_, fun F N => k z (vs ++ ys) 0 h10 _ (hvs.append hys) (fun p hp => ?_) F N⟩
      · rcases List.mem_cons.mp hp with h | h
        · exact .inl h |> fun q => List.mem_cons.mpr q
        · exact .tail _ (.tail _ (.tail _ (.tail _ (.tail _ (.tail _ h)))))
      · exact hz p (.tail _ (.tail _ (.tail _ (.tail _ (.tail _ hp)))))
  · simp only [List.mem_cons, List.not_mem_nil, or_false] at hx
    rcases hx with rfl | rfl | rfl
    · exact .inr ⟨by rfl, by rfl⟩
    · exact .inr ⟨by rfl, by rfl⟩
    · exact .inr ⟨by rfl, by rfl⟩
end
end
end Mine
end
section
open PySem PySem.W PyProof.Rows PySem.Calls
set_option maxRecDepth 100000
namespace Mine
noncomputable section
/-- values that are these numbers -/
inductive Ints : List Value → List Int → Prop
  | nil : Ints [] []
  | cons {i : Int} {t : Tok} {vs : List Value} {is : List Int} : Ints vs is → Ints (.int i t :: vs) (i :: is)
theorem Ints.append : ∀ {vs ws : List Value} {rs qs : List Int}, Ints vs rs → Ints ws qs → Ints (vs ++ ws) (rs ++ qs)
  | _, _, _, _, .nil, h => h
  | _, _, _, _, .cons a, h => .cons (a.append h)
theorem Ints.length : ∀ {vs : List Value} {rs : List Int}, Ints vs rs → vs.length = rs.length
  | _, _, .nil => rfl
  | _, _, .cons a => by simp [a.length]
theorem Ints.get : ∀ {vs : List Value} {rs : List Int}, Ints vs rs → ∀ {i : Nat}, i < rs.length → ∃ t, vs[i]? = some (.int (rs.getD i 0) t)
  | _, _, .nil, _, e => by simp at e
  | _, _, .cons (t := t) a, 0, _ => ⟨t, rfl⟩
  | _, _, .cons a, i + 1, e => by
    obtain ⟨t, h⟩ := a.get (i := i) (by simpa using e)
    exact ⟨t, by simpa using h⟩
theorem Ints.set : ∀ {vs : List Value} {rs : List Int}, Ints vs rs → ∀ (i : Nat) (x : Int) (t : Tok), Ints (vs.set i (.int x t)) (rs.set i x)
  | _, _, .nil, _, _, _ => .nil
  | _, _, .cons a, 0, x, t => .cons a
  | _, _, .cons a, i + 1, x, t => .cons (a.set i x t)
def addOf (most : Nat) (x : Int) : Int := if most > 0 then x % most else x
/-- the numbers of the script, added in turn -/
def cellsL (script : List Int) (most : Nat) (cells : List Int) : Nat → List Int
  | 0 => cells
  | k + 1 => (cellsL script most cells k).set (k % cells.length) ((cellsL script most cells k).getD (k % cells.length) 0 + addOf most (script.getD k 0))
theorem cellsL_len (script : List Int) (most : Nat) (cells : List Int) : ∀ k, (cellsL script most cells k).length = cells.length
  | 0 => rfl
  | k + 1 => by simp [cellsL, cellsL_len script most cells k]
section
variable {w : World} {mg mb : Str → Option Value} {A : Around} {E : Value → Shared → Prop} {h₀ h : Heap} {L : Addr} {m : Str → Option Value} {news rest : List (Addr × Obj)} {g : Array GenState} {d : Drawn} {tk : Nat} {os : OsState}
theorem len' {prog : Program} {l : Addr} {vs : List Value} {Q : Value → Shared → Prop} (hl : h.IsList l vs.toArray) (hz : vs.length ≤ 1000000) (q : ∀ t tk', Q (.int (vs.length : Nat) t) ⟨h, g, d, tk', os⟩) : wpAny (model prog w) A (call (.builtin "len") [.ref l]) Q E ⟨h, g, d, tk, os⟩ := by
  refine call_len_list (s := ⟨h, g, d, tk, os⟩) hl (by simp; omega) ?_
  have : (vs.toArray.size : Int) = (vs.length : Nat) := by simp
  rw [this]
  exact q _ _
theorem getItem' {prog : Program} {l : Addr} {vs : List Value} {j : Nat} {t : Tok} {v : Value} {Q : Value → Shared → Prop} (hl : h.IsList l vs.toArray) (hj : j < 1000000) (hx : vs[j]? = some v) (q : Q v ⟨h, g, d, tk, os⟩) : wpAny (model prog w) A (getItem (.ref l) (.int (j : Nat) t)) Q E ⟨h, g, d, tk, os⟩ :=
  wpAny_getItem_list (s := ⟨h, g, d, tk, os⟩) hl (Int.natCast_nonneg _) (by omega) (by simpa using hx) q
theorem enterS' {Q : Value → Shared → Prop} {f : Addr} {args : List Value} (i : Nat) (k : Nat) (binds : List (Str × Value)) (G : Gd w mg mb h₀) (hf : mg (nmAt i) = some (.ref f)) (r : Rm (k + 1) A) (F : Fr h₀ L h m) (N : News h₀ L h news)
    (q : ∀ A' g' L' h₁ tk' cd, (∀ b o, h.get? b = some o → h₁.get? b = some o) → (∀ b o, h₀.get? b = some o → g'.get? b = some o) → Rm k A' → Gd w mg mb g' → Fr g' L' h₁ (mp binds.reverse) → News g' L' h₁ news →
      wpAny (model p0 w) A' (execs (bdAt i) (ev i L' f cd)) (fun fl s' => Back h₀ L m g' Q (match fl with | .ret v => v | _ => .none) s') (fun _ _ => False) ⟨h₁, g, d, tk', os⟩)
    (hbind : ∀ pm cd doc, bindArgs (docDef (nmAt i) (paAt i) (bdAt i) (scAt i) pm cd doc) ⟨args, []⟩ = pure binds := by intros; rfl)
    (hi : i ∈ defIds := by decide) (e : fnAt i = some (nmAt i, paAt i, bdAt i, scAt i) := by rfl) (hloc : (binds.all fun x => decide ((scAt i).names.lookup x.1 = some .local)) = true := by rfl)
    (hco : (scAt i).isCoroutine = false := by rfl) (hgen : (scAt i).isGenerator = false := by rfl) (hk : (scAt i).kind = .function := by rfl)
    (hcell : ∀ x ∈ (scAt i).names, x.2 ≠ .cell := by decide) :
    wpAny (model p0 w) A (call (.ref f) args) Q E ⟨h, g, d, tk, os⟩ := by
  obtain ⟨f', o, pm, cd, doc, h1, h2, h3, h4⟩ := G.fn i hi _ _ _ _ e
  obtain rfl : f = f' := Value.ref.inj (Option.some.inj (hf.symm.trans h1))
  refine enter (s := ⟨h, g, d, tk, os⟩) F N G.lim h2 h3 h4 (by have := r.d; show A.depth < 1000; omega) (hbind pm cd doc) (locs hloc) (fun g' L' h₁ up FG F' N' st => ?_) hco hgen hk hcell
  exact q _ g' L' h₁ _ cd up st ⟨r.hh, by have := r.d; show A.depth + 1 + k ≤ 900; omega, by have := r.u; show A.units + 3 + 10 * k ≤ 9000; omega⟩ (G.keeps st) F' N'
theorem range1' {prog : Program} {a : Int} {t : Tok} {Q : Value → Shared → Prop} (F : Fr h₀ L h m) (N : News h₀ L h news)
    (q : ∀ r h' tk' t₁ u₁ v₁, IsRange h' r 0 a 1 t₁ u₁ v₁ → Fr h₀ L h' m → News h₀ L h' news → Q (.ref r) ⟨h', g, d, tk', os⟩) :
    wpAny (model prog w) A (call (.type "range") [.int a t]) Q E ⟨h, g, d, tk, os⟩ := range1_rows (s := ⟨h, g, d, tk, os⟩) F N fun h' tk' t₁ u₁ v₁ i F' N' _ => q _ h' tk' t₁ u₁ v₁ i F' N'
theorem c_cells {Q : Value → Shared → Prop} {f sa l : Addr} {svs cvs : List Value} {sc cs : List Int} {most n : Nat} {t : Tok} (G : Gd w mg mb h₀) (hf : mg "_law_cells" = some (.ref f)) (rm : Rm 1 A) (F : Fr h₀ L h m) (N : News h₀ L h ((l, listOf cvs.toArray n) :: rest))
    (hd : ∀ p ∈ rest, p.1 ≠ l) (hs : h₀.IsList sa svs.toArray) (hsi : Ints svs sc) (hci : Ints cvs cs) (hc0 : 0 < cs.length) (hcz : cs.length ≤ 1000) (hz : sc.length ≤ 1000000) (hm : most ≤ 1000000000)
    (k : ∀ vs' n' h' tk', Ints vs' (cellsL sc most cs sc.length) → Fr h₀ L h' m → News h₀ L h' ((l, listOf vs'.toArray n') :: rest) → Q (.ref l) ⟨h', g, d, tk', os⟩) :
    wpAny (model p0 w) A (call (.ref f) [.ref sa, .ref l, .int (most : Nat) t]) Q E ⟨h, g, d, tk, os⟩ := by
  refine enterS' 74 0 [("script", .ref sa), ("cells", .ref l), ("most", .int (most : Nat) t)] G hf rm F N fun A' g' L' h₁ tk1 cd up st r' G' F' N' => ?_
  clear F N
  have hsl := hsi.length
  have hsg : g'.IsList sa svs.toArray := hs.at fun o e => st _ _ e
  refine wpAny_execs_cons (For_invV g' (by rfl) (by rfl) ?_ (by intro _; rfl) (by passes_own))
  refine Call_ (bltE G' F' (by simp) (by decide) boot_range ?_ (by rfl) (by rfl) (by rfl) (by rfl) (by decide))
  refine callWith_type1 ?_ (by rfl) (by rfl)
  refine spliced_more (Call_ (bltE G' F' (by simp) (by decide) boot_len ?_ (by rfl) (by rfl) (by rfl) (by rfl) (by decide)))
  refine callWith_builtin1 ?_ (by rfl) (by rfl)
  refine spliced_more (ld' F' (by rfl) (spliced_none ?_))
  refine len' (hsg.at fun o e => F'.keep _ _ e) (by omega) fun t2 tk2 => spliced_none ?_
  refine range1' F' N' fun r h3 tk3 t3 u3 v3 hr3 F3 N3 => ?_
  refine range' (a := 0) (n := svs.length) (b := svs.length) (fun i m' news' => (∃ vs n, news' = (l, listOf vs.toArray n) :: rest ∧ Ints vs (cellsL sc most cs i)) ∧ m' "script" = some (.ref sa) ∧ m' "cells" = some (.ref l) ∧ m' "most" = some (.int (most : Nat) t)) r'.hh hr3 (by omega) (by omega) F3 N3 ⟨⟨cvs, n, rfl, hci⟩, rfl, rfl, rfl⟩ ?turn ?done
  case done =>
    rintro m₁ news₁ h tk ⟨⟨vs, n', rfl, hv⟩, h1, h2, h3⟩ F6 N6
    refine wpAny_execs_cons (wpAny_Return_some (ld' F6 h2 ?_))
    rw [hsl] at hv
    exact ⟨_, _, _, F6, N6, fun F N => k vs n' _ _ hv F N⟩
  case turn =>
    rintro i ti m₁ news₁ h tk own hi ⟨⟨vs, n', rfl, hv⟩, h1, h2, h3⟩ hoff F6 N6
    have hvl : vs.length = cs.length := hv.length.trans (cellsL_len sc most cs i)
    have hi0 : i < sc.length := by omega
    have e0 : 0 + i = i := Nat.zero_add i
    have ll := News.list N6 (List.mem_append_right _ (.head _))
    have hsh : h.IsList sa svs.toArray := hsg.at fun o e => F6.keep _ _ e
    have hj : (0 + i) % cs.length < cs.length := Nat.mod_lt _ hc0
    refine wpAny_execs_cons (wpAny_AugAssign_Subscript_any ?_ (by intro _ _ _; rfl))
    refine ld' F6 (by exact h2) (wpAny_BinOp (ld' F6 (by rfl) ?_))
    refine Call_ (bltE G' F6 (by simp) (by decide) boot_len ?_ (by rfl) (by rfl) (by rfl) (by rfl) (by decide))
    refine callWith_builtin1 ?_ (by rfl) (by rfl)
    refine spliced_more (ld' F6 (by exact h2) (spliced_none ?_))
    refine len' ll (by omega) fun t4 tk4 => ?_
    refine mod' (b := cs.length) (by omega) (by omega) ?_
    obtain ⟨t5, ht5⟩ := hv.get (i := (0 + i) % cs.length) (by rw [cellsL_len]; exact hj)
    refine getItem' ll (by omega) ht5 ?_
    obtain ⟨t6, ht6⟩ := hsi.get (i := 0 + i) (by omega)
    have sub : ∀ (p1 p2 p3 : Pos) (tk : Nat) (Q : Value → Shared → Prop), Q (.int (sc.getD (0 + i) 0) t6) ⟨h, g, d, tk, os⟩ → wpAny (model p0 w) A' (eval (.Subscript (.Name "script" p1) (.Name "k" p2) p3) (ev 74 L' f cd)) Q (fun _ _ => False) ⟨h, g, d, tk, os⟩ := fun p1 p2 p3 tk Q q => by
      refine Subscript_ (ld' F6 (by exact h1) (ld' F6 (by rfl) ?_))
      exact item' hsh (by omega) ht6 q (by with_unfolding_all rfl)
    refine IfExp_ (wpAny_isTrue_Compare1 (ld' F6 (by exact h3) (cInt' (gt_int (wpAny_truthy_bool ?_)))) (by rfl))
    refine ite_post (fun y s' => ∃ t tk', y = .int (addOf most (sc.getD (0 + i) 0)) t ∧ s' = ⟨h, g, d, tk', os⟩) (fun hc => ?_) (fun hc => ?_) ?_
    · have hp : most > 0 := by have := of_decide_eq_true hc; omega
      refine wpAny_BinOp (sub _ _ _ _ _ (ld' F6 (by exact h3) ?_))
      refine mod_int' (s := ⟨h, g, d, _, os⟩) (by omega) ?_
      rw [Int.fmod_eq_emod_of_nonneg _ (by omega)]
      exact ⟨_, _, by unfold addOf; rw [if_pos hp], rfl⟩
    · have hp : ¬ most > 0 := fun q => hc (decide_eq_true (by omega))
      exact sub _ _ _ _ _ ⟨t6, _, by unfold addOf; rw [if_neg hp], rfl⟩
    rintro _ _ ⟨t7, tk7, rfl, rfl⟩
    refine iadd_int (s := ⟨h, g, d, tk7, os⟩) ?_
    have N6' : News g' L' h ((l, listOf vs.toArray n') :: (own ++ rest)) := News.sub N6 fun p hp => by
      simp only [List.mem_cons, List.mem_append] at hp ⊢
      rcases hp with h | h | h
      · exact .inr (.inl h)
      · exact .inl h
      · exact .inr (.inr h)
    refine setItem_N (s := ⟨h, g, d, tk7 + 1, os⟩) F6 N6' (fun p hp => ?_) (by omega) (by omega) fun h8 F8 N8 => wpAny_execs_nil ?_
    · rcases List.mem_append.mp hp with h | h
      · exact hoff l ⟨_, .head _⟩ p h
      · exact hd p h
    refine TEnd.go' F8 (news' := (l, listOf (vs.set ((0 + i) % cs.length) (.int ((cellsL sc most cs i).getD ((0 + i) % cs.length) 0 + addOf most (sc.getD (0 + i) 0)) tk7)).toArray n') :: rest) (News.sub N8 fun p hp => ?_) (fun q hq => ?_) ⟨⟨_, n', rfl, ?_⟩, by exact h1, by exact h2, by exact h3⟩
    · simp only [List.mem_cons, List.mem_append] at hp ⊢
      rcases hp with h | h | h
      · exact .inr (.inl h)
      · exact .inl h
      · exact .inr (.inr h)
    · rcases List.mem_cons.mp hq with rfl | hq
      · exact .inl ⟨_, .head _⟩
      · exact .inl ⟨q.2, .tail _ hq⟩
    · rw [e0]
      exact hv.set _ _ _
end
end
end Mine
end
section
open PySem PySem.W PyProof.Rows PySem.Calls
set_option maxRecDepth 100000
namespace Mine
noncomputable section
def tokAt (x : List Nat) : Option (Int × Tok) := (tokL.find? fun e => e.1 == x).map fun e => (e.2.1, e.2.2.2)
def tokF (P : Params) (x : Str) : Option Value := findBy Value.isStrOf (tokL.map (tokE P)).toArray x
theorem tokF_eq (P : Params) (x : List Nat) : tokF P (S x) = (tokAt x).map fun p => .int p.1 p.2 := by
  unfold tokF tokAt findBy
  rw [List.find?_toArray]
  have : ∀ l : List (List Nat × Int × Nat × Nat), ((l.map (tokE P)).find? fun e => Value.isStrOf (S x) e.key).map (·.val) = ((l.find? fun e => e.1 == x).map fun e => (e.2.1, e.2.2.2)).map fun p => Value.int p.1 p.2 := by
    intro l
    induction l with
    | nil => rfl
    | cons a l ih =>
      have e : Value.isStrOf (S x) (tokE P a).key = (a.1 == x) := by
        show ((⟨a.1.toArray⟩ : Str) == S x) = _
        rw [Bool.eq_iff_iff, beq_iff_eq, beq_iff_eq]
        exact S_inj
      rw [List.map_cons, List.find?_cons, List.find?_cons, e]
      cases (a.1 == x) with
      | true => rfl
      | false => exact ih
  exact this tokL
theorem tok_map {w : World} {h : Heap} (K : (KF w.params).In h) : h.MapOf (PySem.strKind p0 w) 119 (tokF w.params) := by
  refine ⟨_, _, _, K 119 _ rfl, ⟨rfl, rfl, rfl⟩, rfl, fun e he => ?_, fun k => rfl⟩
  obtain ⟨a, _, rfl⟩ := List.mem_map.mp (List.mem_toArray.mp he)
  exact ⟨⟨a.1.toArray⟩, by show ((⟨a.1.toArray⟩ : Str) == ⟨a.1.toArray⟩) = true; simp, rfl⟩
end
end Mine
end
section
open PySem PySem.W PyProof.Rows PySem.Calls
set_option maxRecDepth 100000
namespace Mine
noncomputable section
theorem slice_take0 (r : List Nat) (k : Nat) (hk : k ≤ r.length) : Txt.slice (S r) none (some (k : Int)) = S (r.take k) := by
  have h := beq_iff_eq.mp (slice_closes_to (x := S r) (j := (k : Int)) ⟨by omega, by show (k : Int) ≤ (r.toArray.toList.length : Nat); simp; exact hk⟩)
  rw [h]
  show (⟨_⟩ : Str) = ⟨_⟩
  simp [S]
theorem slice_drop0 (r : List Nat) (k : Nat) (hk : k ≤ r.length) : Txt.slice (S r) (some (k : Int)) none = S (r.drop k) := by
  have h := slice_from_eq (x := S r) (i := (k : Int)) (b := ((S r).length : Int)) (by omega) (by rw [S_len]; omega) rfl
  rw [h]
  show (⟨_⟩ : Str) = ⟨_⟩
  rw [S_len]
  have : ((r.length : Int) - (k : Int)).toNat = r.length - k := by omega
  rw [this]
  simp only [S, Int.toNat_natCast]
  rw [List.take_of_length_le (by simp)]
theorem slice_drop (r : List Nat) (k : Nat) : Txt.slice (S r) (some (k : Int)) none = S (r.drop k) := by
  by_cases hk : k ≤ r.length
  · exact slice_drop0 r k hk
  · rw [slice_beyond (by rw [S_len]; omega), List.drop_eq_nil_of_le (by omega)]
    rfl
theorem upper_beyond {n : Nat} {j : Int} (h : (n : Int) ≤ j) : Builtin.Str.strSliceIndices none (some j) 1 n = Builtin.Str.strSliceIndices none (some (n : Int)) 1 n := by
  have h0 : ¬ j < 0 := by omega
  have h1 : ¬ ((n : Int) < 0) := by omega
  have h2 : (1 : Int) > 0 := by decide
  simp only [Builtin.Str.strSliceIndices, h0, h1, h2, if_false, if_true, Int.min_eq_right h, Int.min_self]
theorem slice_take (r : List Nat) (k : Nat) : Txt.slice (S r) none (some (k : Int)) = S (r.take k) := by
  by_cases hk : k ≤ r.length
  · exact slice_take0 r k hk
  · have e : Txt.slice (S r) none (some (k : Int)) = Txt.slice (S r) none (some (r.length : Int)) := by
      unfold Txt.slice
      rw [S_len, upper_beyond (n := r.length) (by omega)]
    rw [e, slice_take0 r r.length (Nat.le_refl _), List.take_length, List.take_of_length_le (by omega)]
end
end Mine
end
section
open PySem PySem.W PyProof.Rows PySem.Calls
set_option maxRecDepth 100000
namespace Mine
noncomputable section
section
variable {prog : Program} {w : World} {A : Around} {E : Value → Shared → Prop} {h₀ h : Heap} {L : Addr} {m : Str → Option Value} {news : List (Addr × Obj)} {g : Array GenState} {d : Drawn} {tk : Nat} {os : OsState} {env : Env}
theorem strTo' {value slice : Expr} {x : List Nat} {k : Nat} {t uj : Tok} {j : Int} {Q : Value → Shared → Prop} (F : Fr h₀ L h m) (N : News h₀ L h news) (hj : j = (k : Nat)) (hz : x.length ≤ 1000000)
    (q : ∀ h' tk' t', Fr h₀ L h' m → News h₀ L h' news → Q (.str (S (x.take k)) t') ⟨h', g, d, tk', os⟩)
    (hs : subscripted slice false (.str (S x) t) (.ref h.objs.size) = operate [.ref h.objs.size, .str (S x) t] (getItem (.str (S x) t) (.ref h.objs.size))) :
    wpAny (model prog w) A (subscriptTail value slice (.str (S x) t) (.ref h.objs.size)) Q E ⟨h.push { cls := .type "slice", data := .fields #[.none, .int j uj, .none] }, g, d, tk, os⟩ := by
  subst hj
  refine kba_turn (value' := PySem.Expr.Name (PySem.Str.ofString "_") ⟨0, 0, 0, 0⟩) (fun _ => rfl) ?_
  refine slice_strN_ns (s := ⟨h, g, d, tk, os⟩) F N (fun h' t' k' F' N' => ?_) hs (fun _ => rfl) (by rw [S_len]; exact Nat.le_trans hz (by decide))
  rw [slice_take]
  exact q h' k' t' F' N'
theorem strFrom' {value slice : Expr} {x : List Nat} {k : Nat} {t uj : Tok} {j : Int} {Q : Value → Shared → Prop} (F : Fr h₀ L h m) (N : News h₀ L h news) (hj : j = (k : Nat)) (hz : x.length ≤ 1000000)
    (q : ∀ h' tk' t', Fr h₀ L h' m → News h₀ L h' news → Q (.str (S (x.drop k)) t') ⟨h', g, d, tk', os⟩)
    (hs : subscripted slice false (.str (S x) t) (.ref h.objs.size) = operate [.ref h.objs.size, .str (S x) t] (getItem (.str (S x) t) (.ref h.objs.size))) :
    wpAny (model prog w) A (subscriptTail value slice (.str (S x) t) (.ref h.objs.size)) Q E ⟨h.push { cls := .type "slice", data := .fields #[.int j uj, .none, .none] }, g, d, tk, os⟩ := by
  subst hj
  refine kba_turn (value' := PySem.Expr.Name (PySem.Str.ofString "_") ⟨0, 0, 0, 0⟩) (fun _ => rfl) ?_
  refine slice_strN_sn (s := ⟨h, g, d, tk, os⟩) F N (fun h' t' k' F' N' => ?_) hs (fun _ => rfl) (by rw [S_len]; exact Nat.le_trans hz (by decide))
  rw [slice_drop x k]
  exact q h' k' t' F' N'
/-- x[:e], once x is there -/
theorem sliceTo' {e : Expr} {p : Pos} {Q : Value → Shared → Prop} (q : wpAny (model prog w) A (eval e env) (fun u s₂ => Q (.ref s₂.heap.objs.size) { s₂ with heap := s₂.heap.push { cls := .type "slice", data := .fields #[.none, u, .none] } }) E ⟨h, g, d, tk, os⟩) :
    wpAny (model prog w) A (eval (.Slice none (some e) none p) env) Q E ⟨h, g, d, tk, os⟩ :=
  wpAny_Slice (wpAny_pure (wpAny_mono q (fun u s₂ x => wpAny_pure x) fun _ _ x => x))
theorem sliceFrom' {e : Expr} {p : Pos} {Q : Value → Shared → Prop} (q : wpAny (model prog w) A (eval e env) (fun u s₂ => Q (.ref s₂.heap.objs.size) { s₂ with heap := s₂.heap.push { cls := .type "slice", data := .fields #[u, .none, .none] } }) E ⟨h, g, d, tk, os⟩) :
    wpAny (model prog w) A (eval (.Slice (some e) none none p) env) Q E ⟨h, g, d, tk, os⟩ :=
  wpAny_Slice (wpAny_mono q (fun u s₂ x => wpAny_pure (wpAny_pure x)) fun _ _ x => x)
end
end
end Mine
end
section
open PySem PySem.W PyProof.Rows PySem.Calls
set_option maxRecDepth 100000
namespace Mine
noncomputable section
def cutOf (r : List Nat) : Nat := if (tokAt (r.take 3)).isSome then 3 else if (tokAt (r.take 2)).isSome then 2 else 1
/-- a row's pieces, the longest first -/
def kindsG : Nat → List Nat → Option (List (Int × Tok))
  | 0, r => if r = [] then some [] else none
  | n + 1, r => if r = [] then some [] else match tokAt (r.take (cutOf r)) with
    | some p => (kindsG n (r.drop (cutOf r))).map (p :: ·)
    | none => none
def kVals (ps : List (Int × Tok)) : List Value := ps.map fun p => .int p.1 p.2
section
variable {w : World} {mg mb : Str → Option Value} {A : Around} {E : Value → Shared → Prop} {h₀ h : Heap} {L : Addr} {m : Str → Option Value} {news rest : List (Addr × Obj)} {g : Array GenState} {d : Drawn} {tk : Nat} {os : OsState}
theorem inTok' {x : List Nat} {t : Tok} {Q : Value → Shared → Prop} (K : (KF w.params).In h) (q : Q (.bool (tokAt x).isSome) ⟨h, g, d, tk + 1, os⟩) : wpAny (model p0 w) A (compareOp .In (.str (S x) t) (.ref 119)) Q E ⟨h, g, d, tk, os⟩ := by
  refine wpAny_in_of (s := ⟨h, g, d, tk, os⟩) (knd := PySem.strKind p0 w) (k := S x) (f := tokF w.params) ?_ (by decide) (tok_map K) ?_
  · show (S x == S x) = true
    exact beq_self_eq_true _
  · rw [tokF_eq, Option.isSome_map]
    exact q
theorem getTok' {value slice : Expr} {x : List Nat} {p : Int × Tok} {t : Tok} {Q : Value → Shared → Prop} (K : (KF w.params).In h) (hp : tokAt x = some p) (q : Q (.int p.1 p.2) ⟨h, g, d, tk + 1, os⟩)
    (hs : subscripted slice false (.ref 119) (.str (S x) t) = operate [.ref 119, .str (S x) t] (getItem (.ref 119) (.str (S x) t))) :
    wpAny (model p0 w) A (subscriptTail value slice (.ref 119) (.str (S x) t)) Q E ⟨h, g, d, tk, os⟩ := by
  refine kba_turn (value' := PySem.Expr.Name (PySem.Str.ofString "_") ⟨0, 0, 0, 0⟩) (fun _ => rfl) ?_
  have M := tok_map K
  refine subscriptTail_builtin (s := ⟨h, g, d, tk, os⟩) M.typeIs slot_dict_getitem.lookup ?_ hs (fun _ => rfl)
  refine wpAny_getItem_of (s := ⟨h, g, d, tk, os⟩) (knd := PySem.strKind p0 w) (k := S x) (f := tokF w.params) (v := .int p.1 p.2) ?_ M ?_ q
  · show (S x == S x) = true
    exact beq_self_eq_true _
  · rw [tokF_eq, hp]; rfl
theorem c_kinds {Q : Value → Shared → Prop} {f : Addr} {r : List Nat} {t : Tok} {ps : List (Int × Tok)} (G : Gd w mg mb h₀) (hf : mg "_law_kinds" = some (.ref f)) (rm : Rm 1 A) (F : Fr h₀ L h m) (N : News h₀ L h news)
    (hz : r.length ≤ 1000) (hk : kindsG r.length r = some ps)
    (k : ∀ l n h' tk', (∀ p ∈ news, p.1 ≠ l) → Fr h₀ L h' m → News h₀ L h' ((l, listOf (kVals ps).toArray n) :: news) → Q (.ref l) ⟨h', g, d, tk', os⟩) :
    wpAny (model p0 w) A (call (.ref f) [.str (S r) t]) Q E ⟨h, g, d, tk, os⟩ := by
  refine enter' 70 0 [("row", .str (S r) t)] G hf rm F N fun A' g' L' h₁ tk1 cd up ht r' G' F' N' => ?_
  clear F N
  refine wpAny_execs_cons (wpAny_Assign_Name (List_ (spliced_none ?_)))
  refine newList' F' N' (fun l h2 hl F2 N2 => ?_) (by exact Nat.le_of_ble_eq_true rfl)
  refine stN' F2 N2 fun h3 F3 N3 => ?_
  refine wpAny_execs_cons (wpAny_While ?_)
  refine codeAny_whileLoop (fun n s' => ∃ h' tk' m' r1 t1 done more k', s' = ⟨h', g, d, tk', os⟩ ∧ Fr g' L' h' m' ∧ News g' L' h' ((l, listOf (kVals done).toArray k') :: news) ∧ m' "row" = some (.str (S r1) t1) ∧ m' "kinds" = some (.ref l) ∧
    kindsG n r1 = some more ∧ ps = done ++ more ∧ r1.length ≤ n ∧ done.length + n ≤ 1000) ?_ r.length ⟨h3, _, _, r, t, [], ps, 0, rfl, F3, N3, by rfl, by rfl, hk, rfl, Nat.le_refl _, by simpa using hz⟩
  rintro n s' ⟨h4, tk4, m4, r1, t1, dn, more, k4, rfl, F4, N4, hr, hkk, hg, hps, hle, hn⟩
  refine wpAny_isTrue_Compare1 (ld' F4 hr (cStr' (ne_str (wpAny_truthy_bool ?_)))) (by rfl)
  have e0 : Str.ofString "" = S [] := by decide +kernel
  by_cases hr1 : r1 = []
  · subst hr1
    have hm : more = [] := by cases n <;> simpa [kindsG] using hg.symm
    subst hm
    rw [e0, if_neg (by simp)]
    refine wpAny_execs_nil ?_
    refine wpAny_execs_cons (wpAny_Return_some (ld' F4 hkk ?_))
    rw [List.append_nil] at hps
    subst hps
    exact ⟨_, _, _, F4, N4, fun F N => k l k4 _ _ hl F N⟩
  · have hne : (S r1 != Str.ofString "") = true := by
      rw [e0, bne_iff_ne]; exact fun e => hr1 (S_inj.mp e)
    rw [if_pos hne]
    obtain ⟨n, rfl⟩ : ∃ n', n = n' + 1 := ⟨n - 1, by have := List.length_pos_iff.mpr hr1; omega⟩
    unfold kindsG at hg
    rw [if_neg hr1] at hg
    cases hp : tokAt (r1.take (cutOf r1)) with
    | none => rw [hp] at hg; cases hg
    | some p =>
    rw [hp] at hg
    obtain ⟨more', hg', rfl⟩ := Option.map_eq_some_iff.mp hg
    have test : ∀ (p1 p2 p3 p4 p5 : Pos) (j : Nat) (c : Int) (c' : Nat) (h : Heap) (tk : Nat) (E : Value → Shared → Prop) (Q : Value → Shared → Prop), c = (c' : Nat) → Fr g' L' h m4 → News g' L' h ((l, listOf (kVals dn).toArray k4) :: news) →
        (∀ h' tk', Fr g' L' h' m4 → News g' L' h' ((l, listOf (kVals dn).toArray k4) :: news) → Q (.bool (tokAt (r1.take c')).isSome) ⟨h', g, d, tk', os⟩) →
        wpAny (model p0 w) A' (eval (.Subscript (.Name "row" p1) (.Slice none (some (.Constant (.int c) j p2)) none p3) p4) (ev 70 L' f cd)) (fun x s₁ => wpAny (model p0 w) A' (eval (.Name "EXACT_TOKEN_TYPES" p5) (ev 70 L' f cd)) (fun y s₂ => wpAny (model p0 w) A' (compareOp .In x y) Q E s₂) E s₁) E ⟨h, g, d, tk, os⟩ := by
      intro p1 p2 p3 p4 p5 j c c' h tk E Q hc F N q
      refine Subscript_ (ld' F hr (sliceTo' (cInt' ?_)))
      refine strTo' F N hc (by omega) (fun h5 tk5 t5 F5 N5 => ?_) (by with_unfolding_all rfl)
      refine globE G' F5 G'.n3 ?_ (by rfl) (by rfl) (by rfl) (by decide)
      exact inTok' (G'.k.keeps F5.keep) (q h5 _ F5 N5)
    refine wpAny_execs_cons (wpAny_Assign_Name (IfExp_ ?_))
    refine wpAny_isTrue_Compare1 (test _ _ _ _ _ _ _ 3 _ _ _ _ rfl F4 N4 fun h5 tk5 F5 N5 => wpAny_truthy_bool ?_) (by rfl)
    refine ite_post (fun y s' => ∃ h' tk' t, y = .int (cutOf r1 : Nat) t ∧ s' = ⟨h', g, d, tk', os⟩ ∧ Fr g' L' h' m4 ∧ News g' L' h' ((l, listOf (kVals dn).toArray k4) :: news)) (fun hc => ?_) (fun hc => ?_) ?_
    · have e : cutOf r1 = 3 := by unfold cutOf; rw [if_pos hc]
      exact cInt' ⟨h5, _, tk5, by rw [e]; rfl, rfl, F5, N5⟩
    · refine IfExp_ (wpAny_isTrue_Compare1 (test _ _ _ _ _ _ _ 2 _ _ _ _ rfl F5 N5 fun h6 tk6 F6 N6 => wpAny_truthy_bool ?_) (by rfl))
      by_cases hc2 : (tokAt (r1.take 2)).isSome = true
      · have e : cutOf r1 = 2 := by unfold cutOf; rw [if_neg hc, if_pos hc2]
        rw [if_pos hc2]
        exact cInt' ⟨h6, _, tk6, by rw [e]; rfl, rfl, F6, N6⟩
      · have e : cutOf r1 = 1 := by unfold cutOf; rw [if_neg hc, if_neg hc2]
        rw [if_neg hc2]
        exact cInt' ⟨h6, _, tk6, by rw [e]; rfl, rfl, F6, N6⟩
    clear F4 N4
    rintro _ _ ⟨h7, tk7, t7, rfl, rfl, F7, N7⟩
    refine stN' F7 N7 fun h8 F8 N8 => ?_
    have hcz : cutOf r1 ≤ 3 := by unfold cutOf; split; omega; split <;> omega
    have hc1 : 1 ≤ cutOf r1 := by unfold cutOf; split; omega; split <;> omega
    refine wpAny_execs_cons (wpAny_Expr ?_)
    refine MethodCall_ (ld' F8 (by exact hkk) (getMethod_append_N (s := ⟨h8, g, d, _, os⟩) N8 (.head _) ?_))
    refine callWith_method1 ?_ (by rfl) (by rfl)
    refine spliced_more (Subscript_ (globE G' F8 G'.n3 (Subscript_ (ld' F8 (by exact hr) (sliceTo' (ld' F8 (by rfl) ?_)))) (by rfl) (by rfl) (by rfl) (by decide)))
    refine strTo' F8 N8 rfl (by omega) (fun h9 tk9 t9 F9 N9 => ?_) (by with_unfolding_all rfl)
    refine getTok' (G'.k.keeps F9.keep) hp (spliced_none ?_) (by with_unfolding_all rfl)
    refine append' F9 N9 hl (by simp only [kVals, List.length_map]; omega) fun h10 k10 F10 N10 => ?_
    show wpAny (model p0 w) A' (execs _ (ev 70 L' f cd)) _ _ _
    have hkv : kVals dn ++ [.int p.1 p.2] = kVals (dn ++ [p]) := by simp [kVals]
    rw [hkv] at N10
    refine wpAny_execs_cons (wpAny_Assign_Name (Subscript_ (ld' F10 (by exact hr) (sliceFrom' (ld' F10 (by rfl) ?_)))))
    refine strFrom' F10 N10 rfl (by omega) (fun h11 tk11 t11 F11 N11 => ?_) (by with_unfolding_all rfl)
    refine stN' F11 N11 fun h12 F12 N12 => wpAny_execs_nil ?_
    exact ⟨n, Nat.lt_succ_self _, h12, _, _, r1.drop (cutOf r1), t11, dn ++ [p], more', k10, rfl, F12, N12, by rfl, by exact hkk, hg', by rw [hps, List.append_assoc]; rfl, by rw [List.length_drop]; omega, by rw [List.length_append]; show dn.length + 1 + n ≤ 1000; omega⟩
end
end
end Mine
end
section
open PySem PySem.W PyProof.Rows PySem.Calls
set_option maxRecDepth 100000
namespace Mine
noncomputable section
def flatR (rows : List (List Nat)) : List Nat := rows.flatMap fun r => r ++ [13, 10]
theorem at_iff (l : List Nat) (i : Nat) : StrLaws.At (S l) (S [13, 10]) (S l).length i ↔ i + 2 ≤ l.length ∧ (l.drop i).take 2 = [13, 10] := by
  unfold StrLaws.At
  rw [StrLaws.subAt_eq, S_len, S_len]
  show (i + 2 ≤ l.length ∧ ((l.toArray.toList.drop i).take 2 == [13, 10]) = true) ↔ _
  rw [beq_iff_eq]
theorem sub_S (l : List Nat) (i j : Nat) : Builtin.Str.strSub (S l) i j = S ((l.drop i).take (j - i)) := by
  have e := StrLaws.strSub_toList (S l) i j
  have h : (Builtin.Str.strSub (S l) i j).cps = (S ((l.drop i).take (j - i))).cps := by
    apply Array.toList_inj.mp
    rw [e]
  cases hh : Builtin.Str.strSub (S l) i j with
  | mk c => rw [hh] at h; exact congrArg Str.mk h
theorem parts_flat : ∀ (rows : List (List Nat)) (pre x : List Nat) (cuts : List Nat) (f : Nat), (∀ r ∈ rows, 13 ∉ r) → x = pre ++ flatR rows → StrLaws.ChainG (S x) (S [13, 10]) (S x).length pre.length cuts f →
    (∀ k, f ≤ k → ¬ StrLaws.At (S x) (S [13, 10]) (S x).length k) → StrLaws.partsFrom (S x) 2 pre.length cuts = rows.map S ++ [S []]
  | [], pre, x, cuts, f, _, hx, hc, hf => by
    have hx : x = pre := by rw [hx]; simp [flatR]
    subst hx
    cases cuts with
    | cons c cs =>
      have h1 := hc.1
      have h2 := ((at_iff x c).mp hc.2.1).1
      omega
    | nil =>
      show [Builtin.Str.strSub (S x) x.length (S x).length] = _
      rw [sub_S]
      simp
  | r :: rs, pre, x, cuts, f, hr, hx, hc, hf => by
    have hx2 : x = pre ++ r ++ [13, 10] ++ flatR rs := by rw [hx]; simp [flatR]
    have hlen : x.length = pre.length + r.length + 2 + (flatR rs).length := by rw [hx2]; simp only [List.length_append, List.length_cons, List.length_nil]
    have hat : StrLaws.At (S x) (S [13, 10]) (S x).length (pre.length + r.length) := by
      rw [at_iff]
      refine ⟨by omega, ?_⟩
      rw [hx2, show pre ++ r ++ [13, 10] ++ flatR rs = (pre ++ r) ++ ([13, 10] ++ flatR rs) by simp, List.drop_append_of_le_length (by simp)]
      rw [List.drop_eq_nil_of_le (by simp)]
      rfl
    have hno : ∀ k, pre.length ≤ k → k < pre.length + r.length → ¬ StrLaws.At (S x) (S [13, 10]) (S x).length k := by
      intro k h1 h2 h3
      have h4 := ((at_iff x k).mp h3).2
      have h5 : x[k]? = some 13 := by
        have : ((x.drop k).take 2)[0]? = some 13 := by rw [h4]; rfl
        rw [List.getElem?_take_of_lt (by decide), List.getElem?_drop] at this
        simpa using this
      rw [hx2, show pre ++ r ++ [13, 10] ++ flatR rs = pre ++ (r ++ ([13, 10] ++ flatR rs)) by simp, List.getElem?_append_right h1, List.getElem?_append_left (by omega)] at h5
      exact hr r (.head _) (List.mem_of_getElem? h5)
    cases cuts with
    | nil =>
      have e : f = pre.length := hc
      exact absurd hat (hf _ (by omega))
    | cons c cs =>
      obtain ⟨h1, h2, h3, h4⟩ := hc
      have hce : c = pre.length + r.length := by
        rcases Nat.lt_trichotomy c (pre.length + r.length) with h | h | h
        · exact absurd h2 (hno c h1 h)
        · exact h
        · exact absurd hat (h3 _ (by omega) h)
      subst hce
      have hp : (pre ++ r ++ [13, 10]).length = pre.length + r.length + 2 := by simp only [List.length_append, List.length_cons, List.length_nil]
      have ih := parts_flat rs (pre ++ r ++ [13, 10]) x cs f (fun q hq => hr q (.tail _ hq)) hx2 (by rw [hp]; exact h4) hf
      rw [hp] at ih
      show Builtin.Str.strSub (S x) pre.length (pre.length + r.length) :: StrLaws.partsFrom (S x) 2 (pre.length + r.length + 2) cs = _
      rw [ih, sub_S]
      have : (x.drop pre.length).take (pre.length + r.length - pre.length) = r := by
        rw [hx2, show pre ++ r ++ [13, 10] ++ flatR rs = pre ++ (r ++ ([13, 10] ++ flatR rs)) by simp, List.drop_left, show pre.length + r.length - pre.length = r.length by omega, List.take_left]
      rw [this]
      rfl
theorem split_flat (rows : List (List Nat)) (hr : ∀ r ∈ rows, 13 ∉ r) : Txt.split (S (flatR rows)) (S [13, 10]) = rows.map S ++ [S []] := by
  obtain ⟨f, h1, h2⟩ := StrLaws.occ_tight (S (flatR rows)) (S [13, 10]) (by decide)
  have key := parts_flat rows [] (flatR rows) _ f hr rfl h1 h2
  cases rows with
  | nil =>
    unfold Txt.split
    rw [if_pos (by decide)]
    rfl
  | cons r rs =>
    have hl : 2 ≤ (flatR (r :: rs)).length := by simp [flatR]; omega
    have hk : ¬ Builtin.Str.strKind (S (flatR (r :: rs))) < Builtin.Str.strKind (S [13, 10]) := by
      have e : Builtin.Str.strKind (S [13, 10]) = 1 := by decide +kernel
      rw [e]
      unfold Builtin.Str.strKind
      split
      · decide
      · split <;> decide
    unfold Txt.split
    rw [if_neg (by rw [S_len, S_len]; simp only [Bool.or_eq_true, decide_eq_true_eq]; intro h; rcases h with h | h; simp at h; omega; exact hk h)]
    by_cases he : (Builtin.Str.occurrences (S (flatR (r :: rs))) (S [13, 10]) 0 (S (flatR (r :: rs))).length ((S (flatR (r :: rs))).length + 1)).isEmpty = true
    · rw [if_pos he]
      have hn := List.isEmpty_iff.mp he
      rw [hn] at key
      have k2 : [Builtin.Str.strSub (S (flatR (r :: rs))) 0 (S (flatR (r :: rs))).length] = (r :: rs).map S ++ [S []] := key
      rw [StrLaws.sub_whole] at k2
      exact k2
    · rw [if_neg he, StrLaws.partsBetween_eq]
      exact key
end
end Mine
end
section
open PySem PySem.W PyProof.Rows PySem.Calls
set_option maxRecDepth 100000
set_option maxHeartbeats 4000000
namespace Mine
noncomputable section
theorem Strs.values : ∀ {vs : List Value} {rs : List (List Nat)}, Strs vs rs → ∃ l : List (Str × Tok), vs = strValues l ∧ l.map (·.1) = rs.map S
  | _, _, .nil => ⟨[], rfl, rfl⟩
  | _, _, .cons (r := r) (t := t) a => by
    obtain ⟨l, hv, ht⟩ := a.values
    exact ⟨(S r, t) :: l, by rw [hv]; rfl, by rw [List.map_cons, ht]; rfl⟩
theorem Strs.of : ∀ {l : List (Str × Tok)} {rs : List (List Nat)}, l.map (·.1) = rs.map S → Strs (strValues l) rs
  | [], [], _ => .nil
  | [], _ :: _, h => by cases h
  | _ :: _, [], h => by cases h
  | (x, t) :: l, r :: rs, h => by
    have h1 := (List.cons.inj h).1
    have h2 := (List.cons.inj h).2
    subst h1
    exact .cons (Strs.of h2)
theorem join_S : ∀ rs : List (List Nat), Txt.join (S []) (rs.map S) = S rs.flatten
  | [] => rfl
  | r :: rs => by
    have ih := join_S rs
    unfold Txt.join at ih ⊢
    rw [StrLaws.glued_eq_join] at ih ⊢
    rw [List.map_cons]
    show Str.join ⟨#[]⟩ (S r :: rs.map S) = _
    have ih : Str.join ⟨#[]⟩ (rs.map S) = S rs.flatten := ih
    rw [join_nil_cons, ih, S_app]
    rfl
def dotRow (r : List Nat) : List Nat := if r.take 1 = [46] then 46 :: r else r
/-- refs to lists of these kinds, each in the ledger -/
inductive RowsIn (ex : List (Addr × Obj)) : List Value → List (List (Int × Tok)) → Prop
  | nil : RowsIn ex [] []
  | cons {a : Addr} {n : Nat} {ps : List (Int × Tok)} {vs : List Value} {ks : List (List (Int × Tok))} : (a, listOf (kVals ps).toArray n) ∈ ex → RowsIn ex vs ks → RowsIn ex (.ref a :: vs) (ps :: ks)
theorem RowsIn.append {ex : List (Addr × Obj)} : ∀ {vs ws : List Value} {rs qs : List (List (Int × Tok))}, RowsIn ex vs rs → RowsIn ex ws qs → RowsIn ex (vs ++ ws) (rs ++ qs)
  | _, _, _, _, .nil, h => h
  | _, _, _, _, .cons i a, h => .cons i (a.append h)
theorem RowsIn.mono {ex ex' : List (Addr × Obj)} (k : ∀ p ∈ ex, p ∈ ex') : ∀ {vs : List Value} {rs : List (List (Int × Tok))}, RowsIn ex vs rs → RowsIn ex' vs rs
  | _, _, .nil => .nil
  | _, _, .cons i a => .cons (k _ i) (a.mono k)
theorem RowsIn.length {ex : List (Addr × Obj)} : ∀ {vs : List Value} {rs : List (List (Int × Tok))}, RowsIn ex vs rs → vs.length = rs.length
  | _, _, .nil => rfl
  | _, _, .cons _ a => by simp [a.length]
theorem RowsIn.get {ex : List (Addr × Obj)} : ∀ {vs : List Value} {rs : List (List (Int × Tok))}, RowsIn ex vs rs → ∀ {i : Nat} {v : Value}, vs[i]? = some v → ∃ a n ps, rs[i]? = some ps ∧ v = .ref a ∧ (a, listOf (kVals ps).toArray n) ∈ ex
  | _, _, .nil, _, _, e => by simp at e
  | _, _, .cons (a := a) (n := n) (ps := ps) i _, 0, v, e => ⟨a, n, ps, rfl, by simpa using e.symm, i⟩
  | _, _, .cons _ b, i + 1, v, e => b.get (i := i) (by simpa using e)
section
variable {w : World} {mg mb : Str → Option Value} {A : Around} {E : Value → Shared → Prop} {h₀ h : Heap} {L : Addr} {m : Str → Option Value} {news rest : List (Addr × Obj)} {g : Array GenState} {d : Drawn} {tk : Nat} {os : OsState}
theorem join' {D : Addr} {vs : List Value} {rs : List (List Nat)} {x : Str} {t : Tok} {Q : Value → Shared → Prop} (hx : x = S []) (hl : h.IsList D vs.toArray) (hs : Strs vs rs) (hz : (rs.map (·.length)).sum ≤ 16777216)
    (q : ∀ t' tk', Q (.str (S rs.flatten) t') ⟨h, g, d, tk', os⟩) : wpAny (model p0 w) A (call (.builtin "str.join") [.str x t, .ref D]) Q E ⟨h, g, d, tk, os⟩ := by
  subst hx
  obtain ⟨l, rfl, hl2⟩ := hs.values
  refine SC.join (s := ⟨h, g, d, tk, os⟩) hl hl2 (joinOk_of ?_) fun t' k => ?_
  · have e1 : ((rs.map S).map (·.length)).sum = (rs.map (·.length)).sum := by rw [List.map_map]; rfl
    rw [e1, show (S []).length = 0 from rfl, Nat.mul_zero, Nat.add_zero]
    exact hz
  · rw [join_S]; exact q _ _
theorem flat_map (f : List Nat → List Nat) (rows : List (List Nat)) : (rows.map fun r => f r ++ [13, 10]).flatten = flatR (rows.map f) := by
  unfold flatR
  induction rows with
  | nil => rfl
  | cons r rs ih => simp only [List.map_cons, List.flatten_cons, List.flatMap_cons, ih]
theorem sum_le : ∀ (rs : List (List Nat)) (B : Nat), (∀ r ∈ rs, r.length ≤ B) → (rs.map (·.length)).sum ≤ rs.length * B
  | [], _, _ => by simp
  | r :: rs, B, h => by
    have h1 := h r (.head _)
    have h2 := sum_le rs B fun q hq => h q (.tail _ hq)
    simp only [List.map_cons, List.sum_cons, List.length_cons, Nat.succ_mul]
    omega
theorem dotRow_len (r : List Nat) : (dotRow r).length ≤ r.length + 1 := by
  unfold dotRow; split <;> simp
theorem crlf_S : Str.ofString "\r\n" = S [13, 10] := by decide +kernel
theorem empty_S : Str.ofString "" = S [] := by decide +kernel
theorem dot_S : Str.ofString "." = S [46] := by decide +kernel
theorem S_bne (a b : List Nat) : (S a != S b) = (a != b) := by
  rw [Bool.eq_iff_iff, bne_iff_ne, bne_iff_ne]
  exact not_congr S_inj
theorem c_rows {Q : Value → Shared → Prop} {f pl : Addr} {np : Nat} {text : List Nat} {t : Tok} {vs : List Value} {rows : List (List Nat)} {ks : List Nat → List (Int × Tok)} (G : Gd w mg mb h₀) (hf : mg "_law_rows" = some (.ref f)) (rm : Rm 2 A) (F : Fr h₀ L h m) (N : News h₀ L h news)
    (hp : (pl, listOf vs.toArray np) ∈ news) (hv : Strs vs rows) (hz : text.length ≤ 40000) (hn : rows.length ≤ 1000) (hr : ∀ r ∈ rows, 13 ∉ r ∧ r.length ≤ 1000 ∧ kindsG r.length r = some (ks r))
    (hfix : fixL text = flatR rows) (hq : quoteL text = flatR (rows.map dotRow))
    (k : ∀ l n ws ex h' tk', RowsIn ex ws (rows.map ks) → (∀ p ∈ ex ++ news, p.1 ≠ l) → Fr h₀ L h' m → News h₀ L h' ((l, listOf ws.toArray n) :: (ex ++ news)) → Q (.ref l) ⟨h', g, d, tk', os⟩) :
    wpAny (model p0 w) A (call (.ref f) [.str (S text) t, .ref pl]) Q E ⟨h, g, d, tk, os⟩ := by
  refine enter' 71 1 [("text", .str (S text) t), ("plan", .ref pl)] G hf rm F N fun A' g' L' h₁ tk1 cd up ht r' G' F' N' => ?_
  clear F N
  have hlen := hv.length
  obtain ⟨ffix, hffix⟩ := G'.has 16 (by decide) (by rfl)
  obtain ⟨fq, hfq⟩ := G'.has 15 (by decide) (by rfl)
  obtain ⟨fk, hfk⟩ := G'.has 70 (by decide) (by rfl)
  refine wpAny_execs_cons (wpAny_Assign_Name (callD 16 G' hffix F' (spliced_more (ld' F' (by rfl) (spliced_none ⟨F'.keep, ?_⟩)))))
  refine fix' G' hffix r' F' N' (by omega) fun h2 tk2 t2 F2 N2 => ?_
  refine stN' F2 N2 fun h3 F3 N3 => ?_
  refine wpAny_execs_cons (wpAny_If (wpAny_isTrue_Compare1 (ld' F3 (by rfl) ?_) (by rfl)))
  refine MethodCall_ (cStr' (GM.join ?_))
  refine callWith_method1 ?_ (by rfl) (by rfl)
  refine spliced_more (comp_eval (cl := []) ?hclos ?_ (by intro _; rfl) (by rfl) ?hnames)
  case hclos => rfl
  case hnames => decide
  refine ldE F3 (by rfl) ?_ (by rfl) (by rfl) (by rfl) (by decide)
  refine compL (by rfl) (by decide) (by rfl) r'.hh (News.list N3 hp) (by omega) F3 N3 (fun i ys ex => ex = [] ∧ Strs ys ((rows.map fun r => r ++ [13, 10]).take i)) ⟨rfl, .nil⟩ (fun C g₁ D up E' i v ys ex h tk m₁ own k hi hJ hl F6 N6 => ?_) (fun D ys ex h' tk' k' hJ hl hne F6 N6 => ?_)
  · obtain ⟨rfl, hys⟩ := hJ
    obtain ⟨r, tr, hri, rfl⟩ := hv.get hi
    have hrl := (hr r (List.mem_of_getElem? hri)).2.1
    refine wpAny_BinOp (ldE F6 (by rfl) (cStr' ?_) (by rfl) (by rfl) (by rfl) (by decide))
    refine addS' rfl crlf_S rfl (by simp only [List.length_append, List.length_cons, List.length_nil]; omega) fun t7 tk7 => ?_
    refine ⟨h, _, _, [], rfl, F6, N6, fun p hp => absurd hp List.not_mem_nil, rfl, ?_⟩
    rw [List.take_add_one, List.getElem?_map, hri]
    exact hys.append (.cons .nil)
  obtain ⟨rfl, hys⟩ := hJ
  rw [hlen, ← List.length_map (f := fun r : List Nat => r ++ [13, 10]), List.take_length] at hys
  refine spliced_none (join' (by exact empty_S) (News.list N6 (.head _)) hys ?_ fun t7 tk7 => ?_)
  · have h1 := sum_le (rows.map fun r => r ++ [13, 10]) 1002 (fun q hq => by
      obtain ⟨r, hr1, rfl⟩ := List.mem_map.mp hq
      have := (hr r hr1).2.1
      simp only [List.length_append, List.length_cons, List.length_nil]; omega)
    rw [List.length_map] at h1
    omega
  rw [flat_map (fun r => r) rows, List.map_id']
  refine ne_str (s := ⟨h', g, d, tk7, os⟩) (wpAny_truthy_bool ?_)
  rw [S_bne, hfix, bne_self_eq_false, if_neg Bool.false_ne_true]
  refine wpAny_execs_nil ?_
  clear F' N' F2 N2 F3 N3
  refine wpAny_execs_cons (wpAny_If (wpAny_isTrue_Compare1 (callD 15 G' hfq F6 (spliced_more (ld' F6 (by rfl) (spliced_none ⟨F6.keep, ?_⟩)))) (by rfl)))
  refine quote' G' hfq r' F6 N6 (by omega) fun h8 tk8 t8 F8 N8 => ?_
  refine MethodCall_ (cStr' (GM.join ?_))
  refine callWith_method1 ?_ (by rfl) (by rfl)
  refine spliced_more (comp_eval (cl := []) ?hclos ?_ (by intro _; rfl) (by rfl) ?hnames)
  case hclos => rfl
  case hnames => decide
  refine ldE F8 (by rfl) ?_ (by rfl) (by rfl) (by rfl) (by decide)
  refine compL (by rfl) (by decide) (by rfl) r'.hh (News.list N8 (.tail _ hp)) (by omega) F8 N8 (fun i ys ex => ex = [] ∧ Strs ys ((rows.map fun r => dotRow r ++ [13, 10]).take i)) ⟨rfl, .nil⟩ (fun C g₁ D2 up E' i v ys ex h tk m₁ own k hi hJ hl F9 N9 => ?_) (fun D2 ys2 ex h9 tk9 k9 hJ hl2 hne2 F9 N9 => ?_)
  · obtain ⟨rfl, hys⟩ := hJ
    obtain ⟨r, tr, hri, rfl⟩ := hv.get hi
    have hrl := (hr r (List.mem_of_getElem? hri)).2.1
    have hdl := dotRow_len r
    refine wpAny_BinOp (IfExp_ (wpAny_isTrue_Compare1 (Subscript_ (ldE F9 (by rfl) (sliceTo' (cInt' ?_)) (by rfl) (by rfl) (by rfl) (by decide))) (by rfl)))
    refine strTo' (k := 1) F9 N9 rfl (by omega) (fun h10 tk10 t10 F10 N10 => ?_) (by with_unfolding_all rfl)
    refine cStr' (eq_str (s := ⟨h10, g, d, _, os⟩) (wpAny_truthy_bool ?_))
    rw [dot_S]
    refine ite_post (fun y s' => ∃ t' tk', y = .str (S (dotRow r)) t' ∧ s' = ⟨h10, g, d, tk', os⟩) (fun hc => ?_) (fun hc => ?_) ?_
    · have hc : r.take 1 = [46] := S_inj.mp (beq_iff_eq.mp hc)
      refine wpAny_BinOp (cStr' (ldE F10 (by rfl) ?_ (by rfl) (by rfl) (by rfl) (by decide)))
      refine addS' dot_S rfl rfl (by simp only [List.length_append, List.length_cons, List.length_nil]; omega) fun t7 tk7 => ⟨t7, tk7, ?_, rfl⟩
      unfold dotRow; rw [if_pos hc]; rfl
    · have hc : ¬ r.take 1 = [46] := fun e => hc (beq_iff_eq.mpr (S_inj.mpr e))
      refine ldE F10 (by rfl) ⟨tr, _, ?_, rfl⟩ (by rfl) (by rfl) (by rfl) (by decide)
      unfold dotRow; rw [if_neg hc]
    rintro _ _ ⟨t11, tk11, rfl, rfl⟩
    refine cStr' (addS' rfl crlf_S rfl (by simp only [List.length_append, List.length_cons, List.length_nil]; omega) fun t7 tk7 => ?_)
    refine ⟨h10, _, _, [], rfl, F10, N10, fun p hp => absurd hp List.not_mem_nil, rfl, ?_⟩
    rw [List.take_add_one, List.getElem?_map, hri]
    exact hys.append (.cons .nil)
  obtain ⟨rfl, hys⟩ := hJ
  rw [hlen, ← List.length_map (f := fun r : List Nat => dotRow r ++ [13, 10]), List.take_length] at hys
  refine spliced_none (join' (by exact empty_S) (News.list N9 (.head _)) hys ?_ fun t7 tk7 => ?_)
  · have h1 := sum_le (rows.map fun r => dotRow r ++ [13, 10]) 1003 (fun q hq => by
      obtain ⟨r, hr1, rfl⟩ := List.mem_map.mp hq
      have := (hr r hr1).2.1
      have := dotRow_len r
      simp only [List.length_append, List.length_cons, List.length_nil]; omega)
    rw [List.length_map] at h1
    omega
  rw [flat_map dotRow rows]
  refine ne_str (s := ⟨h9, g, d, tk7, os⟩) (wpAny_truthy_bool ?_)
  rw [S_bne, hq, bne_self_eq_false, if_neg Bool.false_ne_true]
  refine wpAny_execs_nil ?_
  clear F6 N6 F8 N8
  refine wpAny_execs_cons (wpAny_Return_some ?_)
  refine comp_eval (cl := []) ?hclos ?_ (by intro _; rfl) (by rfl) ?hnames
  case hclos => rfl
  case hnames => decide
  refine Subscript_ (MethodCall_ (ldE F9 (by rfl) (GM.split ?_) (by rfl) (by rfl) (by rfl) (by decide)))
  refine callWith_method1 ?_ (by rfl) (by rfl)
  refine spliced_more (cStr' (spliced_none ?_))
  refine splitN1 (s := ⟨h9, g, d, _, os⟩) F9 N9 (by rw [crlf_S]; rfl) (fun l h11 tk11 hl11 F11 N11 => ?_) (by rw [S_len]; have := fixL_len _ text (Nat.le_refl _); exact Nat.le_trans (show (fixL text).length + 2 ≤ 100002 by omega) (by decide))
  rw [crlf_S, hfix, split_flat rows fun r h => (hr r h).1] at hl11
  refine sliceTo' (wpAny_UnaryOp (cInt' (neg_int (s := ⟨h11, g, d, _, os⟩) ?_)))
  refine kba_turn (value' := PySem.Expr.Name (PySem.Str.ofString "_") ⟨0, 0, 0, 0⟩) (fun _ => rfl) ?_
  have hll : l.length = rows.length + 1 := by rw [← List.length_map (as := l) (f := (·.1)), hl11]; simp
  refine slice_list (s := ⟨h11, g, d, _, os⟩) F11 N11 (News.list (n := 0) N11 (.head _)) .none (.int _ _) (fun h12 F12 N12 => ?_) (by with_unfolding_all rfl) (fun _ => rfl) (by rw [List.size_toArray]; simp only [strValues, List.length_map]; exact Nat.le_trans (show l.length ≤ 100000 by omega) (by decide))
  rw [show (-(1 : Int)) = -((1 : Nat) : Int) from rfl, slicePick_butLast _ 1 (Nat.le_refl _)] at N12
  have hrv : Strs ((strValues l).toArray.toList.take ((strValues l).toArray.size - 1)) rows := by
    have e1 : (strValues l).toArray.toList.take ((strValues l).toArray.size - 1) = strValues (l.take rows.length) := by
      simp only [strValues, List.size_toArray, List.length_map, hll, Nat.add_sub_cancel, List.map_take]
    rw [e1]
    refine Strs.of ?_
    rw [List.map_take, hl11, List.take_left' (by simp)]
  generalize (strValues l).toArray.toList.take ((strValues l).toArray.size - 1) = rvs at hrv N12
  have hrl := hrv.length
  refine compL (by rfl) (by decide) (by rfl) r'.hh (News.list (n := 0) N12 (.head _)) (by omega) F12 N12 (fun i ys ex => RowsIn ex ys ((rows.map ks).take i)) .nil (fun C g₁ D up E' i v ys ex h tk m₁ own k hi hJ hl F6 N6 => ?_) (fun D ys ex h' tk' k' hJ hl hne F6 N6 => ?_)
  · obtain ⟨r, tr, hri, rfl⟩ := hrv.get hi
    obtain ⟨h13, h14, h15⟩ := hr r (List.mem_of_getElem? hri)
    have G2 : Gd w mg mb g₁ := G'.keeps fun b o e => up b o (F12.keep b o e)
    refine callE 70 G2 hfk F6 ?_ (by rfl) (by decide) (by rfl) (by rfl) (by rfl) (by rfl) (by rfl) (by decide)
    refine spliced_more (ldE F6 (by rfl) (spliced_none ⟨F6.keep, ?_⟩) (by rfl) (by rfl) (by rfl) (by decide))
    refine c_kinds G2 hfk r' F6 N6 h14 h15 fun l2 n2 h16 tk16 hap F16 N16 => ?_
    refine ⟨h16, tk16, _, (l2, listOf (kVals (ks r)).toArray n2) :: ex, rfl, F16, News.sub N16 fun p hp => ?_, fun p hp => ?_, ?_⟩
    · simp only [List.mem_cons, List.mem_append] at hp ⊢
      rcases hp with h | h | h | h
      · exact .inr (.inl h)
      · exact .inr (.inr (.inl h))
      · exact .inl h
      · exact .inr (.inr (.inr h))
    · rcases List.mem_cons.mp hp with rfl | hp
      · exact .inr (.inr hap)
      · exact .inl ⟨p.2, hp⟩
    · rw [List.take_add_one, List.getElem?_map, hri]
      exact (hJ.mono fun p hp => .tail _ hp).append (.cons (.head _) .nil)
  rw [hrl, ← List.length_map (f := ks) (as := rows), List.take_length] at hJ
  refine ⟨_, _, _, F6, News.sub N6 fun p hp => ?_, fun F N => k D k' ys ex h' tk' hJ ?_ F N⟩
  · rcases List.mem_cons.mp hp with rfl | hp
    · exact .head _
    · refine .tail _ ?_
      rcases List.mem_append.mp hp with hp | hp
      · exact List.mem_append_left _ hp
      · exact List.mem_append_right _ (.tail _ (.tail _ (.tail _ (.tail _ hp))))
  · intro p hp
    rcases List.mem_append.mp hp with hp | hp
    · exact hne p (List.mem_append_left _ hp)
    · exact hne p (List.mem_append_right _ (.tail _ (.tail _ (.tail _ (.tail _ hp)))))
end
end
end Mine
end
section
open PySem PySem.W PyProof.Rows PySem.Calls
set_option maxRecDepth 100000
set_option maxHeartbeats 400000
namespace Mine
noncomputable section
theorem countIn_map (c : Nat) : ∀ l : List Nat, PySem.Spec.countIn (.str ⟨#[c]⟩) (l.map fun n => PyData.str ⟨#[n]⟩) = ((l.count c : Nat) : Int)
  | [] => rfl
  | n :: l => by
    have ih := countIn_map c l
    rw [List.map_cons, PySem.Spec.countIn, ih, List.count_cons]
    have e : PySem.Spec.same (PyData.str ⟨#[n]⟩) (.str ⟨#[c]⟩) = (n == c) := by
      rw [Bool.eq_iff_iff]
      simp [PySem.Spec.same]
    have e' : PySem.Spec.same (PyData.str ⟨#[c]⟩) (.str ⟨#[n]⟩) = (n == c) := by
      rw [Bool.eq_iff_iff]
      simp [PySem.Spec.same]
      exact eq_comm
    first | rw [e] | rw [e']
    cases n == c <;> simp <;> omega
theorem count_S (r : List Nat) (c : Nat) : Txt.count (S r) (S [c]) = ((r.count c : Nat) : Int) := by
  show Txt.count (S r) ⟨#[c]⟩ = _
  rw [count_is]
  exact countIn_map c r
inductive IntsIn (ex : List (Addr × Obj)) : List Value → List (List Int) → Prop
  | nil : IntsIn ex [] []
  | cons {a : Addr} {n : Nat} {is : List Int} {xs vs : List Value} {ks : List (List Int)} : (a, listOf xs.toArray n) ∈ ex → Ints xs is → IntsIn ex vs ks → IntsIn ex (.ref a :: vs) (is :: ks)
theorem IntsIn.append {ex : List (Addr × Obj)} : ∀ {vs ws : List Value} {rs qs : List (List Int)}, IntsIn ex vs rs → IntsIn ex ws qs → IntsIn ex (vs ++ ws) (rs ++ qs)
  | _, _, _, _, .nil, h => h
  | _, _, _, _, .cons i j a, h => .cons i j (a.append h)
theorem IntsIn.mono {ex ex' : List (Addr × Obj)} (k : ∀ p ∈ ex, p ∈ ex') : ∀ {vs : List Value} {rs : List (List Int)}, IntsIn ex vs rs → IntsIn ex' vs rs
  | _, _, .nil => .nil
  | _, _, .cons i j a => .cons (k _ i) j (a.mono k)
theorem IntsIn.length {ex : List (Addr × Obj)} : ∀ {vs : List Value} {rs : List (List Int)}, IntsIn ex vs rs → vs.length = rs.length
  | _, _, .nil => rfl
  | _, _, .cons _ _ a => by simp [a.length]
theorem ints_rep (n : Nat) (i : Int) (t : Tok) : Ints (List.replicate n (.int i t)) (List.replicate n i) := by
  induction n with
  | zero => exact .nil
  | succ n ih => exact .cons ih
theorem flat_rep {α : Type} (n : Nat) (v : α) : (List.replicate n [v]).flatten = List.replicate n v := by
  induction n with
  | zero => rfl
  | succ n ih => rw [List.replicate_succ, List.flatten_cons, ih]; rfl
def signDue (r : List Nat) : Option (List Int) :=
  if r = [] then some [] else if r = [60] then some [20] else if r = [60, 61] then some [29] else if r = [62] then some [21] else if r = [62, 61] then some [30] else none
def runOf (n : Nat) : List Int := List.replicate (n / 3) 52 ++ List.replicate (n % 3) 23
def dueOf (r : List Nat) : Option (List Int) :=
  if r.take 1 = [126] then some (31 :: runOf (r.count 46)) else (signDue (r.drop (r.count 46))).map (runOf (r.count 46) ++ ·)
section
variable {w : World} {mg mb : Str → Option Value} {A : Around} {E : Value → Shared → Prop} {h₀ h : Heap} {L : Addr} {m : Str → Option Value} {news rest : List (Addr × Obj)} {g : Array GenState} {d : Drawn} {tk : Nat} {os : OsState}
theorem rep1' {prog : Program} {l : Addr} {v : Value} {n : Nat} {x : Int} {u : Tok} {Q : Value → Shared → Prop} (F : Fr h₀ L h m) (N : News h₀ L h news) (hl : (l, listOf [v].toArray 0) ∈ news) (hx : x = (n : Nat)) (hn : n ≤ 1000000)
    (q : ∀ r h', (∀ p ∈ news, p.1 ≠ r) → Fr h₀ L h' m → News h₀ L h' ((r, listOf (List.replicate n v).toArray 0) :: news) → Q (.ref r) ⟨h', g, d, tk, os⟩) :
    wpAny (model prog w) A (binaryOp .Mult (.ref l) (.int x u)) Q E ⟨h, g, d, tk, os⟩ := by
  subst hx
  refine mul_list (s := ⟨h, g, d, tk, os⟩) F N (N _ hl).1 (by omega) (by omega) (by show 1 * (n : Int).toNat ≤ _; rw [Int.toNat_natCast]; omega) fun h' F' N' => ?_
  rw [listMul_foldl_if, Int.toNat_natCast] at N'
  have e : (List.replicate n [v].toArray.toList).flatten = List.replicate n v := flat_rep n v
  rw [e] at N'
  exact q _ h' (fun p hp => Nat.ne_of_lt (Heap.lt_size (N p hp).1)) F' N'
/-- a dict display: its object, filled at the end -/
theorem dict_fill {D : Addr} {o₀ o : Obj} {h' : Heap} (F : Fr h₀ L h m) (N : News h₀ L h ((D, o₀) :: rest)) (hd : ∀ p ∈ rest, p.1 ≠ D) (hs : Heap.SameBut D h h') (ho : h'.get? D = some o) : Fr h₀ L h' m ∧ News h₀ L h' ((D, o) :: rest) := by
  have n0 := N _ (.head _)
  refine ⟨⟨F.ns.sameBut hs n0.2.1.symm, fun b x hb => (hs.2 b ?_).trans (F.keep b x hb), F.above⟩, fun p hp => ?_⟩
  · rintro rfl
    have := n0.2.2
    simp only at this
    rw [hb] at this; cases this
  · rcases List.mem_cons.mp hp with rfl | hp
    · exact ⟨ho, n0.2⟩
    · exact ⟨(hs.2 _ (hd p hp)).trans (N p (.tail _ hp)).1, (N p (.tail _ hp)).2⟩
theorem assign_dict {M : Model} {A : Around} {E : Value → Shared → Prop} {s : Shared} {env : Env} {x : Str} {pos' p pos : Pos} {ks : List (Option Expr)} {vs : List Expr} {Q : Flow → Shared → Prop} (h : wpAny M A (eval (.Dict ks vs p) env) (fun v s₁ => wpAny M A (storeName env x v) (fun _ => Q .next) E s₁) E s) : wpAny M A (exec (.Assign [.Name x pos'] (.Dict ks vs p) pos) env) Q E s := wpAny_Assign_Name h rfl
/-- the dict of signs: what it maps -/
def SignMap (w : World) (o : Obj) (l0 l1 l2 l3 l4 : Addr) : Prop := o.IsDictOf (PySem.strKind p0 w) [(Str.ofString "", .ref l0), (Str.ofString "<", .ref l1), (Str.ofString "<=", .ref l2), (Str.ofString ">", .ref l3), (Str.ofString ">=", .ref l4)]
theorem signs_nodup : ([Str.ofString "", Str.ofString "<", Str.ofString "<=", Str.ofString ">", Str.ofString ">="] : List Str).Nodup := by decide +kernel
theorem signs_dict {env : Env} {Q : Value → Shared → Prop} {q0 q1 q2 q3 q4 r1 r2 r3 r4 u0 u1 u2 u3 u4 p : Pos} {b0 b1 b2 b3 b4 c1 c2 c3 c4 : Nat} (F : Fr h₀ L h m) (N : News h₀ L h news)
    (k : ∀ D h' tk' o l0 l1 l2 l3 l4 t1 t2 t3 t4, SignMap w o l0 l1 l2 l3 l4 → Fr h₀ L h' m → News h₀ L h' ((D, o) :: (l0, listOf ([] : List Value).toArray 0) :: (l1, listOf [Value.int 20 t1].toArray 0) :: (l2, listOf [Value.int 29 t2].toArray 0) :: (l3, listOf [Value.int 21 t3].toArray 0) :: (l4, listOf [Value.int 30 t4].toArray 0) :: news) → Q (.ref D) ⟨h', g, d, tk', os⟩) :
    wpAny (model p0 w) A (eval (.Dict [some (.Constant (.str (Str.ofString "")) b0 q0), some (.Constant (.str (Str.ofString "<")) b1 q1), some (.Constant (.str (Str.ofString "<=")) b2 q2), some (.Constant (.str (Str.ofString ">")) b3 q3), some (.Constant (.str (Str.ofString ">=")) b4 q4)]
      [.List [] u0, .List [.Constant (.int 20) c1 r1] u1, .List [.Constant (.int 29) c2 r2] u2, .List [.Constant (.int 21) c3 r3] u3, .List [.Constant (.int 30) c4 r4] u4] p) env) Q E ⟨h, g, d, tk, os⟩ := by
  with_reducible refine wpAny_Dict_walk (knd := PySem.strKind p0 w) (by with_unfolding_all rfl) (by with_unfolding_all rfl) (List.cons_ne_nil _ _) (by exact Nat.le_of_ble_eq_true rfl) ?_
  have F2 := F.push { cls := .type "dict", data := .dict #[] }
  have N2 := News.push F N { cls := .type "dict", data := .dict #[] }
  with_reducible refine pairTrees_cons_walk ?_
  with_reducible refine cStr' ?_
  with_reducible refine List_ ?_
  with_reducible refine spliced_none ?_
  with_reducible refine newList' F2 N2 (fun l0 h3 a3 F3 N3 => ?_) (by exact Nat.le_of_ble_eq_true rfl)
  with_reducible refine pairTrees_cons_walk ?_
  refine cStr' (List_ (spliced_more (cInt' (spliced_none (newList' F3 N3 (fun l1 h4 a4 F4 N4 => ?_) (by exact Nat.le_of_ble_eq_true rfl))))))
  with_reducible refine pairTrees_cons_walk ?_
  refine cStr' (List_ (spliced_more (cInt' (spliced_none (newList' F4 N4 (fun l2 h5 a5 F5 N5 => ?_) (by exact Nat.le_of_ble_eq_true rfl))))))
  with_reducible refine pairTrees_cons_walk ?_
  refine cStr' (List_ (spliced_more (cInt' (spliced_none (newList' F5 N5 (fun l3 h6 a6 F6 N6 => ?_) (by exact Nat.le_of_ble_eq_true rfl))))))
  with_reducible refine pairTrees_cons_walk ?_
  refine cStr' (List_ (spliced_more (cInt' (spliced_none (newList' F6 N6 (fun l4 h7 a7 F7 N7 => ?_) (by exact Nat.le_of_ble_eq_true rfl))))))
  with_reducible refine pairTrees_nil_walk ?_
  have hd : h7.DictOf (PySem.strKind p0 w) h.objs.size [] := by
    obtain ⟨o, es, ep, h1, r⟩ := Heap.DictOf.new (knd := PySem.strKind p0 w) h
    have e1 := (N7 _ (.tail _ (.tail _ (.tail _ (.tail _ (.tail _ (.head _))))))).1
    have e2 : (h.push { cls := .type "dict", data := .dict #[] }).get? h.objs.size = some { cls := .type "dict", data := .dict #[] } := Heap.get?_push_size _ rfl
    exact ⟨o, es, ep, e1.trans (e2.symm.trans h1), r⟩
  refine display_done_str (by rfl) (by exact signs_nodup) hd fun h' hm hs => ?_
  obtain ⟨o, ho, hdo⟩ := Heap.dictOf_iff.mp hm
  have N8 : News h₀ L h7 ((h.objs.size, { cls := .type "dict", data := .dict #[] }) :: (l0, listOf ([] : List Value).toArray 0) :: (l1, _) :: (l2, _) :: (l3, _) :: (l4, _) :: news) := News.sub N7 fun p hp => by
    simp only [List.mem_cons] at hp ⊢
    rcases hp with h | h | h | h | h | h | h
    · exact .inr (.inr (.inr (.inr (.inr (.inl h)))))
    · exact .inr (.inr (.inr (.inr (.inl h))))
    · exact .inr (.inr (.inr (.inl h)))
    · exact .inr (.inr (.inl h))
    · exact .inr (.inl h)
    · exact .inl h
    · exact .inr (.inr (.inr (.inr (.inr (.inr h)))))
  have hap : ∀ o0 o1 o2 o3 o4 : Obj, ∀ p ∈ (l0, o0) :: (l1, o1) :: (l2, o2) :: (l3, o3) :: (l4, o4) :: news, p.1 ≠ h.objs.size := fun o0 o1 o2 o3 o4 p hp => by
    simp only [List.mem_cons] at hp
    rcases hp with rfl | rfl | rfl | rfl | rfl | hp
    · exact (a3 _ (.head _)).symm
    · exact (a4 _ (.tail _ (.head _))).symm
    · exact (a5 _ (.tail _ (.tail _ (.head _)))).symm
    · exact (a6 _ (.tail _ (.tail _ (.tail _ (.head _))))).symm
    · exact (a7 _ (.tail _ (.tail _ (.tail _ (.tail _ (.head _)))))).symm
    · exact Nat.ne_of_lt (Heap.lt_size (N p hp).1)
  obtain ⟨F9, N9⟩ := dict_fill F7 N8 (hap _ _ _ _ _) hs ho
  exact k _ h' _ o l0 l1 l2 l3 l4 _ _ _ _ hdo F9 N9
theorem SignMap.at {D : Addr} {o : Obj} {l0 l1 l2 l3 l4 : Addr} (S' : SignMap w o l0 l1 l2 l3 l4) (ho : h.get? D = some o) : h.MapOf (PySem.strKind p0 w) D (valueAt [(Str.ofString "", .ref l0), (Str.ofString "<", .ref l1), (Str.ofString "<=", .ref l2), (Str.ofString ">", .ref l3), (Str.ofString ">=", .ref l4)]) :=
  (Heap.dictOf_iff.mpr ⟨o, ho, S'⟩).mapOf
theorem sign_value {l0 l1 l2 l3 l4 : Addr} {r : List Nat} {ks : List Int} (hk : signDue r = some ks) :
    ∃ l, valueAt [(Str.ofString "", Value.ref l0), (Str.ofString "<", .ref l1), (Str.ofString "<=", .ref l2), (Str.ofString ">", .ref l3), (Str.ofString ">=", .ref l4)] (S r) = some (.ref l) ∧
      ((l = l0 ∧ ks = []) ∨ (l = l1 ∧ ks = [20]) ∨ (l = l2 ∧ ks = [29]) ∨ (l = l3 ∧ ks = [21]) ∨ (l = l4 ∧ ks = [30])) := by
  have e1 : Str.ofString "<" = S [60] := by decide +kernel
  have e2 : Str.ofString "<=" = S [60, 61] := by decide +kernel
  have e3 : Str.ofString ">" = S [62] := by decide +kernel
  have e4 : Str.ofString ">=" = S [62, 61] := by decide +kernel
  rw [empty_S, e1, e2, e3, e4]
  unfold signDue at hk
  by_cases h0 : r = []
  · rw [if_pos h0] at hk; subst h0; cases hk
    exact ⟨l0, by rfl, .inl ⟨rfl, rfl⟩⟩
  rw [if_neg h0] at hk
  by_cases h1 : r = [60]
  · rw [if_pos h1] at hk; subst h1; cases hk
    exact ⟨l1, by rfl, .inr (.inl ⟨rfl, rfl⟩)⟩
  rw [if_neg h1] at hk
  by_cases h2 : r = [60, 61]
  · rw [if_pos h2] at hk; subst h2; cases hk
    exact ⟨l2, by rfl, .inr (.inr (.inl ⟨rfl, rfl⟩))⟩
  rw [if_neg h2] at hk
  by_cases h3 : r = [62]
  · rw [if_pos h3] at hk; subst h3; cases hk
    exact ⟨l3, by rfl, .inr (.inr (.inr (.inl ⟨rfl, rfl⟩)))⟩
  rw [if_neg h3] at hk
  by_cases h4 : r = [62, 61]
  · rw [if_pos h4] at hk; subst h4; cases hk
    exact ⟨l4, by rfl, .inr (.inr (.inr (.inr ⟨rfl, rfl⟩)))⟩
  rw [if_neg h4] at hk; cases hk
end
end
end Mine
end
section
open PySem PySem.W PyProof.Rows PySem.Calls
set_option maxRecDepth 100000
set_option maxHeartbeats 1000000
namespace Mine
noncomputable section
section
variable {w : World} {mg mb : Str → Option Value} {A : Around} {E : Value → Shared → Prop} {h₀ h : Heap} {L : Addr} {m : Str → Option Value} {news rest : List (Addr × Obj)} {g : Array GenState} {d : Drawn} {tk : Nat} {os : OsState}
theorem count' {r : List Nat} {c : Nat} {x : Str} {t u : Tok} {Q : Value → Shared → Prop} (hx : x = S [c]) (q : ∀ t' tk', Q (.int (r.count c : Nat) t') ⟨h, g, d, tk', os⟩) : wpAny (model p0 w) A (call (.builtin "str.count") [.str (S r) t, .str x u]) Q E ⟨h, g, d, tk, os⟩ := by
  subst hx
  refine SC.count (s := ⟨h, g, d, tk, os⟩) ?_
  rw [count_S]
  exact q _ _
theorem getSign' {value slice : Expr} {D : Addr} {o : Obj} {r : List Nat} {l l0 l1 l2 l3 l4 : Addr} {t : Tok} {Q : Value → Shared → Prop} (S' : SignMap w o l0 l1 l2 l3 l4) (ho : h.get? D = some o) (hk : valueAt [(Str.ofString "", Value.ref l0), (Str.ofString "<", .ref l1), (Str.ofString "<=", .ref l2), (Str.ofString ">", .ref l3), (Str.ofString ">=", .ref l4)] (S r) = some (.ref l)) (q : Q (.ref l) ⟨h, g, d, tk + 1, os⟩)
    (hs : subscripted slice false (.ref D) (.str (S r) t) = operate [.ref D, .str (S r) t] (getItem (.ref D) (.str (S r) t))) :
    wpAny (model p0 w) A (subscriptTail value slice (.ref D) (.str (S r) t)) Q E ⟨h, g, d, tk, os⟩ := by
  refine kba_turn (value' := PySem.Expr.Name (PySem.Str.ofString "_") ⟨0, 0, 0, 0⟩) (fun _ => rfl) ?_
  have M := S'.at ho
  refine subscriptTail_builtin (s := ⟨h, g, d, tk, os⟩) M.typeIs slot_dict_getitem.lookup ?_ hs (fun _ => rfl)
  refine wpAny_getItem_of (s := ⟨h, g, d, tk, os⟩) (knd := PySem.strKind p0 w) (k := S r) ?_ M hk q
  show (S r == S r) = true
  exact beq_self_eq_true _
theorem c_due {Q : Value → Shared → Prop} {f pl : Addr} {np : Nat} {vs : List Value} {rows : List (List Nat)} {ks : List Nat → List Int} (G : Gd w mg mb h₀) (hf : mg "_law_due" = some (.ref f)) (rm : Rm 1 A) (F : Fr h₀ L h m) (N : News h₀ L h news)
    (hp : (pl, listOf vs.toArray np) ∈ news) (hv : Strs vs rows) (hn : rows.length ≤ 1000) (hr : ∀ r ∈ rows, r.length ≤ 1000 ∧ dueOf r = some (ks r))
    (k : ∀ l n ws ex h' tk', IntsIn ex ws (rows.map ks) → (∀ p ∈ ex ++ news, p.1 ≠ l) → Fr h₀ L h' m → News h₀ L h' ((l, listOf ws.toArray n) :: (ex ++ news)) → Q (.ref l) ⟨h', g, d, tk', os⟩) :
    wpAny (model p0 w) A (call (.ref f) [.ref pl]) Q E ⟨h, g, d, tk, os⟩ := by
  refine enter' 69 0 [("plan", .ref pl)] G hf rm F N fun A' g' L' h₁ tk1 cd up ht r' G' F' N' => ?_
  clear F N
  have hlen := hv.length
  refine wpAny_execs_cons ?_
  refine assign_dict ?_
  with_reducible refine signs_dict F' N' fun D h2 tk2 o l0 l1 l2 l3 l4 t1 t2 t3 t4 hS F2 N2 => ?_
  generalize hbase : ((D, o) :: (l0, listOf ([] : List Value).toArray 0) :: (l1, listOf [Value.int 20 t1].toArray 0) :: (l2, listOf [Value.int 29 t2].toArray 0) :: (l3, listOf [Value.int 21 t3].toArray 0) :: (l4, listOf [Value.int 30 t4].toArray 0) :: news) = base at N2
  refine stN' F2 N2 fun h3 F3 N3 => ?_
  refine wpAny_execs_cons (wpAny_Assign_Name (List_ (spliced_none ?_)))
  refine newList' F3 N3 (fun rl h4 hrl F4 N4 => ?_) (by exact Nat.le_of_ble_eq_true rfl)
  refine stN' F4 N4 fun h5 F5 N5 => ?_
  refine wpAny_execs_cons (For_invV g' (by rfl) (by rfl) ?_ (by intro _; rfl) (by passes_own))
  refine ld' F5 (by rfl) ?_
  refine list' (fun i m' news' => (∃ ys n ex, news' = (rl, listOf ys.toArray n) :: (ex ++ base) ∧ IntsIn ex ys ((rows.map ks).take i) ∧ (∀ p ∈ ex ++ base, p.1 ≠ rl)) ∧ m' "signs" = some (.ref D) ∧ m' "rows" = some (.ref rl)) r'.hh (News.list N5 (.tail _ (by rw [← hbase]; exact .tail _ (.tail _ (.tail _ (.tail _ (.tail _ (.tail _ hp)))))))) F5 N5 ⟨⟨[], 0, [], rfl, .nil, hrl⟩, by rfl, by rfl⟩ ?turn ?done
  case done =>
    rintro m₁ news₁ h tk ⟨⟨ys, n, ex, rfl, hys, hap⟩, h1, h2⟩ F6 N6
    refine wpAny_execs_cons (wpAny_Return_some (ld' F6 h2 ?_))
    rw [hlen, ← List.length_map (f := ks) (as := rows), List.take_length] at hys
    refine ⟨_, _, _, F6, News.sub N6 fun p hp => ?_, fun F N => k rl n ys ex h tk hys ?_ F N⟩
    · rcases List.mem_cons.mp hp with rfl | hp
      · exact .head _
      · refine .tail _ ?_
        rcases List.mem_append.mp hp with hp | hp
        · exact List.mem_append_left _ hp
        · exact List.mem_append_right _ (by rw [← hbase]; exact .tail _ (.tail _ (.tail _ (.tail _ (.tail _ (.tail _ hp))))))
    · intro p hp
      rcases List.mem_append.mp hp with hp | hp
      · exact hap p (List.mem_append_left _ hp)
      · exact hap p (List.mem_append_right _ (by rw [← hbase]; exact .tail _ (.tail _ (.tail _ (.tail _ (.tail _ (.tail _ hp)))))))
  case turn =>
    rintro i v m₁ news₁ h tk own hi ⟨⟨ys, n, ex, rfl, hys, hap⟩, h1, h2⟩ hoff F6 N6
    obtain ⟨r, tr, hri, rfl⟩ := hv.get hi
    obtain ⟨hz, hdue⟩ := hr r (List.mem_of_getElem? hri)
    have hcl : r.count 46 ≤ r.length := List.count_le_length
    refine wpAny_execs_cons (wpAny_Assign_Name ?_)
    refine MethodCall_ (ld' F6 (by rfl) (GM.count ?_))
    refine callWith_method1 ?_ (by rfl) (by rfl)
    refine spliced_more (cStr' (spliced_none ?_))
    refine count' (by exact dot_S) fun t7 tk7 => ?_
    refine stN' F6 N6 fun h7 F7 N7 => ?_
    have hcount : r.count 46 ≤ 1000 := Nat.le_trans hcl hz
    refine wpAny_execs_cons (wpAny_Assign_Name (wpAny_BinOp (wpAny_BinOp (List_ (spliced_more (cInt' (spliced_none ?_)))))))
    refine newList' F7 N7 (fun a8 h8 ha8 F8 N8 => ?_) (by exact Nat.le_of_ble_eq_true rfl)
    refine wpAny_BinOp (ld' F8 (by rfl) (cInt' (div' (b := 3) rfl (by decide) (by decide) ?_)))
    refine rep1' F8 N8 (.head _) rfl (by omega) fun a9 h9 ha9 F9 N9 => ?_
    refine wpAny_BinOp (List_ (spliced_more (cInt' (spliced_none ?_))))
    refine newList' F9 N9 (fun a10 h10 ha10 F10 N10 => ?_) (by exact Nat.le_of_ble_eq_true rfl)
    refine wpAny_BinOp (ld' F10 (by rfl) (cInt' (mod' (b := 3) rfl (by decide) ?_)))
    refine rep1' F10 N10 (.head _) rfl (by omega) fun a11 h11 ha11 F11 N11 => ?_
    refine addL' F11 N11 (News.list N11 (.tail _ (.tail _ (.head _)))) (News.list N11 (.head _)) (by simp only [List.length_replicate]; omega) fun a12 h12 ha12 F12 N12 => ?_
    refine stN' F12 N12 fun h13 F13 N13 => ?_
    have N14 := News.sub (news' := (a12, _) :: (own ++ (rl, listOf ys.toArray n) :: (ex ++ base))) N13 fun p hp => by
      rcases List.mem_cons.mp hp with rfl | hp
      · exact .head _
      · exact .tail _ (.tail _ (.tail _ (.tail _ (.tail _ hp))))
    have hrun : ∀ (t u : Tok), Ints (List.replicate (r.count 46 / 3) (.int 52 t) ++ List.replicate (r.count 46 % 3) (.int 23 u)) (runOf (r.count 46)) := fun t u => (ints_rep _ _ _).append (ints_rep _ _ _)
    have hrunl : (runOf (r.count 46)).length ≤ 1000 := by simp only [runOf, List.length_append, List.length_replicate]; omega
    have hap14 : ∀ p ∈ own ++ (rl, listOf ys.toArray n) :: (ex ++ base), p.1 ≠ a12 := fun p hp => ha12 p (.tail _ (.tail _ (.tail _ (.tail _ hp))))
    obtain ⟨rv, hrvI, N15⟩ : ∃ rv, Ints rv (runOf (r.count 46)) ∧ News g' L' h13 ((a12, listOf rv.toArray 0) :: (own ++ (rl, listOf ys.toArray n) :: (ex ++ base))) := ⟨_, hrun _ _, N14⟩
    obtain ⟨m13, m1, m2, m3, m4, m5, F14⟩ : ∃ m13 : Str → Option Value, m13 "row" = some (.str (S r) tr) ∧ m13 "dots" = some (.int (r.count 46 : Nat) t7) ∧ m13 "run" = some (.ref a12) ∧ m13 "signs" = some (.ref D) ∧ m13 "rows" = some (.ref rl) ∧ Fr g' L' h13 m13 := ⟨_, by rfl, by rfl, by rfl, by exact h1, by exact h2, F13⟩
    clear N13 N12 N11 N10 N9 N8 N7 ha8 ha9 ha10 ha11 ha12 hrun N14 F12 F11 F10 F9 F8 F7 F13
    have hrvl := hrvI.length
    have hplb : (pl, listOf vs.toArray np) ∈ base := by rw [← hbase]; exact .tail _ (.tail _ (.tail _ (.tail _ (.tail _ (.tail _ hp)))))
    have hrlown : ∀ p ∈ own, p.1 ≠ rl := hoff rl (hap _ (List.mem_append_right _ hplb)).symm ⟨_, .head _⟩
    have N16 : News g' L' h13 ((rl, listOf ys.toArray n) :: (a12, listOf rv.toArray 0) :: (own ++ (ex ++ base))) := News.sub N15 fun p hp => by
      simp only [List.mem_cons, List.mem_append] at hp ⊢
      rcases hp with h | h | h | h
      · exact .inr (.inr (.inl h))
      · exact .inl h
      · exact .inr (.inl h)
      · exact .inr (.inr (.inr h))
    refine wpAny_execs_cons (wpAny_Expr ?_)
    refine MethodCall_ (ld' F14 m5 (getMethod_append_N (s := ⟨h13, g, d, _, os⟩) N16 (.head _) ?_))
    refine callWith_method1 ?_ (by rfl) (by rfl)
    refine spliced_more (IfExp_ (wpAny_isTrue_Compare1 (Subscript_ (ld' F14 m1 (sliceTo' (cInt' ?_)))) (by rfl)))
    refine strTo' (k := 1) F14 N16 rfl (by omega) (fun h17 tk17 t17 F17 N17 => ?_) (by with_unfolding_all rfl)
    refine cStr' (eq_str (s := ⟨h17, g, d, _, os⟩) (wpAny_truthy_bool ?_))
    have tilde : Str.ofString "~" = S [126] := by decide +kernel
    rw [tilde]
    refine ite_post (fun y s' => ∃ z xs h' tk', y = .ref z ∧ s' = ⟨h', g, d, tk', os⟩ ∧ Ints xs (ks r) ∧ Fr g' L' h' m13 ∧ News g' L' h' ((z, listOf xs.toArray 0) :: (rl, listOf ys.toArray n) :: (a12, listOf rv.toArray 0) :: (own ++ (ex ++ base))) ∧ z ≠ rl ∧ ∀ p ∈ own, p.1 ≠ z) (fun hc => ?_) (fun hc => ?_) ?_
    · have hc : r.take 1 = [126] := S_inj.mp (beq_iff_eq.mp hc)
      refine wpAny_BinOp (List_ (spliced_more (cInt' (spliced_none ?_))))
      refine newList' F17 N17 (fun a18 h18 ha18 F18 N18 => ?_) (by exact Nat.le_of_ble_eq_true rfl)
      refine ld' F18 m3 ?_
      refine addL' F18 N18 (News.list N18 (.head _)) (News.list N18 (.tail _ (.tail _ (.head _)))) (by simp only [List.length_cons, List.length_nil]; omega) fun a19 h19 ha19 F19 N19 => ?_
      refine ⟨a19, .int 31 (tk17 + 1) :: rv, h19, _, rfl, rfl, ?_, F19, News.sub N19 fun p hp => ?_, ?_, fun p hp => ?_⟩
      · unfold dueOf at hdue
        rw [if_pos hc] at hdue
        rw [← Option.some.inj hdue]
        exact .cons hrvI
      · rcases List.mem_cons.mp hp with rfl | hp
        · exact .head _
        · exact .tail _ (.tail _ hp)
      · exact (ha19 _ (.tail _ (.head _))).symm
      · exact ha19 p (.tail _ (.tail _ (.tail _ (List.mem_append_left _ hp))))
    · have hc : ¬ r.take 1 = [126] := fun e => hc (beq_iff_eq.mpr (S_inj.mpr e))
      unfold dueOf at hdue
      rw [if_neg hc] at hdue
      obtain ⟨sd, hsd, hks⟩ := Option.map_eq_some_iff.mp hdue
      obtain ⟨ls, hls, hcase⟩ := sign_value (l0 := l0) (l1 := l1) (l2 := l2) (l3 := l3) (l4 := l4) hsd
      refine wpAny_BinOp (ld' F17 m3 (Subscript_ (ld' F17 m4 (Subscript_ (ld' F17 m1 (sliceFrom' (ld' F17 m2 ?_)))))))
      refine strFrom' F17 N17 rfl (by omega) (fun h18 tk18 t18 F18 N18 => ?_) (by with_unfolding_all rfl)
      have hmem : ∀ p, p ∈ base → p ∈ (rl, listOf ys.toArray n) :: (a12, listOf rv.toArray 0) :: (own ++ (ex ++ base)) := fun p hp => .tail _ (.tail _ (List.mem_append_right _ (List.mem_append_right _ hp)))
      refine getSign' hS (N18 _ (hmem (D, o) (by rw [← hbase]; exact .head _))).1 hls ?_ (by with_unfolding_all rfl)
      obtain ⟨sv, hsv, hmm⟩ : ∃ sv, Ints sv sd ∧ (ls, listOf sv.toArray 0) ∈ base := by
        rw [← hbase]
        rcases hcase with ⟨rfl, rfl⟩ | ⟨rfl, rfl⟩ | ⟨rfl, rfl⟩ | ⟨rfl, rfl⟩ | ⟨rfl, rfl⟩
        · exact ⟨_, .nil, .tail _ (.head _)⟩
        · exact ⟨_, .cons .nil, .tail _ (.tail _ (.head _))⟩
        · exact ⟨_, .cons .nil, .tail _ (.tail _ (.tail _ (.head _)))⟩
        · exact ⟨_, .cons .nil, .tail _ (.tail _ (.tail _ (.tail _ (.head _))))⟩
        · exact ⟨_, .cons .nil, .tail _ (.tail _ (.tail _ (.tail _ (.tail _ (.head _)))))⟩
      have hsvl : sv.length ≤ 1 := by
        rw [hsv.length]
        rcases hcase with ⟨_, rfl⟩ | ⟨_, rfl⟩ | ⟨_, rfl⟩ | ⟨_, rfl⟩ | ⟨_, rfl⟩ <;> simp
      refine addL' F18 N18 (News.list N18 (.tail _ (.head _))) (News.list N18 (hmem _ hmm)) (by omega) fun a19 h19 ha19 F19 N19 => ?_
      refine ⟨a19, rv ++ sv, h19, _, rfl, rfl, ?_, F19, N19, ?_, fun p hp => ?_⟩
      · rw [← hks]
        exact hrvI.append hsv
      · exact (ha19 _ (.head _)).symm
      · exact ha19 p (.tail _ (.tail _ (List.mem_append_left _ hp)))
    rintro _ _ ⟨z, xs, h19, tk19, rfl, rfl, hxs, F19, N19, hzr, hzo⟩
    have N20 : News g' L' h19 ((rl, listOf ys.toArray n) :: (z, listOf xs.toArray 0) :: (own ++ (ex ++ base))) := News.sub N19 fun p hp => by
      simp only [List.mem_cons, List.mem_append] at hp ⊢
      rcases hp with h | h | h
      · exact .inr (.inl h)
      · exact .inl h
      · exact .inr (.inr (.inr h))
    refine spliced_none (append' F19 N20 (fun p hp => ?_) (by have := hys.length; rw [List.length_take, List.length_map] at this; omega) fun h20 k20 F20 N21 => ?_)
    · rcases List.mem_cons.mp hp with rfl | hp
      · exact hzr
      · rcases List.mem_append.mp hp with hp | hp
        · exact hrlown p hp
        · exact hap p hp
    refine wpAny_execs_nil ?_
    refine TEnd.go' F20 (news' := (rl, listOf (ys ++ [Value.ref z]).toArray k20) :: (((z, listOf xs.toArray 0) :: ex) ++ base)) (News.sub N21 fun p hp => ?_) (fun q hq => ?_) ⟨⟨ys ++ [Value.ref z], k20, (z, listOf xs.toArray 0) :: ex, rfl, ?_, ?_⟩, m4, m5⟩
    · simp only [List.mem_cons, List.mem_append] at hp ⊢
      rcases hp with h | h | (h | h) | h
      · exact .inr (.inr (.inl h))
      · exact .inl h
      · exact .inr (.inl h)
      · exact .inr (.inr (.inr (.inl h)))
      · exact .inr (.inr (.inr (.inr h)))
    · rcases List.mem_cons.mp hq with rfl | hq
      · exact .inl ⟨_, .head _⟩
      · rcases List.mem_cons.mp hq with rfl | hq
        · exact .inr (.inr hzo)
        · exact .inl ⟨q.2, .tail _ hq⟩
    · rw [List.take_add_one, List.getElem?_map, hri]
      exact (hys.mono fun p hp => .tail _ hp).append (.cons (.head _) hxs .nil)
    · intro p hp
      rcases List.mem_cons.mp hp with rfl | hp
      · exact hzr
      · exact hap p hp
end
end
end Mine
end
section
open PySem PySem.W PyProof.Rows PySem.Calls
set_option maxRecDepth 100000
set_option maxHeartbeats 1000000
namespace Mine
noncomputable section
section
variable {prog : Program} {w : World} {A : Around} {R : Result → Shared → Prop} {h₀ h : Heap} {news : List (Addr × Obj)} {g : Array GenState} {d : Drawn} {tk : Nat} {os : OsState} {env : Env} {x : Str} {body : List Stmt}
/-- a loop over a list, with a bound that the tokens stay above -/
theorem loopTok {px : Pos} {l : Addr} {vs : List Value} {m₀ : Str → Option Value} {E : Value → Shared → Prop} (T : Nat) (J : Nat → (Str → Option Value) → List (Addr × Obj) → Prop)
    (hT : T ≤ tk) (hx : env.kindOf x = some .local) (hp : (env.scope.kind == .class || (env.scope.kind == .module && env.locals != env.globals)) = false)
    (hh : A.handled = none) (hl : h.IsList l vs.toArray) (F : Fr h₀ env.locals h m₀) (N : News h₀ env.locals h news) (hj : J 0 m₀ news)
    (turn : ∀ i v m₁ news₁ h tk own, T ≤ tk → vs[i]? = some v → J i m₁ news₁ → (∀ d, d ≠ l → (∃ o, (d, o) ∈ news₁) → ∀ p ∈ own, p.1 ≠ d) → Fr h₀ env.locals h (fun y => if y = x then some v else m₁ y) → News h₀ env.locals h (own ++ news₁) →
      wpAny (model prog w) A (execs body env) (TEnd h₀ env.locals (J (i + 1)) own news₁ (fun f s => R (.ok f) s) ⟨h, g, d, tk, os⟩) (fun _ _ => False) ⟨h, g, d, tk, os⟩)
    (done : ∀ m₁ news₁ h tk, T ≤ tk → J vs.length m₁ news₁ → Fr h₀ env.locals h m₁ → News h₀ env.locals h news₁ → R (.ok .next) ⟨h, g, d, tk, os⟩) :
    wpAny (model prog w) A (pyIter (.ref l)) (fun it s₂ => codeAny (model prog w) A (.forLoop (.Name x px) it body [] env) R s₂) E ⟨h, g, d, tk, os⟩ := by
  obtain ⟨ol, hol, _⟩ := id hl
  have hlt : l < h.objs.size := Heap.lt_size hol
  have hne : l ≠ h.objs.size := Nat.ne_of_lt hlt
  refine wpAny_pyIter_list (s := ⟨h, g, d, tk, os⟩) hl ?_
  have W := Walks.list (prog := prog) (w := w) hh h.objs.size l hne vs.toArray
  have hlen : vs.toArray.size = vs.length := by simp
  rw [hlen] at W
  have hLI : env.locals ≠ h.objs.size := Nat.ne_of_lt F.ns.lt
  have hLl : env.locals ≠ l := (not_list F.ns hl).symm
  have hLf : env.locals ∉ [h.objs.size, l] := by
    intro hm
    rcases List.mem_cons.mp hm with e | hm
    · exact hLI e
    · exact hLl (List.mem_singleton.mp hm)
  have hI0 : h₀.get? h.objs.size = none := next_is_new F
  have old : ∀ b o, h₀.get? b = some o → b ∉ [h.objs.size] := fun b o e hb => by rw [List.mem_singleton.mp hb, hI0] at e; cases e
  have hnI : ∀ p ∈ news, p.1 ≠ h.objs.size := fun p hp => Nat.ne_of_lt (Heap.lt_size (N p hp).1)
  refine codeAny_forLoop_any (fun k s' => ∃ h' tk' m' news' i, s' = ⟨h', g, d, tk', os⟩ ∧ T ≤ tk' ∧ (h'.IsListIter h.objs.size l i ∧ h'.IsList l vs.toArray) ∧ Fr h₀ env.locals h' m' ∧ News h₀ env.locals h' news' ∧ (∀ p ∈ news', p.1 ≠ h.objs.size) ∧ J i m' news' ∧ i ≤ vs.length ∧ k = vs.length + 1 - i) ?_ (vs.length + 1)
    ⟨_, tk, m₀, news, 0, rfl, hT, ⟨⟨_, Heap.get?_push_size _ rfl, rfl, rfl⟩, hl.at fun o e => Heap.get?_push_of_some _ e⟩, F.push _, fun p hp => ⟨Heap.get?_push_of_some _ (N p hp).1, (N p hp).2⟩, hnI, hj, Nat.zero_le _, rfl⟩
  generalize h.objs.size = I at W hLI hLf hI0 old hne ⊢
  clear hnI
  rintro k s' ⟨h', tk', m', news', i, rfl, hT', hst', F', N', hnw', hJ, hi, rfl⟩
  have next : ∀ h₁ : Heap, (∀ b o, b ∉ [I] → h'.get? b = some o → h₁.get? b = some o) → Fr h₀ env.locals h₁ m' ∧ News h₀ env.locals h₁ news' := fun h₁ hk₁ =>
    ⟨⟨F'.ns.at' fun o e => hk₁ _ o (fun hm => hLI (List.mem_singleton.mp hm)) e, fun b o e => hk₁ b o (old b o e) (F'.keep b o e), F'.above⟩, fun p hp => ⟨hk₁ _ _ (fun hm => hnw' p hp (List.mem_singleton.mp hm)) (N' p hp).1, (N' p hp).2⟩⟩
  refine wpAny_with_toks (n := T) hT' ?_
  by_cases hlt : i < vs.length
  · refine W.item i _ _ _ hlt hst' fun v h₁ tk₁ hP hst₁ hk₁ hT₁ => ?_
    obtain ⟨F₁, N₁⟩ := next h₁ hk₁
    show wpAny (model prog w) A (pure ()) _ _ _
    refine wpAny_pure ?_
    refine wpAny_assign_Name (wpAny_storeName_local hx F₁.ns (fun h₂ hn₂ hs₂ => ?_) hp)
    have F₂ := F₁.set hn₂ hs₂
    have Nown : News h₀ env.locals h₂ (ownOf h₀ [I, l] h₂) := news_ownOf hLf
    have hst₂ := W.frame _ _ _ hst₁ fun b hb o e => (hs₂.2 b fun q => hLf (q ▸ hb)).trans e
    have hv : vs[i]? = some v := by have : vs.toArray[i]? = some v := hP; simpa using this
    have hT₂ : T ≤ tk₁ + 1 := Nat.le_succ_of_le hT₁
    have hgI : ∃ o, (I, o) ∈ ownOf h₀ [I, l] h₂ := by
      obtain ⟨o, ho, _⟩ := hst₂.1
      exact ⟨o, mem_ownOf (.head _) hI0 ho⟩
    have hoff : ∀ d, d ≠ l → (∃ o, (d, o) ∈ news') → ∀ p ∈ ownOf h₀ [I, l] h₂, p.1 ≠ d := fun d hd hm p hp e => by
      obtain ⟨o, hm⟩ := hm
      have h1 := ownOf_sub p hp
      simp only [List.mem_cons, List.not_mem_nil, or_false] at h1
      rcases h1 with h1 | h1
      · exact hnw' _ hm (e.symm.trans h1)
      · exact hd (e.symm.trans h1)
    have key := turn i v m' news' h₂ (tk₁ + 1) (ownOf h₀ [I, l] h₂) hT₂ hv hJ hoff F₂ (Nown.append (N₁.set hs₂))
    refine wpAny_with_toks (n := T) hT₂ (wpAny_mono key (fun f s₃ h₃ hT₃ => ?_) fun _ _ e => e.elim)
    have fin : (∃ h₄ tk₄ m₄ news₄, s₃ = ⟨h₄, g, d, tk₄, os⟩ ∧ Fr h₀ env.locals h₄ m₄ ∧ News h₀ env.locals h₄ (ownOf h₀ [I, l] h₂ ++ news₄) ∧ (∀ q ∈ news₄, (∃ o, (q.1, o) ∈ news') ∨ h₂.get? q.1 = none ∨ ∀ p ∈ ownOf h₀ [I, l] h₂, p.1 ≠ q.1) ∧ J (i + 1) m₄ news₄) →
        ∃ k', k' < vs.length + 1 - i ∧ ∃ h' tk' m' news' i, s₃ = ⟨h', g, d, tk', os⟩ ∧ T ≤ tk' ∧ (h'.IsListIter I l i ∧ h'.IsList l vs.toArray) ∧ Fr h₀ env.locals h' m' ∧ News h₀ env.locals h' news' ∧ (∀ p ∈ news', p.1 ≠ I) ∧ J i m' news' ∧ i ≤ vs.length ∧ k' = vs.length + 1 - i := by
      rintro ⟨h₄, tk₄, m₄, news₄, rfl, F₄, N₄, hn₄, hJ₄⟩
      refine ⟨vs.length + 1 - (i + 1), by omega, h₄, tk₄, m₄, news₄, i + 1, rfl, hT₃, ?_, F₄, N₄.right, fun p hp e => ?_, hJ₄, hlt, rfl⟩
      · refine W.frame _ _ _ hst₂ fun b hb o e => ?_
        cases hn : h₀.get? b with
        | some o₀ =>
          have : o₀ = o := by have := F₂.keep b o₀ hn; rw [e] at this; exact (Option.some.inj this).symm
          exact this ▸ F₄.keep b o₀ hn
        | none => exact (N₄ _ (List.mem_append_left _ (mem_ownOf hb hn e))).1
      · obtain ⟨oI, hoI⟩ := hgI
        rcases hn₄ p hp with ⟨o, h1⟩ | h1 | h1
        · exact hnw' _ h1 e
        · have := (Nown _ hoI).1
          rw [e] at h1
          rw [h1] at this; cases this
        · exact h1 _ hoI e.symm
    cases f with
    | ret v => exact h₃
    | brk => exact h₃
    | next => exact fin h₃
    | cont => exact fin h₃
  · have hin : i = vs.length := by omega
    subst hin
    refine W.done _ _ _ hst' fun h₁ tk₁ hk₁ hT₁ => wpAny_execs_nil ?_
    obtain ⟨F₁, N₁⟩ := next h₁ hk₁
    exact done m' news' h₁ tk₁ hT₁ hJ F₁ N₁
end
end
end Mine
end
section
open PySem PySem.W PyProof.Rows PySem.Calls
set_option maxRecDepth 100000
set_option maxHeartbeats 1000000
namespace Mine
noncomputable section
def tupO (vs : List Value) : Obj := { cls := .type "tuple", data := .seq vs.toArray }
/-- the line: tuples of a number and its mark, each in the ledger; the number's token as P says -/
inductive LineIn (P : Tok → Prop) (ex : List (Addr × Obj)) : List Value → List (Int × Nat) → Prop
  | nil : LineIn P ex [] []
  | cons {a : Addr} {i : Int} {t u : Tok} {k : Nat} {vs : List Value} {ln : List (Int × Nat)} : (a, tupO [.int i t, .int (k : Nat) u]) ∈ ex → P t → LineIn P ex vs ln → LineIn P ex (.ref a :: vs) ((i, k) :: ln)
section
variable {P : Tok → Prop} {ex ex' : List (Addr × Obj)}
theorem LineIn.append : ∀ {vs ws : List Value} {rs qs : List (Int × Nat)}, LineIn P ex vs rs → LineIn P ex ws qs → LineIn P ex (vs ++ ws) (rs ++ qs)
  | _, _, _, _, .nil, h => h
  | _, _, _, _, .cons i j a, h => .cons i j (a.append h)
theorem LineIn.mono (k : ∀ p ∈ ex, p ∈ ex') : ∀ {vs : List Value} {rs : List (Int × Nat)}, LineIn P ex vs rs → LineIn P ex' vs rs
  | _, _, .nil => .nil
  | _, _, .cons i j a => .cons (k _ i) j (a.mono k)
theorem LineIn.length : ∀ {vs : List Value} {rs : List (Int × Nat)}, LineIn P ex vs rs → vs.length = rs.length
  | _, _, .nil => rfl
  | _, _, .cons _ _ a => by simp [a.length]
theorem LineIn.get : ∀ {vs : List Value} {rs : List (Int × Nat)}, LineIn P ex vs rs → ∀ {j : Nat}, j < rs.length → ∃ a t u, vs[j]? = some (.ref a) ∧ (a, tupO [.int (rs.getD j (0, 0)).1 t, .int ((rs.getD j (0, 0)).2 : Nat) u]) ∈ ex ∧ P t
  | _, _, .nil, _, e => by simp at e
  | _, _, .cons (a := a) (t := t) (u := u) m p _, 0, _ => ⟨a, t, u, rfl, m, p⟩
  | _, _, .cons _ _ b, j + 1, e => by
    obtain ⟨a, t, u, h1, h2, h3⟩ := b.get (j := j) (by simpa using e)
    exact ⟨a, t, u, by simpa using h1, by simpa using h2, h3⟩
theorem LineIn.set : ∀ {vs : List Value} {rs : List (Int × Nat)}, LineIn P ex vs rs → ∀ (j : Nat) {a : Addr} {t u : Tok} {x : Int × Nat}, (a, tupO [.int x.1 t, .int (x.2 : Nat) u]) ∈ ex → P t → LineIn P ex (vs.set j (.ref a)) (rs.set j x)
  | _, _, .nil, _, _, _, _, _, _, _ => .nil
  | _, _, .cons m p b, 0, _, _, _, _, h, q => .cons h q b
  | _, _, .cons m p b, j + 1, _, _, _, _, h, q => .cons m p (b.set j h q)
theorem LineIn.take : ∀ {vs : List Value} {rs : List (Int × Nat)}, LineIn P ex vs rs → ∀ j : Nat, LineIn P ex (vs.take j) (rs.take j)
  | _, _, _, 0 => .nil
  | _, _, .nil, _ + 1 => .nil
  | _, _, .cons m p b, j + 1 => .cons m p (b.take j)
theorem LineIn.drop : ∀ {vs : List Value} {rs : List (Int × Nat)}, LineIn P ex vs rs → ∀ j : Nat, LineIn P ex (vs.drop j) (rs.drop j)
  | _, _, h, 0 => h
  | _, _, .nil, _ + 1 => .nil
  | _, _, .cons m p b, j + 1 => b.drop j
end
/-- numbers whose tokens are as P says -/
inductive IntsP (P : Tok → Prop) : List Value → List Int → Prop
  | nil : IntsP P [] []
  | cons {i : Int} {t : Tok} {vs : List Value} {is : List Int} : P t → IntsP P vs is → IntsP P (.int i t :: vs) (i :: is)
theorem IntsP.length {P : Tok → Prop} : ∀ {vs : List Value} {rs : List Int}, IntsP P vs rs → vs.length = rs.length
  | _, _, .nil => rfl
  | _, _, .cons _ a => by simp [a.length]
theorem IntsP.get {P : Tok → Prop} : ∀ {vs : List Value} {rs : List Int}, IntsP P vs rs → ∀ {i : Nat}, i < rs.length → ∃ t, vs[i]? = some (.int (rs.getD i 0) t) ∧ P t
  | _, _, .nil, _, e => by simp at e
  | _, _, .cons (t := t) p a, 0, _ => ⟨t, rfl, p⟩
  | _, _, .cons p a, i + 1, e => by
    obtain ⟨t, h, q⟩ := a.get (i := i) (by simpa using e)
    exact ⟨t, by simpa using h, q⟩
theorem IntsP.weak {P : Tok → Prop} : ∀ {vs : List Value} {rs : List Int}, IntsP P vs rs → Ints vs rs
  | _, _, .nil => .nil
  | _, _, .cons _ a => .cons a.weak
theorem Ints.withP : ∀ {vs : List Value} {rs : List Int}, Ints vs rs → IntsP (fun _ => True) vs rs
  | _, _, .nil => .nil
  | _, _, .cons a => .cons trivial a.withP
theorem Ints.are : ∀ {vs : List Value} {rs : List Int}, Ints vs rs → IntsAre vs rs
  | _, _, .nil => .nil
  | _, _, .cons (i := i) (t := t) a => .cons i t a.are
theorem kVals_ints : ∀ ps : List (Int × Tok), Ints (kVals ps) (ps.map (·.1))
  | [] => .nil
  | p :: ps => .cons (kVals_ints ps)
def line0 (gs : List Int) : List (Int × Nat) := gs.zipIdx
theorem line0_take (gs : List Int) (i : Nat) (hi : i < gs.length) : (line0 gs).take (i + 1) = (line0 gs).take i ++ [(gs.getD i 0, i)] := by
  rw [List.take_add_one]
  congr 1
  unfold line0
  rw [List.getElem?_zipIdx]
  simp [hi]
section
variable {w : World} {mg mb : Str → Option Value} {A : Around} {E : Value → Shared → Prop} {h₀ h : Heap} {L : Addr} {m : Str → Option Value} {news rest : List (Addr × Obj)} {g : Array GenState} {d : Drawn} {tk : Nat} {os : OsState}
theorem News.tup {h : Heap} {a : Addr} {vs : List Value} (N : News h₀ L h news) (k : (a, tupO vs) ∈ news) : IsTup h a vs.toArray := ⟨_, (N _ k).1, rfl, 0, rfl⟩
theorem itemT' {value slice : Expr} {a : Addr} {l : List Value} {k : Nat} {c : Int} {u : Tok} {x : Value} {prog : Program} {Q : Value → Shared → Prop} (ht : IsTup h a l.toArray) (hc : c = (k : Nat)) (hk : k < 1000) (hx : l[k]? = some x) (q : Q x ⟨h, g, d, tk, os⟩)
    (hs : subscripted slice false (.ref a) (.int c u) = operate [.ref a, .int c u] (getItem (.ref a) (.int c u))) :
    wpAny (model prog w) A (subscriptTail value slice (.ref a) (.int c u)) Q E ⟨h, g, d, tk, os⟩ := by
  subst hc
  refine kba_turn (value' := PySem.Expr.Name (PySem.Str.ofString "_") ⟨0, 0, 0, 0⟩) (fun _ => rfl) ?_
  refine item_tupleL (s := ⟨h, g, d, tk, os⟩) ht (by omega) (by omega) (seqIndex_of (Int.natCast_nonneg k) ?_) (by simpa using hx) q hs (fun _ => rfl)
  have := (List.getElem?_eq_some_iff.mp hx).1
  omega
theorem inInts' {a : Addr} {vs : List Value} {ns : List Int} {x : Int} {u : Tok} {prog : Program} {Q : Value → Shared → Prop} (ht : IsTup h a vs.toArray) (hi : Ints vs ns) (q : Q (.bool (ns.any (· == x))) ⟨h, g, d, tk, os⟩) :
    wpAny (model prog w) A (compareOp .In (.int x u) (.ref a)) Q E ⟨h, g, d, tk, os⟩ := by
  show wpAny _ A (do return .bool (← contains (.ref a) (.int x u))) Q E _
  exact wpAny_bind (contains_tuple_ints ht (by simpa using hi.are) (wpAny_pure q))
theorem last' {value slice : Expr} {a : Addr} {vs : List Value} {ns : List Int} {u : Tok} {x : Int} {prog : Program} {Q : Value → Shared → Prop} (hl : h.IsList a vs.toArray) (hi : Ints vs ns) (hx : ns.getLast? = some x) (q : ∀ t, Q (.int x t) ⟨h, g, d, tk, os⟩)
    (hs : subscripted slice false (.ref a) (.int (-1) u) = operate [.ref a, .int (-1) u] (getItem (.ref a) (.int (-1) u))) :
    wpAny (model prog w) A (subscriptTail value slice (.ref a) (.int (-1) u)) Q E ⟨h, g, d, tk, os⟩ := by
  refine kba_turn (value' := PySem.Expr.Name (PySem.Str.ofString "_") ⟨0, 0, 0, 0⟩) (fun _ => rfl) ?_
  have h1 : 0 < ns.length := by
    cases ns with
    | nil => cases hx
    | cons _ _ => simp
  refine item_list_ints_neg (s := ⟨h, g, d, tk, os⟩) hl hi.are (by decide) (by omega) (by decide) (fun t => ?_) hs (fun _ => rfl)
  have e : ns.getD (-1 + (ns.length : Int)).toNat 0 = x := by
    rw [List.getLast?_eq_getElem?] at hx
    have : (-1 + (ns.length : Int)).toNat = ns.length - 1 := by omega
    rw [this, List.getD_eq_getElem?_getD, hx]
    rfl
  rw [e]
  exact q t
end
end
end Mine
end
section
open PySem PySem.W PyProof.Rows PySem.Calls
set_option maxRecDepth 100000
set_option maxHeartbeats 2000000
namespace Mine
noncomputable section
def isSign (s : Int) : Bool := [20, 21, 29, 30].any (· == s)
def ledDots (is : List Int) : Nat := 3 * is.findIdx (· != 52) + is.countP (· == 23)
def ledSaid (s x y : Int) : Bool := if s = 20 then decide (x < y) else if s = 29 then decide (x ≤ y) else if s = 21 then decide (y < x) else decide (y ≤ x)
def ledStep (line : List (Int × Nat)) (is : List Int) : List (Int × Nat) :=
  match is.getLast? with
  | none => line
  | some s => if isSign s then
      if ledSaid s (line.getD (ledDots is - 1) (0, 0)).1 (line.getD (ledDots is) (0, 0)).1 == [21, 30].any (· == s) then (line.set (ledDots is - 1) (line.getD (ledDots is) (0, 0))).set (ledDots is) (line.getD (ledDots is - 1) (0, 0)) else line
    else line
def LedOk (len : Nat) (ps : List (Int × Tok)) : Prop := (∀ p ∈ ps, smallInt p.1 = true ∧ p.2 ≠ 0 ∧ p.2 < 616) ∧ ps.length ≤ 1000 ∧ ∀ s, (ps.map (·.1)).getLast? = some s → isSign s = true → 1 ≤ ledDots (ps.map (·.1)) ∧ ledDots (ps.map (·.1)) < len
theorem ledStep_len (line : List (Int × Nat)) (is : List Int) : (ledStep line is).length = line.length := by
  unfold ledStep
  split
  · rfl
  · split
    · split
      · simp
      · rfl
    · rfl
theorem led_len (line : List (Int × Nat)) : ∀ rows : List (List Int), (rows.foldl ledStep line).length = line.length
  | [] => rfl
  | r :: rs => by rw [List.foldl_cons, led_len _ rs, ledStep_len]
theorem Ints.dat {ex : List (Addr × Obj)} : ∀ {vs : List Value} {rs : List Int}, Ints vs rs → DatAll ex vs (rs.map Dat.int)
  | _, _, .nil => .nil
  | _, _, .cons (i := i) (t := t) a => .cons (.int i t) a.dat
def bools52 (ps : List (Int × Tok)) : List Value := ps.map fun p => .bool (p.1 == 52)
def isF : Value → Bool | .bool b => b == false | _ => false
def is23 : Value → Bool | .int i _ => i == 23 | _ => false
theorem idx52 (is : List Int) (sg : Int) (hl : is.getLast? = some sg) (h : isSign sg = true) : is.findIdx (· != 52) < is.length := by
  apply List.findIdx_lt_length_of_exists
  refine ⟨sg, List.mem_of_getLast? hl, ?_⟩
  rw [bne_iff_ne]
  rintro rfl
  exact absurd h (by decide)
theorem bools_at (ps : List (Int × Tok)) (hn : (ps.map (·.1)).findIdx (· != 52) < ps.length) : (bools52 ps)[(ps.map (·.1)).findIdx (· != 52)]? = some (.bool false) ∧ ∀ j < (ps.map (·.1)).findIdx (· != 52), ∀ v, (bools52 ps)[j]? = some v → isF v = false := by
  have hn' : (ps.map (·.1)).findIdx (· != 52) < (ps.map (·.1)).length := by simpa using hn
  refine ⟨?_, fun j hj v hv => ?_⟩
  · have h1 := List.findIdx_getElem (xs := ps.map (·.1)) (p := (· != 52)) (w := hn')
    rw [List.getElem_map] at h1
    unfold bools52
    rw [List.getElem?_map, List.getElem?_eq_getElem hn]
    have h2 : (ps[(ps.map (·.1)).findIdx (· != 52)].1 == 52) = false := by
      rw [bne_iff_ne] at h1
      exact beq_eq_false_iff_ne.mpr h1
    show some (Value.bool (ps[(ps.map (·.1)).findIdx (· != 52)].1 == 52)) = _
    rw [h2]
  · have h1 := List.not_of_lt_findIdx hj
    unfold bools52 at hv
    rw [List.getElem?_map] at hv
    have hj2 : j < ps.length := Nat.lt_trans hj hn
    rw [List.getElem?_eq_getElem hj2] at hv
    simp only [List.getElem_map] at h1
    have hv2 := Option.some.inj hv
    subst hv2
    have h3 : (ps[j].1 == 52) = true := by simpa using h1
    show ((ps[j].1 == 52) == false) = false
    rw [h3]; rfl
theorem count23 (ps : List (Int × Tok)) : (kVals ps).countP is23 = (ps.map (·.1)).countP (· == 23) := by
  unfold kVals
  rw [List.countP_map, List.countP_map]
  rfl
section
variable {w : World} {mg mb : Str → Option Value} {A : Around} {E : Value → Shared → Prop} {h₀ h : Heap} {L : Addr} {m : Str → Option Value} {news rest : List (Addr × Obj)} {g : Array GenState} {d : Drawn} {tk : Nat} {os : OsState}
theorem c_led {Q : Value → Shared → Prop} {f rl ga : Addr} {nr ng : Nat} {rws gv : List Value} {kss : List (List (Int × Tok))} {gs : List Int} {P : Tok → Prop} (G : Gd w mg mb h₀) (hf : mg "_law_led" = some (.ref f)) (rm : Rm 2 A) (F : Fr h₀ L h m) (N : News h₀ L h news) (hT : 616 ≤ tk)
    (hr : (rl, listOf rws.toArray nr) ∈ news) (hrs : RowsIn news rws kss) (hg : (ga, listOf gv.toArray ng) ∈ news) (hgs : IntsP P gv gs) (hz : gs.length ≤ 100) (hk : kss.length ≤ 1000) (hok : ∀ ps ∈ kss, LedOk gs.length ps)
    (k : ∀ l n ws ex h' tk', tk ≤ tk' → LineIn P ex ws ((kss.map (·.map (·.1))).foldl ledStep (line0 gs)) → (∀ p ∈ ex ++ news, p.1 ≠ l) → Fr h₀ L h' m → News h₀ L h' ((l, listOf ws.toArray n) :: (ex ++ news)) → Q (.ref l) ⟨h', g, d, tk', os⟩) :
    wpAny (model p0 w) A (call (.ref f) [.ref rl, .ref ga]) Q E ⟨h, g, d, tk, os⟩ := by
  refine wpAny_with_toks (n := tk) (Nat.le_refl _) ?_
  refine enterC' 72 1 [("rows", .ref rl), ("given", .ref ga)] G hf rm F N (fun A' g' L' h₁ tk1 cd cells up hT1 r' G' F' N' ap X => ?_) (by intros; rfl) (fun n x hx => ?_) (by decide +kernel) (by decide) (by rfl) (by rfl) (by rfl) (by rfl)
  · clear F N
    obtain ⟨o1, rfl, d1⟩ := CellsAre.one X
    have hc1 : (evC 72 L' f cd).cells.lookup (Str.ofString "given") = some (L' + 1) := by rfl
    have d1' : o1.data = .cell (some (.ref ga)) := d1
    clear X d1 up
    have hgl := hgs.length
    refine wpAny_execs_cons (wpAny_with_toks (n := 616) (Nat.le_trans hT hT1) ?_)
    refine comp_assign (cl := [("given", L' + 1)]) ?hsw ?hclos ?_ (by intro _; rfl) (by rfl) ?hnames
    case hsw => rfl
    case hclos => rfl
    case hnames => decide
    refine Call_ (bltE G' F' (by simp) (by decide) boot_range ?_ (by rfl) (by rfl) (by rfl) (by rfl) (by decide))
    refine callWith_type1 ?_ (by rfl) (by rfl)
    refine spliced_more (Call_ (bltE G' F' (by simp) (by decide) boot_len ?_ (by rfl) (by rfl) (by rfl) (by rfl) (by decide)))
    refine callWith_builtin1 ?_ (by rfl) (by rfl)
    refine spliced_more (cellE ⟨o1, (N' _ (.head _)).1, d1'⟩ ?_ hc1 (by rfl) (by rfl) (by decide))
    refine spliced_none (len' (News.list N' (.tail _ hg)) (by omega) fun t2 tk2 => spliced_none ?_)
    refine range1' F' N' fun r h3 tk3 t3 u3 v3 hr3 F3 N3 => ?_
    refine compRU (a := 0) (n := gs.length) (b := gs.length) (by rfl) (by decide) (by rfl) r'.hh (by rw [hgl] at hr3; exact hr3) (by omega) (by omega) (by omega) F3 N3 (by rfl) (by rfl) (fun i ys ex => LineIn P ex ys ((line0 gs).take i)) .nil (fun C g₁ D up E' i ti ys ex h tk m₁ own k hi hJ hlen F6 N6 => ?_) (fun D ys ex h' tk' k' hJ hlen hne F6 N6 hT2 => ?_)
    · have hgl3 := News.list N3 (.tail _ hg)
      have hgl6 : h.IsList ga gv.toArray := hgl3.at fun o e => F6.keep _ _ (up _ _ e)
      obtain ⟨tx, htx, hPx⟩ := hgs.get (i := 0 + i) (by omega)
      refine Tuple_ (spliced_more (Subscript_ (cellE ⟨o1, F6.keep _ _ (up _ _ (N3 _ (.head _)).1), d1'⟩ ?_ (by rfl) (by rfl) (by rfl) (by decide))))
      refine ldE F6 (by rfl) ?_ (by rfl) (by rfl) (by rfl) (by decide)
      refine item' hgl6 (by omega) htx ?_ (by with_unfolding_all rfl)
      refine spliced_more (ldE F6 (by rfl) (spliced_none ?_) (by rfl) (by rfl) (by rfl) (by decide))
      refine newTuple' F6 N6 (fun T h7 hT7 F7 N7 => ?_) (by exact Nat.le_of_ble_eq_true rfl)
      refine ⟨h7, _, _, (T, tupO [.int (gs.getD (0 + i) 0) tx, .int ((0 + i : Nat) : Int) ti]) :: ex, rfl, F7, News.sub N7 fun p hp => ?_, fun p hp => ?_, ?_⟩
      · simp only [List.mem_cons, List.mem_append] at hp ⊢
        rcases hp with h | h | h | h
        · exact .inr (.inl h)
        · exact .inr (.inr (.inl h))
        · exact .inl h
        · exact .inr (.inr (.inr h))
      · rcases List.mem_cons.mp hp with rfl | hp
        · exact .inr (.inr hT7)
        · exact .inl ⟨p.2, hp⟩
      · rw [line0_take gs i hi]
        have e0 : 0 + i = i := Nat.zero_add i
        rw [e0]
        exact (hJ.mono fun p hp => .tail _ hp).append (.cons (.head _) hPx .nil)
    have hl0 : (line0 gs).length = gs.length := by simp [line0]
    rw [← hl0, List.take_length] at hJ
    clear F' N' F3 N3 hr3
    generalize hbase : ex ++ ([(L' + 1, o1)] ++ news) = base at N6 hne
    replace hJ : LineIn P base ys (line0 gs) := hJ.mono fun p hp => by rw [← hbase]; exact List.mem_append_left _ hp
    have hnb : ∀ p ∈ news, p ∈ base := fun p hp => by rw [← hbase]; exact List.mem_append_right _ (.tail _ hp)
    refine wpAny_execs_cons (wpAny_For ?_ (by intro _; rfl))
    refine ldE F6 (by rfl) ?_ (by rfl) (by rfl) (by rfl) (by decide)
    refine loopTok 616 (fun i m' news' => ∃ ws n, news' = (D, listOf ws.toArray n) :: base ∧ LineIn P base ws (((kss.take i).map (·.map (·.1))).foldl ledStep (line0 gs)) ∧ m' "line" = some (.ref D)) hT2 (by rfl) (by rfl) r'.hh (News.list N6 (.tail _ (hnb _ hr))) F6 N6 ⟨ys, k', rfl, hJ, by rfl⟩ ?turn ?done
    case done =>
      rintro m₁ news₁ h tk2 hT3 ⟨ws, n, rfl, hws, h1⟩ F7 N7
      refine wpAny_execs_cons (wpAny_Return_some ?_)
      refine ldE F7 h1 ?_ (by rfl) (by rfl) (by rfl) (by decide)
      rw [hrs.length, List.take_length] at hws
      refine ⟨_, _, _, F7, News.sub N7 (news' := (D, listOf ws.toArray n) :: (base ++ news)) fun p hp => ?_, fun F N hT4 => k D n ws base h tk2 hT4 hws (fun p hp => ?_) F N⟩
      · rcases List.mem_cons.mp hp with rfl | hp
        · exact .head _
        · rcases List.mem_append.mp hp with hp | hp
          · exact .tail _ hp
          · exact .tail _ (hnb _ hp)
      · rcases List.mem_append.mp hp with hp | hp
        · exact hne p hp
        · exact hne p (hnb _ hp)
    case turn =>
      rintro i v m₁ news₁ h tk2 own hT3 hv ⟨ws, n, rfl, hws, h1⟩ hoff F7 N7
      obtain ⟨a, na, ps, hps, rfl, hmem⟩ := hrs.get hv
      obtain ⟨hps1, hps2, hps3⟩ := hok ps (List.mem_of_getElem? hps)
      have hmemN : (a, listOf (kVals ps).toArray na) ∈ own ++ (D, listOf ws.toArray n) :: base := List.mem_append_right _ (.tail _ (hnb _ hmem))
      have hstep : ((kss.take (i + 1)).map (·.map (·.1))).foldl ledStep (line0 gs) = ledStep (((kss.take i).map (·.map (·.1))).foldl ledStep (line0 gs)) (ps.map (·.1)) := by
        rw [List.take_add_one, hps, List.map_append, List.foldl_append]
        rfl
      have hlen0 : (((kss.take i).map (·.map (·.1))).foldl ledStep (line0 gs)).length = gs.length := by rw [led_len, hl0]
      rw [hstep]
      generalize ((kss.take i).map (·.map (·.1))).foldl ledStep (line0 gs) = ln at hws hlen0 ⊢
      have hIs := kVals_ints ps
      have stay : ∀ (Q0 : Flow → Shared → Prop) (h8 : Heap) (tk8 : Nat) (m8 : Str → Option Value) (more : List (Addr × Obj)), ledStep ln (ps.map (·.1)) = ln → m8 "line" = some (.ref D) → Fr g' L' h8 m8 → News g' L' h8 (more ++ (own ++ (D, listOf ws.toArray n) :: base)) →
          TEnd g' L' (fun m' news' => ∃ ws n, news' = (D, listOf ws.toArray n) :: base ∧ LineIn P base ws (ledStep ln (ps.map (·.1))) ∧ m' "line" = some (.ref D)) own ((D, listOf ws.toArray n) :: base) Q0 ⟨h, g, d, tk2, os⟩ .next ⟨h8, g, d, tk8, os⟩ := by
        intro Q0 h8 tk8 m8 more he hm8 F8 N8
        refine TEnd.go' F8 (news' := (D, listOf ws.toArray n) :: base) (News.sub N8 fun p hp => List.mem_append_right _ hp) (fun q hq => .inl ⟨q.2, hq⟩) ⟨ws, n, rfl, by rw [he]; exact hws, hm8⟩
      refine wpAny_execs_cons (wpAny_If (wpAny_isTrue_BoolOp (wpAny_allTrue_And_cons (wpAny_isTrue_Compare1 (ldE F7 (by rfl) (List_ (spliced_none ?_)) (by rfl) (by rfl) (by rfl) (by decide)) (by rfl)))))
      refine newList' F7 N7 (fun e h8 he F8 N8 => ?_) (by exact Nat.le_of_ble_eq_true rfl)
      refine kqd_ne (s := ⟨h8, g, d, _, os⟩) N8 (.tail _ hmemN) rfl rfl (hIs.dat (ex := [])) (fun p hp => absurd hp List.not_mem_nil) (.head _) rfl rfl (.nil (news := [])) (fun p hp => absurd hp List.not_mem_nil) ?_ ?_ ?_ (wpAny_truthy_bool ?_)
      · intro d hd; obtain ⟨_, _, rfl⟩ := List.mem_map.mp hd; rfl
      · intro d hd; cases hd
      · have := r'.u; unfold cLine; omega
      by_cases hp0 : ps = []
      · subst hp0
        rw [decide_eq_true (by rfl)]
        rw [if_neg (by decide), if_neg (by decide)]
        exact wpAny_execs_nil (wpAny_execs_nil (stay _ h8 _ _ [(e, listOf ([] : List Value).toArray 0)] (by rfl) (by exact h1) F8 N8))
      have hp1 : (ps.map (·.1)).map Dat.int ≠ [] := by simpa using hp0
      rw [decide_eq_false hp1, if_pos (by rfl)]
      obtain ⟨sg, hsg⟩ : ∃ sg, (ps.map (·.1)).getLast? = some sg := by
        cases hh : (ps.map (·.1)).getLast? with
        | some sg => exact ⟨sg, rfl⟩
        | none => exact absurd (List.getLast?_eq_none_iff.mp hh) (by simpa using hp0)
      have lastE : ∀ (h : Heap) (tk : Nat) (m : Str → Option Value) (nw : List (Addr × Obj)) (p1 p2 p3 p4 : Pos) (j : Nat) (Q : Value → Shared → Prop), Fr g' L' h m → News g' L' h nw → m "kinds" = some (.ref a) → (a, listOf (kVals ps).toArray na) ∈ nw → (∀ t, Q (.int sg t) ⟨h, g, d, tk + 1 + 1, os⟩) →
          wpAny (model p0 w) A' (eval (.Subscript (.Name "kinds" p1) (.UnaryOp .USub (.Constant (.int 1) j p2) p3) p4) (evC 72 L' f cd)) Q (fun _ _ => False) ⟨h, g, d, tk, os⟩ := by
        intro h tk m nw p1 p2 p3 p4 j Q F N hm hn q
        refine Subscript_ (ldE F hm (wpAny_UnaryOp (cInt' (neg_int (s := ⟨h, g, d, _, os⟩) ?_))) (by rfl) (by rfl) (by rfl) (by decide))
        exact last' (News.list N hn) hIs hsg (fun t => q t) (by with_unfolding_all rfl)
      refine wpAny_allTrue_And_cons (wpAny_isTrue_Compare1 (lastE _ _ _ _ _ _ _ _ _ _ F8 N8 (by rfl) (.tail _ hmemN) fun t9 => ?_) (by rfl))
      refine Tuple_ (spliced_more (cInt' (spliced_more (cInt' (spliced_more (cInt' (spliced_more (cInt' (spliced_none ?_)))))))))
      refine newTuple' F8 N8 (fun e2 h9 he2 F9 N9 => ?_) (by exact Nat.le_of_ble_eq_true rfl)
      refine inInts' (News.tup N9 (.head _)) (.cons (.cons (.cons (.cons .nil)))) (wpAny_truthy_bool ?_)
      cases hsn : isSign sg with
      | false =>
        rw [if_neg (by rw [show ([20, 21, 29, 30] : List Int).any (· == sg) = isSign sg from rfl, hsn]; decide), if_neg (by decide)]
        refine wpAny_execs_nil (wpAny_execs_nil (stay _ h9 _ _ [(e2, _), (e, listOf ([] : List Value).toArray 0)] ?_ (by exact h1) F9 N9))
        unfold ledStep
        rw [hsg]
        show (if isSign sg = true then _ else ln) = ln
        rw [hsn, if_neg (by decide)]
      | true =>
        rw [if_pos (by exact hsn)]
        refine wpAny_allTrue_And_nil ?_
        rw [if_pos rfl]
        obtain ⟨hd1, hd2⟩ := hps3 sg hsg hsn
        clear he he2 F7 N7
        obtain ⟨fio, hfio⟩ := G'.has 9 (by decide) (by rfl)
        obtain ⟨fco, hfco⟩ := G'.has 7 (by decide) (by rfl)
        obtain ⟨fgi, hfgi⟩ := G'.has 8 (by decide) (by rfl)
        obtain ⟨fsi, hfsi⟩ := G'.has 10 (by decide) (by rfl)
        obtain ⟨flt, hflt⟩ := G'.has 2 (by decide) (by rfl)
        obtain ⟨fle, hfle⟩ := G'.has 3 (by decide) (by rfl)
        obtain ⟨fge, hfge⟩ := G'.has 4 (by decide) (by rfl)
        obtain ⟨fgt, hfgt⟩ := G'.has 5 (by decide) (by rfl)
        have hkl : (kVals ps).length = ps.length := by simp [kVals]
        have hidx : (ps.map (·.1)).findIdx (· != 52) < ps.length := by simpa using idx52 _ sg hsg hsn
        obtain ⟨hb1, hb2⟩ := bools_at ps hidx
        refine wpAny_execs_cons (wpAny_Assign_Name (wpAny_BinOp (wpAny_BinOp (cInt' ?_))))
        refine callE 9 G' hfio F9 ?_ (by rfl) (by decide) (by rfl) (by rfl) (by rfl) (by rfl) (by rfl) (by decide)
        refine spliced_more (wpAny_with_toks (n := 616) (by show 616 ≤ tk2 + 1 + 1 + 1 + 1 + 1 + 1 + 1; omega) (comp_eval (cl := []) ?hclos ?_ (by intro _; rfl) (by rfl) ?hnames))
        case hclos => rfl
        case hnames => decide
        refine ldE F9 (by rfl) ?_ (by rfl) (by rfl) (by rfl) (by decide)
        refine compL (by rfl) (by decide) (by rfl) r'.hh (News.list N9 (.tail _ (.tail _ hmemN))) (by omega) F9 N9 (fun i ys ex => ex = [] ∧ ys = bools52 (ps.take i)) ⟨rfl, rfl⟩ (fun C g₁ D up E' i v ys ex h tk m₁ own k hi hJ hl F6 N6 => ?_) (fun D3 ys ex h10 tk10 k10 hJ hl hne3 F10 N10 hT10 => ?_)
        · obtain ⟨rfl, rfl⟩ := hJ
          obtain ⟨p, hp, rfl⟩ : ∃ p, ps[i]? = some p ∧ v = .int p.1 p.2 := by
            unfold kVals at hi
            rw [List.getElem?_map] at hi
            obtain ⟨p, hp, hq⟩ := Option.map_eq_some_iff.mp hi
            exact ⟨p, hp, hq.symm⟩
          refine wpAny_Compare1 (ldE F6 (by rfl) (cInt' (eq_int ?_)) (by rfl) (by rfl) (by rfl) (by decide))
          refine ⟨h, _, _, [], rfl, F6, N6, fun p hp => absurd hp List.not_mem_nil, rfl, ?_⟩
          unfold bools52
          rw [List.take_add_one, hp, List.map_append]
          rfl
        obtain ⟨rfl, rfl⟩ := hJ
        rw [hkl, List.take_length] at N10
        refine spliced_more (Constant_bool (spliced_none ⟨F10.keep, ?_⟩))
        refine c_indexOf (s := ⟨h10, g, d, tk10, os⟩) G' hfio r' F10 N10 (News.list N10 (.head _)) (r := isF) (fun v hv => ?_) hb1 rfl hb2 fun h11 tk11 t11 hT11 F11 N11 => ?_
        · obtain ⟨p, _, rfl⟩ := List.mem_map.mp hv
          exact alike_bool _ _
        replace hT11 : tk10 ≤ tk11 := hT11
        replace hT10 : 616 ≤ tk10 := hT10
        refine mul' (c := ((3 * (ps.map (·.1)).findIdx (· != 52) : Nat) : Int)) (by omega) (IntMulOk.of_left (by decide +kernel)) ?_
        refine callE 7 G' hfco F11 ?_ (by rfl) (by decide) (by rfl) (by rfl) (by rfl) (by rfl) (by rfl) (by decide)
        refine spliced_more (ldE F11 (by rfl) ?_ (by rfl) (by rfl) (by rfl) (by decide))
        refine spliced_more (cInt' (spliced_none ⟨F11.keep, ?_⟩))
        refine c_countOf (s := ⟨h11, g, d, _, os⟩) G' hfco r' F11 N11 (News.list N11 (.tail _ (.tail _ (.tail _ hmemN)))) (r := is23) (fun v hv => ?_) fun h12 tk12 t12 hT12 F12 N12 => ?_
        · obtain ⟨p, hp, rfl⟩ := List.mem_map.mp hv
          obtain ⟨q1, q2, q3⟩ := hps1 p hp
          refine alike_int q1 q2 ?_ ?_
          · exact Nat.succ_ne_zero _
          · exact Nat.ne_of_lt (Nat.lt_of_lt_of_le q3 (Nat.le_succ_of_le (Nat.le_trans hT10 hT11)))
        refine add' (c := ((ledDots (ps.map (·.1)) : Nat) : Int)) (by rw [count23]; unfold ledDots; omega) ?_
        refine stE F12 N12 (fun h13 F13 N13 => ?_) (by rfl) (by rfl) (by rfl)
        replace N13 : News g' L' h13 (own ++ (D, listOf ws.toArray n) :: base) := News.sub N13 fun p hp => .tail _ (.tail _ (.tail _ hp))
        generalize hdots : ledDots (ps.map (·.1)) = dots at hd1 hd2
        obtain ⟨m13, m1, m2, m3, F14⟩ : ∃ m13 : Str → Option Value, m13 "kinds" = some (.ref a) ∧ m13 "line" = some (.ref D) ∧ m13 "dots" = some (.int (dots : Nat) tk12) ∧ Fr g' L' h13 m13 := ⟨_, by rfl, by exact h1, by rw [← hdots]; rfl, F13⟩
        clear F13 F12 N12 F11 N11 F10 N10 F9 N9 F8 N8 hb1 hb2 hidx hne3
        have hDm : (D, listOf ws.toArray n) ∈ own ++ (D, listOf ws.toArray n) :: base := List.mem_append_right _ (.head _)
        obtain ⟨al, tl, ul, hl1, hl2, hl3⟩ := hws.get (j := dots - 1) (by omega)
        obtain ⟨ar, tr, ur, hr1, hr2, hr3⟩ := hws.get (j := dots) (by omega)
        refine wpAny_execs_cons (wpAny_Assign_Name ?_)
        refine callE 8 G' hfgi F14 ?_ (by rfl) (by decide) (by rfl) (by rfl) (by rfl) (by rfl) (by rfl) (by decide)
        refine spliced_more (ldE F14 m2 (spliced_more (wpAny_BinOp (ldE F14 m3 (cInt' ?_) (by rfl) (by rfl) (by rfl) (by decide)))) (by rfl) (by rfl) (by rfl) (by decide))
        refine sub' (c := ((dots - 1 : Nat) : Int)) (by omega) (spliced_none ⟨F14.keep, ?_⟩)
        refine c_getitem (s := ⟨h13, g, d, _, os⟩) G' hfgi r' F14 N13 (News.list N13 hDm) hl1 (by omega) fun h15 tk15 hT15 F15 N15 => ?_
        refine stE F15 N15 (fun h16 F16 N16 => ?_) (by rfl) (by rfl) (by rfl)
        refine wpAny_execs_cons (wpAny_Assign_Name ?_)
        refine callE 8 G' hfgi F16 ?_ (by rfl) (by decide) (by rfl) (by rfl) (by rfl) (by rfl) (by rfl) (by decide)
        refine spliced_more (ldE F16 (by exact m2) (spliced_more (ldE F16 (by exact m3) (spliced_none ⟨F16.keep, ?_⟩) (by rfl) (by rfl) (by rfl) (by decide))) (by rfl) (by rfl) (by rfl) (by decide))
        refine c_getitem (s := ⟨h16, g, d, _, os⟩) G' hfgi r' F16 N16 (News.list N16 hDm) hr1 (by omega) fun h17 tk17 hT17 F17 N17 => ?_
        refine stE F17 N17 (fun h18 F18 N18 => ?_) (by rfl) (by rfl) (by rfl)
        obtain ⟨m18, m1, m2, m3, m4, m5, F18⟩ : ∃ m18 : Str → Option Value, m18 "kinds" = some (.ref a) ∧ m18 "line" = some (.ref D) ∧ m18 "dots" = some (.int (dots : Nat) tk12) ∧ m18 "left" = some (.ref al) ∧ m18 "right" = some (.ref ar) ∧ Fr g' L' h18 m18 := ⟨_, by exact m1, by exact m2, by exact m3, by rfl, by rfl, F18⟩
        clear F14 F15 F16 F17 N15 N16 N17
        have hLm : (al, tupO [.int (ln.getD (dots - 1) (0, 0)).1 tl, .int ((ln.getD (dots - 1) (0, 0)).2 : Nat) ul]) ∈ own ++ (D, listOf ws.toArray n) :: base := List.mem_append_right _ (.tail _ hl2)
        have hRm : (ar, tupO [.int (ln.getD dots (0, 0)).1 tr, .int ((ln.getD dots (0, 0)).2 : Nat) ur]) ∈ own ++ (D, listOf ws.toArray n) :: base := List.mem_append_right _ (.tail _ hr2)
        have hmemN' := hmemN
        refine wpAny_execs_cons (wpAny_mono (Q := fun fl s' => fl = .next ∧ ∃ h' tk', s' = ⟨h', g, d, tk', os⟩ ∧ Fr g' L' h' (fun y => if y = "said" then some (.bool (ledSaid sg (ln.getD (dots - 1) (0, 0)).1 (ln.getD dots (0, 0)).1)) else m18 y) ∧ News g' L' h' (own ++ (D, listOf ws.toArray n) :: base)) (E := fun _ _ => False) ?_ (fun fl s' hq => ?_) fun _ _ e => e)
        · refine wpAny_If (wpAny_isTrue_Compare1 (lastE _ _ _ _ _ _ _ _ _ _ F18 N18 m1 hmemN fun t9 => cInt' (eq_int (wpAny_truthy_bool ?_))) (by rfl))
          by_cases q20 : sg = 20
          · rw [if_pos (beq_iff_eq.mpr q20)]
            refine wpAny_execs_cons (wpAny_Assign_Name ?_)
            refine callE 2 G' hflt F18 ?_ (by rfl) (by decide) (by rfl) (by rfl) (by rfl) (by rfl) (by rfl) (by decide)
            refine spliced_more (Subscript_ (ldE F18 m4 (cInt' ?_) (by rfl) (by rfl) (by rfl) (by decide)))
            refine itemT' (News.tup N18 hLm) (k := 0) rfl (by decide) rfl ?_ (by with_unfolding_all rfl)
            refine spliced_more (Subscript_ (ldE F18 m5 (cInt' ?_) (by rfl) (by rfl) (by rfl) (by decide)))
            refine itemT' (News.tup N18 hRm) (k := 0) rfl (by decide) rfl (spliced_none ⟨F18.keep, ?_⟩) (by with_unfolding_all rfl)
            refine c_lt (s := ⟨h18, g, d, _, os⟩) G' hflt r' F18 N18 fun h19 tk19 F19 N19 => ?_
            refine stE F19 N19 (fun h20 F20 N20 => ?_) (by rfl) (by rfl) (by rfl)
            refine wpAny_execs_nil ⟨rfl, h20, _, rfl, ?_, N20⟩
            rw [show ledSaid sg (ln.getD (dots - 1) (0, 0)).1 (ln.getD dots (0, 0)).1 = decide ((ln.getD (dots - 1) (0, 0)).1 < (ln.getD dots (0, 0)).1) by unfold ledSaid; rw [if_pos q20]]
            exact F20
          rw [if_neg (fun e => q20 (beq_iff_eq.mp e))]
          refine wpAny_execs_cons (wpAny_mono (Q := fun fl s' => fl = .next ∧ ∃ h' tk', s' = ⟨h', g, d, tk', os⟩ ∧ Fr g' L' h' (fun y => if y = "said" then some (.bool (ledSaid sg (ln.getD (dots - 1) (0, 0)).1 (ln.getD dots (0, 0)).1)) else m18 y) ∧ News g' L' h' (own ++ (D, listOf ws.toArray n) :: base)) (E := fun _ _ => False) ?_ (fun fl s' hq => by obtain ⟨rfl, hq⟩ := hq; exact wpAny_execs_nil ⟨rfl, hq⟩) fun _ _ e => e)
          refine wpAny_If (wpAny_isTrue_Compare1 (lastE _ _ _ _ _ _ _ _ _ _ F18 N18 m1 hmemN fun t9 => cInt' (eq_int (wpAny_truthy_bool ?_))) (by rfl))
          by_cases q29 : sg = 29
          · rw [if_pos (beq_iff_eq.mpr q29)]
            refine wpAny_execs_cons (wpAny_Assign_Name ?_)
            refine callE 3 G' hfle F18 ?_ (by rfl) (by decide) (by rfl) (by rfl) (by rfl) (by rfl) (by rfl) (by decide)
            refine spliced_more (Subscript_ (ldE F18 m4 (cInt' ?_) (by rfl) (by rfl) (by rfl) (by decide)))
            refine itemT' (News.tup N18 hLm) (k := 0) rfl (by decide) rfl ?_ (by with_unfolding_all rfl)
            refine spliced_more (Subscript_ (ldE F18 m5 (cInt' ?_) (by rfl) (by rfl) (by rfl) (by decide)))
            refine itemT' (News.tup N18 hRm) (k := 0) rfl (by decide) rfl (spliced_none ⟨F18.keep, ?_⟩) (by with_unfolding_all rfl)
            refine c_le (s := ⟨h18, g, d, _, os⟩) G' hfle r' F18 N18 fun h19 tk19 F19 N19 => ?_
            refine stE F19 N19 (fun h20 F20 N20 => ?_) (by rfl) (by rfl) (by rfl)
            refine wpAny_execs_nil ⟨rfl, h20, _, rfl, ?_, N20⟩
            rw [show ledSaid sg (ln.getD (dots - 1) (0, 0)).1 (ln.getD dots (0, 0)).1 = decide ((ln.getD (dots - 1) (0, 0)).1 ≤ (ln.getD dots (0, 0)).1) by unfold ledSaid; rw [if_neg q20, if_pos q29]]
            exact F20
          rw [if_neg (fun e => q29 (beq_iff_eq.mp e))]
          refine wpAny_execs_cons (wpAny_mono (Q := fun fl s' => fl = .next ∧ ∃ h' tk', s' = ⟨h', g, d, tk', os⟩ ∧ Fr g' L' h' (fun y => if y = "said" then some (.bool (ledSaid sg (ln.getD (dots - 1) (0, 0)).1 (ln.getD dots (0, 0)).1)) else m18 y) ∧ News g' L' h' (own ++ (D, listOf ws.toArray n) :: base)) (E := fun _ _ => False) ?_ (fun fl s' hq => by obtain ⟨rfl, hq⟩ := hq; exact wpAny_execs_nil ⟨rfl, hq⟩) fun _ _ e => e)
          refine wpAny_If (wpAny_isTrue_Compare1 (lastE _ _ _ _ _ _ _ _ _ _ F18 N18 m1 hmemN fun t9 => cInt' (eq_int (wpAny_truthy_bool ?_))) (by rfl))
          by_cases q21 : sg = 21
          · rw [if_pos (beq_iff_eq.mpr q21)]
            refine wpAny_execs_cons (wpAny_Assign_Name ?_)
            refine callE 5 G' hfgt F18 ?_ (by rfl) (by decide) (by rfl) (by rfl) (by rfl) (by rfl) (by rfl) (by decide)
            refine spliced_more (Subscript_ (ldE F18 m4 (cInt' ?_) (by rfl) (by rfl) (by rfl) (by decide)))
            refine itemT' (News.tup N18 hLm) (k := 0) rfl (by decide) rfl ?_ (by with_unfolding_all rfl)
            refine spliced_more (Subscript_ (ldE F18 m5 (cInt' ?_) (by rfl) (by rfl) (by rfl) (by decide)))
            refine itemT' (News.tup N18 hRm) (k := 0) rfl (by decide) rfl (spliced_none ⟨F18.keep, ?_⟩) (by with_unfolding_all rfl)
            refine c_gt (s := ⟨h18, g, d, _, os⟩) G' hfgt r' F18 N18 fun h19 tk19 F19 N19 => ?_
            refine stE F19 N19 (fun h20 F20 N20 => ?_) (by rfl) (by rfl) (by rfl)
            refine wpAny_execs_nil ⟨rfl, h20, _, rfl, ?_, N20⟩
            rw [show ledSaid sg (ln.getD (dots - 1) (0, 0)).1 (ln.getD dots (0, 0)).1 = decide ((ln.getD dots (0, 0)).1 < (ln.getD (dots - 1) (0, 0)).1) by unfold ledSaid; rw [if_neg q20, if_neg q29, if_pos q21]]
            exact F20
          rw [if_neg (fun e => q21 (beq_iff_eq.mp e))]
          refine wpAny_execs_cons (wpAny_Assign_Name ?_)
          refine callE 4 G' hfge F18 ?_ (by rfl) (by decide) (by rfl) (by rfl) (by rfl) (by rfl) (by rfl) (by decide)
          refine spliced_more (Subscript_ (ldE F18 m4 (cInt' ?_) (by rfl) (by rfl) (by rfl) (by decide)))
          refine itemT' (News.tup N18 hLm) (k := 0) rfl (by decide) rfl ?_ (by with_unfolding_all rfl)
          refine spliced_more (Subscript_ (ldE F18 m5 (cInt' ?_) (by rfl) (by rfl) (by rfl) (by decide)))
          refine itemT' (News.tup N18 hRm) (k := 0) rfl (by decide) rfl (spliced_none ⟨F18.keep, ?_⟩) (by with_unfolding_all rfl)
          refine c_ge (s := ⟨h18, g, d, _, os⟩) G' hfge r' F18 N18 fun h19 tk19 F19 N19 => ?_
          refine stE F19 N19 (fun h20 F20 N20 => ?_) (by rfl) (by rfl) (by rfl)
          refine wpAny_execs_nil ⟨rfl, h20, _, rfl, ?_, N20⟩
          rw [show ledSaid sg (ln.getD (dots - 1) (0, 0)).1 (ln.getD dots (0, 0)).1 = decide ((ln.getD dots (0, 0)).1 ≤ (ln.getD (dots - 1) (0, 0)).1) by unfold ledSaid; rw [if_neg q20, if_neg q29, if_neg q21]]
          exact F20
        obtain ⟨rfl, h21, tk21, rfl, F21, N21⟩ := hq
        clear F18 N18 N13 hLm hRm lastE stay
        have lastE : ∀ (h : Heap) (tk : Nat) (m : Str → Option Value) (nw : List (Addr × Obj)) (p1 p2 p3 p4 : Pos) (j : Nat) (Q : Value → Shared → Prop), Fr g' L' h m → News g' L' h nw → m "kinds" = some (.ref a) → (a, listOf (kVals ps).toArray na) ∈ nw → (∀ t, Q (.int sg t) ⟨h, g, d, tk + 1 + 1, os⟩) →
            wpAny (model p0 w) A' (eval (.Subscript (.Name "kinds" p1) (.UnaryOp .USub (.Constant (.int 1) j p2) p3) p4) (evC 72 L' f cd)) Q (fun _ _ => False) ⟨h, g, d, tk, os⟩ := by
          intro h tk m nw p1 p2 p3 p4 j Q F N hm hn q
          refine Subscript_ (ldE F hm (wpAny_UnaryOp (cInt' (neg_int (s := ⟨h, g, d, _, os⟩) ?_))) (by rfl) (by rfl) (by rfl) (by decide))
          exact last' (News.list N hn) hIs hsg (fun t => q t) (by with_unfolding_all rfl)
        have hstp : ledStep ln (ps.map (·.1)) = if ledSaid sg (ln.getD (dots - 1) (0, 0)).1 (ln.getD dots (0, 0)).1 == [21, 30].any (· == sg) then (ln.set (dots - 1) (ln.getD dots (0, 0))).set dots (ln.getD (dots - 1) (0, 0)) else ln := by
          unfold ledStep
          rw [hsg, hdots]
          show (if isSign sg = true then _ else ln) = _
          rw [hsn, if_pos rfl]
        rw [hstp]
        generalize ledSaid sg (ln.getD (dots - 1) (0, 0)).1 (ln.getD dots (0, 0)).1 = sd at F21 ⊢
        obtain ⟨m21, m1, m2, m3, m4, m5, m6, F22⟩ : ∃ m21 : Str → Option Value, m21 "kinds" = some (.ref a) ∧ m21 "line" = some (.ref D) ∧ m21 "dots" = some (.int (dots : Nat) tk12) ∧ m21 "left" = some (.ref al) ∧ m21 "right" = some (.ref ar) ∧ m21 "said" = some (.bool sd) ∧ Fr g' L' h21 m21 := ⟨_, by exact m1, by exact m2, by exact m3, by exact m4, by exact m5, by rfl, F21⟩
        clear F21
        refine wpAny_execs_cons (wpAny_mono (Q := fun fl s' => fl = .next ∧ s' = ⟨h21, g, d, tk21, os⟩) (E := fun _ _ => False) ?_ (fun fl s' hq => ?_) fun _ _ e => e)
        · refine wpAny_If (wpAny_isTrue_BoolOp (wpAny_allTrue_And_cons (wpAny_isTrue_Compare1 (ldE F22 m6 (Constant_bool (wpAny_isNot_plain rfl (wpAny_truthy_bool ?_))) (by rfl) (by rfl) (by rfl) (by decide)) (by rfl))))
          cases sd with
          | true =>
            rw [if_neg (by decide), if_neg (by decide)]
            exact wpAny_execs_nil ⟨rfl, rfl⟩
          | false =>
            rw [if_pos (by decide)]
            refine wpAny_allTrue_And_cons (wpAny_isTrue_Compare1 (ldE F22 m6 (Constant_bool (wpAny_isNot_plain rfl (wpAny_truthy_bool ?_))) (by rfl) (by rfl) (by rfl) (by decide)) (by rfl))
            rw [if_neg (by decide), if_neg (by decide)]
            exact wpAny_execs_nil ⟨rfl, rfl⟩
        obtain ⟨rfl, rfl⟩ := hq
        refine wpAny_execs_cons (wpAny_If (wpAny_isTrue_Compare1 (ldE F22 m6 (wpAny_Compare1 (lastE _ _ _ _ _ _ _ _ _ _ F22 N21 m1 hmemN fun t22 => ?_)) (by rfl) (by rfl) (by rfl) (by decide)) (by rfl)))
        refine Tuple_ (spliced_more (cInt' (spliced_more (cInt' (spliced_none ?_)))))
        refine newTuple' F22 N21 (fun e3 h23 he3 F23 N23 => ?_) (by exact Nat.le_of_ble_eq_true rfl)
        refine inInts' (News.tup N23 (.head _)) (.cons (.cons .nil)) ((alike_bool _ _).is (wpAny_truthy_bool ?_))
        have hDown : ∀ p ∈ own, p.1 ≠ D := hoff D (hne _ (hnb _ hr)).symm ⟨_, .head _⟩
        have hDall : ∀ p ∈ own ++ base, p.1 ≠ D := fun p hp => by
          rcases List.mem_append.mp hp with hp | hp
          · exact hDown p hp
          · exact hne p hp
        replace N23 : News g' L' h23 ((D, listOf ws.toArray n) :: (own ++ base)) := News.sub N23 fun p hp => by
          simp only [List.mem_cons, List.mem_append] at hp ⊢
          rcases hp with h | h | h
          · exact .inr (.inr (.inl h))
          · exact .inr (.inl h)
          · exact .inr (.inr (.inr h))
        have fin : ∀ (Q0 : Flow → Shared → Prop) (h8 : Heap) (tk8 : Nat) (m8 : Str → Option Value) (ws' : List Value) (ln' : List (Int × Nat)), LineIn P base ws' ln' → m8 "line" = some (.ref D) → Fr g' L' h8 m8 → News g' L' h8 ((D, listOf ws'.toArray n) :: (own ++ base)) →
            TEnd g' L' (fun m' news' => ∃ ws n, news' = (D, listOf ws.toArray n) :: base ∧ LineIn P base ws ln' ∧ m' "line" = some (.ref D)) own ((D, listOf ws.toArray n) :: base) Q0 ⟨h, g, d, tk2, os⟩ .next ⟨h8, g, d, tk8, os⟩ := by
          intro Q0 h8 tk8 m8 ws' ln' hws' hm8 F8 N8
          refine TEnd.go' F8 (news' := (D, listOf ws'.toArray n) :: base) (News.sub N8 fun p hp => ?_) (fun q hq => ?_) ⟨ws', n, rfl, hws', hm8⟩
          · simp only [List.mem_cons, List.mem_append] at hp ⊢
            rcases hp with h | h | h
            · exact .inr (.inl h)
            · exact .inl h
            · exact .inr (.inr h)
          · rcases List.mem_cons.mp hq with rfl | hq
            · exact .inl ⟨_, .head _⟩
            · exact .inl ⟨q.2, .tail _ hq⟩
        by_cases hsw : (sd == [21, 30].any (· == sg)) = true
        · rw [if_pos hsw, if_pos hsw]
          refine wpAny_execs_cons (wpAny_If (wpAny_isTrue_BoolOp (wpAny_allTrue_Or_cons (wpAny_isTrue_Compare1 (callE 10 G' hfsi F23 ?_ (by rfl) (by decide) (by rfl) (by rfl) (by rfl) (by rfl) (by rfl) (by decide)) (by rfl)))))
          refine spliced_more (ldE F23 m2 (spliced_more (wpAny_BinOp (ldE F23 m3 (cInt' ?_) (by rfl) (by rfl) (by rfl) (by decide)))) (by rfl) (by rfl) (by rfl) (by decide))
          refine sub' (c := ((dots - 1 : Nat) : Int)) (by omega) (spliced_more (ldE F23 m5 (spliced_none ⟨F23.keep, ?_⟩) (by rfl) (by rfl) (by rfl) (by decide)))
          refine c_setitem (s := ⟨h23, g, d, _, os⟩) G' hfsi r' F23 N23 hDall (by rw [hws.length]; omega) (by omega) fun h24 tk24 _ F24 N24 => ?_
          refine Constant_none (wpAny_isNot_self rfl (wpAny_truthy_bool ?_))
          rw [if_neg (by decide)]
          refine wpAny_allTrue_Or_cons (wpAny_isTrue_Compare1 (callE 10 G' hfsi F24 ?_ (by rfl) (by decide) (by rfl) (by rfl) (by rfl) (by rfl) (by rfl) (by decide)) (by rfl))
          refine spliced_more (ldE F24 m2 (spliced_more (ldE F24 m3 (spliced_more (ldE F24 m4 (spliced_none ⟨F24.keep, ?_⟩) (by rfl) (by rfl) (by rfl) (by decide))) (by rfl) (by rfl) (by rfl) (by decide))) (by rfl) (by rfl) (by rfl) (by decide))
          refine c_setitem (s := ⟨h24, g, d, _, os⟩) G' hfsi r' F24 N24 hDall (by rw [List.length_set, hws.length]; omega) (by omega) fun h25 tk25 _ F25 N25 => ?_
          refine Constant_none (wpAny_isNot_self rfl (wpAny_truthy_bool ?_))
          rw [if_neg (by decide)]
          refine wpAny_allTrue_Or_nil ?_
          rw [if_neg (by decide)]
          refine wpAny_execs_nil (wpAny_execs_nil (wpAny_execs_nil (wpAny_execs_nil ?_)))
          exact fin _ _ _ _ _ _ ((hws.set (dots - 1) hr2 hr3).set dots hl2 hl3) m2 F25 N25
        · rw [if_neg hsw, if_neg hsw]
          refine wpAny_execs_nil (wpAny_execs_nil (wpAny_execs_nil ?_))
          exact fin _ _ _ _ _ _ hws m2 F23 N23
  · simp only [List.mem_cons, List.not_mem_nil, or_false] at hx
    rcases hx with rfl | rfl
    · exact .inl (by rfl)
    · exact .inr ⟨by rfl, by rfl⟩
end
end
end Mine
end
section
open PySem PySem.W PyProof.Rows PySem.Calls
set_option maxRecDepth 100000
set_option maxHeartbeats 2000000
namespace Mine
noncomputable section
theorem Strs.are : ∀ {vs : List Value} {rs : List (List Nat)}, Strs vs rs → StrsAre vs (rs.map S)
  | _, _, .nil => .nil
  | _, _, .cons (r := r) (t := t) a => .cons (S r) t a.are
section
variable {prog : Program} {w : World} {A : Around} {E : Value → Shared → Prop} {h₀ h : Heap} {L : Addr} {m : Str → Option Value} {news rest : List (Addr × Obj)} {g : Array GenState} {d : Drawn} {tk : Nat} {os : OsState} {env : Env}
theorem sliceBoth' {e e2 : Expr} {p : Pos} {Q : Value → Shared → Prop} (q : wpAny (model prog w) A (eval e env) (fun u s₂ => wpAny (model prog w) A (eval e2 env) (fun v s₃ => Q (.ref s₃.heap.objs.size) { s₃ with heap := s₃.heap.push { cls := .type "slice", data := .fields #[u, v, .none] } }) E s₂) E ⟨h, g, d, tk, os⟩) :
    wpAny (model prog w) A (eval (.Slice (some e) (some e2) none p) env) Q E ⟨h, g, d, tk, os⟩ :=
  wpAny_Slice (wpAny_mono q (fun u s₂ x => wpAny_mono x (fun v s₃ y => wpAny_pure y) fun _ _ x => x) fun _ _ x => x)
theorem listRun' {value slice : Expr} {l : Addr} {vs : List Value} {a b : Nat} {i j : Int} {t u : Tok} {Q : Value → Shared → Prop} (F : Fr h₀ L h m) (N : News h₀ L h news) (hl : h.IsList l vs.toArray) (hi : i = (a : Nat)) (hj : j = (b : Nat)) (hab : a ≤ b) (hb : b ≤ vs.length) (hz : vs.length ≤ 1000000)
    (q : ∀ r h', (∀ p ∈ news, p.1 ≠ r) → Fr h₀ L h' m → News h₀ L h' ((r, listOf ((vs.drop a).take (b - a)).toArray 0) :: news) → Q (.ref r) ⟨h', g, d, tk, os⟩)
    (hs : subscripted slice false (.ref l) (.ref h.objs.size) = operate [.ref h.objs.size, .ref l] (getItem (.ref l) (.ref h.objs.size))) :
    wpAny (model prog w) A (subscriptTail value slice (.ref l) (.ref h.objs.size)) Q E ⟨h.push { cls := .type "slice", data := .fields #[.int i t, .int j u, .none] }, g, d, tk, os⟩ := by
  subst hi hj
  refine kba_turn (value' := PySem.Expr.Name (PySem.Str.ofString "_") ⟨0, 0, 0, 0⟩) (fun _ => rfl) ?_
  refine slice_list (s := ⟨h, g, d, tk, os⟩) F N hl (.int _ _) (.int _ _) (fun h' F' N' => ?_) hs (fun _ => rfl) (by rw [List.size_toArray]; exact Nat.le_trans hz (by decide))
  rw [slicePick_run _ a b (by simpa using hb) hab] at N'
  exact q _ h' (fun p hp => Nat.ne_of_lt (Nat.lt_succ_of_lt (Heap.lt_size (N p hp).1))) F' N'
theorem listTo' {value slice : Expr} {l : Addr} {vs : List Value} {b : Nat} {j : Int} {u : Tok} {Q : Value → Shared → Prop} (F : Fr h₀ L h m) (N : News h₀ L h news) (hl : h.IsList l vs.toArray) (hj : j = (b : Nat)) (hz : vs.length ≤ 1000000)
    (q : ∀ r h', (∀ p ∈ news, p.1 ≠ r) → Fr h₀ L h' m → News h₀ L h' ((r, listOf (vs.take b).toArray 0) :: news) → Q (.ref r) ⟨h', g, d, tk, os⟩)
    (hs : subscripted slice false (.ref l) (.ref h.objs.size) = operate [.ref h.objs.size, .ref l] (getItem (.ref l) (.ref h.objs.size))) :
    wpAny (model prog w) A (subscriptTail value slice (.ref l) (.ref h.objs.size)) Q E ⟨h.push { cls := .type "slice", data := .fields #[.none, .int j u, .none] }, g, d, tk, os⟩ := by
  subst hj
  refine kba_turn (value' := PySem.Expr.Name (PySem.Str.ofString "_") ⟨0, 0, 0, 0⟩) (fun _ => rfl) ?_
  refine slice_list (s := ⟨h, g, d, tk, os⟩) F N hl .none (.int _ _) (fun h' F' N' => ?_) hs (fun _ => rfl) (by rw [List.size_toArray]; exact Nat.le_trans hz (by decide))
  rw [slicePick_upto' _ b] at N'
  exact q _ h' (fun p hp => Nat.ne_of_lt (Nat.lt_succ_of_lt (Heap.lt_size (N p hp).1))) F' N'
theorem listFrom' {value slice : Expr} {l : Addr} {vs : List Value} {b : Nat} {j : Int} {u : Tok} {Q : Value → Shared → Prop} (F : Fr h₀ L h m) (N : News h₀ L h news) (hl : h.IsList l vs.toArray) (hj : j = (b : Nat)) (hz : vs.length ≤ 1000000)
    (q : ∀ r h', (∀ p ∈ news, p.1 ≠ r) → Fr h₀ L h' m → News h₀ L h' ((r, listOf (vs.drop b).toArray 0) :: news) → Q (.ref r) ⟨h', g, d, tk, os⟩)
    (hs : subscripted slice false (.ref l) (.ref h.objs.size) = operate [.ref h.objs.size, .ref l] (getItem (.ref l) (.ref h.objs.size))) :
    wpAny (model prog w) A (subscriptTail value slice (.ref l) (.ref h.objs.size)) Q E ⟨h.push { cls := .type "slice", data := .fields #[.int j u, .none, .none] }, g, d, tk, os⟩ := by
  subst hj
  refine kba_turn (value' := PySem.Expr.Name (PySem.Str.ofString "_") ⟨0, 0, 0, 0⟩) (fun _ => rfl) ?_
  refine slice_list (s := ⟨h, g, d, tk, os⟩) F N hl (.int _ _) .none (fun h' F' N' => ?_) hs (fun _ => rfl) (by rw [List.size_toArray]; exact Nat.le_trans hz (by decide))
  rw [slicePick_from' _ b] at N'
  exact q _ h' (fun p hp => Nat.ne_of_lt (Nat.lt_succ_of_lt (Heap.lt_size (N p hp).1))) F' N'
theorem inStrs' {a : Addr} {vs : List Value} {ns : List (List Nat)} {x : List Nat} {u : Tok} {Q : Value → Shared → Prop} (ht : IsTup h a vs.toArray) (hi : Strs vs ns) (q : Q (.bool (ns.any (· == x))) ⟨h, g, d, tk, os⟩) :
    wpAny (model prog w) A (compareOp .In (.str (S x) u) (.ref a)) Q E ⟨h, g, d, tk, os⟩ := by
  show wpAny _ A (do return .bool (← contains (.ref a) (.str (S x) u))) Q E _
  have e : (ns.map S).any (· == S x) = ns.any (· == x) := by
    rw [List.any_map]
    congr 1
    funext y
    rw [Bool.eq_iff_iff]
    show (S y == S x) = true ↔ _
    rw [beq_iff_eq, beq_iff_eq]
    exact S_inj
  exact wpAny_bind (contains_tuple_strs ht (by simpa using hi.are) (wpAny_pure (by rw [e]; exact q)))
end
end
end Mine
end
section
open PySem PySem.W PyProof.Rows PySem.Calls
set_option maxRecDepth 100000
set_option maxHeartbeats 2000000
namespace Mine
noncomputable section
def walkStep (line : List (Int × Nat)) (r : List Nat) : List (Int × Nat) :=
  if [[60], [60, 61], [62], [62, 61]].any (· == r.drop (r.count 46)) then
    if decide ((line.getD (r.count 46) (0, 0)).1 < (line.getD (r.count 46 - 1) (0, 0)).1) || (((line.getD (r.count 46 - 1) (0, 0)).1 == (line.getD (r.count 46) (0, 0)).1) && [[60], [62, 61]].any (· == r.drop (r.count 46))) then
      line.take (r.count 46 - 1) ++ [line.getD (r.count 46) (0, 0), line.getD (r.count 46 - 1) (0, 0)] ++ line.drop (r.count 46 + 1)
    else line
  else line
def WalkOk (len : Nat) (r : List Nat) : Prop := r.length ≤ 1000 ∧ ([[60], [60, 61], [62], [62, 61]].any (· == r.drop (r.count 46)) = true → 1 ≤ r.count 46 ∧ r.count 46 < len)
theorem pair_eq {α : Type} {vs : List α} {j : Nat} {x y : α} (h0 : 1 ≤ j) (hx : vs[j - 1]? = some x) (hy : vs[j]? = some y) : (vs.drop (j - 1)).take (j + 1 - (j - 1)) = [x, y] := by
  obtain ⟨i, rfl⟩ : ∃ i, j = i + 1 := ⟨j - 1, by omega⟩
  simp only [Nat.add_sub_cancel] at hx ⊢
  have e : i + 1 + 1 - i = 2 := by omega
  rw [e]
  obtain ⟨h1, rfl⟩ := List.getElem?_eq_some_iff.mp hx
  obtain ⟨h2, rfl⟩ := List.getElem?_eq_some_iff.mp hy
  rw [List.drop_eq_getElem_cons h1, List.drop_eq_getElem_cons h2]
  rfl
theorem walkStep_len (line : List (Int × Nat)) (r : List Nat) (h : WalkOk line.length r) : (walkStep line r).length = line.length := by
  unfold walkStep
  split
  · rename_i hs
    obtain ⟨h1, h2⟩ := h.2 hs
    split
    · simp only [List.length_append, List.length_take, List.length_drop, List.length_cons, List.length_nil]; omega
    · rfl
  · rfl
theorem walk_len : ∀ (rows : List (List Nat)) (line : List (Int × Nat)), (∀ r ∈ rows, WalkOk line.length r) → (rows.foldl walkStep line).length = line.length
  | [], _, _ => rfl
  | r :: rs, line, h => by
    have h1 := walkStep_len line r (h r (.head _))
    rw [List.foldl_cons, walk_len rs _ fun q hq => by rw [h1]; exact h q (.tail _ hq), h1]
section
variable {w : World} {mg mb : Str → Option Value} {A : Around} {E : Value → Shared → Prop} {h₀ h : Heap} {L : Addr} {m : Str → Option Value} {news rest : List (Addr × Obj)} {g : Array GenState} {d : Drawn} {tk : Nat} {os : OsState}
theorem c_walked {Q : Value → Shared → Prop} {f pl ga : Addr} {np ng : Nat} {pvs gv : List Value} {rows : List (List Nat)} {gs : List Int} {P : Tok → Prop} (G : Gd w mg mb h₀) (hf : mg "_law_walked" = some (.ref f)) (rm : Rm 2 A) (F : Fr h₀ L h m) (N : News h₀ L h news)
    (hr : (pl, listOf pvs.toArray np) ∈ news) (hrs : Strs pvs rows) (hg : (ga, listOf gv.toArray ng) ∈ news) (hgs : IntsP P gv gs) (hz : gs.length ≤ 100) (hok : ∀ r ∈ rows, WalkOk gs.length r)
    (k : ∀ l n ws ex h' tk', LineIn P ex ws (rows.foldl walkStep (line0 gs)) → (∀ p ∈ ex ++ news, p.1 ≠ l) → Fr h₀ L h' m → News h₀ L h' ((l, listOf ws.toArray n) :: (ex ++ news)) → Q (.ref l) ⟨h', g, d, tk', os⟩) :
    wpAny (model p0 w) A (call (.ref f) [.ref pl, .ref ga]) Q E ⟨h, g, d, tk, os⟩ := by
  refine enterC' 73 1 [("plan", .ref pl), ("given", .ref ga)] G hf rm F N (fun A' g' L' h₁ tk1 cd cells up hT1 r' G' F' N' ap X => ?_) (by intros; rfl) (fun n x hx => ?_) (by decide +kernel) (by decide) (by rfl) (by rfl) (by rfl) (by rfl)
  · clear F N
    obtain ⟨o1, rfl, d1⟩ := CellsAre.one X
    have hc1 : (evC 73 L' f cd).cells.lookup (Str.ofString "given") = some (L' + 1) := by rfl
    have d1' : o1.data = .cell (some (.ref ga)) := d1
    clear X d1 up
    have hgl := hgs.length
    refine wpAny_execs_cons ?_
    refine comp_assign (cl := [("given", L' + 1)]) ?hsw ?hclos ?_ (by intro _; rfl) (by rfl) ?hnames
    case hsw => rfl
    case hclos => rfl
    case hnames => decide
    refine Call_ (bltE G' F' (by simp) (by decide) boot_range ?_ (by rfl) (by rfl) (by rfl) (by rfl) (by decide))
    refine callWith_type1 ?_ (by rfl) (by rfl)
    refine spliced_more (Call_ (bltE G' F' (by simp) (by decide) boot_len ?_ (by rfl) (by rfl) (by rfl) (by rfl) (by decide)))
    refine callWith_builtin1 ?_ (by rfl) (by rfl)
    refine spliced_more (cellE ⟨o1, (N' _ (.head _)).1, d1'⟩ ?_ hc1 (by rfl) (by rfl) (by decide))
    refine spliced_none (len' (News.list N' (.tail _ hg)) (by omega) fun t2 tk2 => spliced_none ?_)
    refine range1' F' N' fun r h3 tk3 t3 u3 v3 hr3 F3 N3 => ?_
    refine compRU (a := 0) (n := gs.length) (b := gs.length) (by rfl) (by decide) (by rfl) r'.hh (by rw [hgl] at hr3; exact hr3) (by omega) (by omega) (by omega) F3 N3 (by rfl) (by rfl) (fun i ys ex => LineIn P ex ys ((line0 gs).take i)) .nil (fun C g₁ D up E' i ti ys ex h tk m₁ own k hi hJ hlen F6 N6 => ?_) (fun D ys ex h' tk' k' hJ hlen hne F6 N6 => ?_)
    · have hgl3 := News.list N3 (.tail _ hg)
      have hgl6 : h.IsList ga gv.toArray := hgl3.at fun o e => F6.keep _ _ (up _ _ e)
      obtain ⟨tx, htx, hPx⟩ := hgs.get (i := 0 + i) (by omega)
      refine Tuple_ (spliced_more (Subscript_ (cellE ⟨o1, F6.keep _ _ (up _ _ (N3 _ (.head _)).1), d1'⟩ ?_ (by rfl) (by rfl) (by rfl) (by decide))))
      refine ldE F6 (by rfl) ?_ (by rfl) (by rfl) (by rfl) (by decide)
      refine item' hgl6 (by omega) htx ?_ (by with_unfolding_all rfl)
      refine spliced_more (ldE F6 (by rfl) (spliced_none ?_) (by rfl) (by rfl) (by rfl) (by decide))
      refine newTuple' F6 N6 (fun T h7 hT7 F7 N7 => ?_) (by exact Nat.le_of_ble_eq_true rfl)
      refine ⟨h7, _, _, (T, tupO [.int (gs.getD (0 + i) 0) tx, .int ((0 + i : Nat) : Int) ti]) :: ex, rfl, F7, News.sub N7 fun p hp => ?_, fun p hp => ?_, ?_⟩
      · simp only [List.mem_cons, List.mem_append] at hp ⊢
        rcases hp with h | h | h | h
        · exact .inr (.inl h)
        · exact .inr (.inr (.inl h))
        · exact .inl h
        · exact .inr (.inr (.inr h))
      · rcases List.mem_cons.mp hp with rfl | hp
        · exact .inr (.inr hT7)
        · exact .inl ⟨p.2, hp⟩
      · rw [line0_take gs i hi]
        have e0 : 0 + i = i := Nat.zero_add i
        rw [e0]
        exact (hJ.mono fun p hp => .tail _ hp).append (.cons (.head _) hPx .nil)
    have hl0 : (line0 gs).length = gs.length := by simp [line0]
    rw [← hl0, List.take_length] at hJ
    clear F' N' F3 N3 hr3
    generalize hbase : ex ++ ([(L' + 1, o1)] ++ news) = base at N6 hne
    replace hJ : LineIn P base ys (line0 gs) := hJ.mono fun p hp => by rw [← hbase]; exact List.mem_append_left _ hp
    have hnb : ∀ p ∈ news, p ∈ base := fun p hp => by rw [← hbase]; exact List.mem_append_right _ (.tail _ hp)
    refine wpAny_execs_cons (For_invV g' (by rfl) (by rfl) ?_ (by intro _; rfl) (by passes_own))
    refine ldE F6 (by rfl) ?_ (by rfl) (by rfl) (by rfl) (by decide)
    refine list' (fun i m' news' => ∃ D ws n, news' = (D, listOf ws.toArray n) :: base ∧ (∀ p ∈ base, p.1 ≠ D) ∧ LineIn P base ws ((rows.take i).foldl walkStep (line0 gs)) ∧ m' "line" = some (.ref D)) r'.hh (News.list N6 (.tail _ (hnb _ hr))) F6 N6 ⟨D, ys, k', rfl, hne, hJ, by rfl⟩ ?turn ?done
    case done =>
      rintro m₁ news₁ h tk2 ⟨D, ws, n, rfl, hne, hws, h1⟩ F7 N7
      refine wpAny_execs_cons (wpAny_Return_some ?_)
      refine ldE F7 h1 ?_ (by rfl) (by rfl) (by rfl) (by decide)
      rw [hrs.length, List.take_length] at hws
      refine ⟨_, _, _, F7, News.sub N7 (news' := (D, listOf ws.toArray n) :: (base ++ news)) fun p hp => ?_, fun F N => k D n ws base h tk2 hws (fun p hp => ?_) F N⟩
      · rcases List.mem_cons.mp hp with rfl | hp
        · exact .head _
        · rcases List.mem_append.mp hp with hp | hp
          · exact .tail _ hp
          · exact .tail _ (hnb _ hp)
      · rcases List.mem_append.mp hp with hp | hp
        · exact hne p hp
        · exact hne p (hnb _ hp)
    case turn =>
      rintro i v m₁ news₁ h tk2 own hv ⟨D, ws, n, rfl, hne, hws, h1⟩ hoff F7 N7
      obtain ⟨r, tr, hri, rfl⟩ := hrs.get hv
      obtain ⟨hz1, hok1⟩ := hok r (List.mem_of_getElem? hri)
      have hstep : (rows.take (i + 1)).foldl walkStep (line0 gs) = walkStep ((rows.take i).foldl walkStep (line0 gs)) r := by
        rw [List.take_add_one, hri, List.foldl_append]
        rfl
      have hlen0 : ((rows.take i).foldl walkStep (line0 gs)).length = gs.length := (walk_len _ _ fun q hq => by rw [hl0]; exact hok q (List.mem_of_mem_take hq)).trans hl0
      rw [hstep]
      generalize (rows.take i).foldl walkStep (line0 gs) = ln at hws hlen0 ⊢
      have hcl : r.count 46 ≤ r.length := List.count_le_length
      have hDown : ∀ p ∈ own, p.1 ≠ D := hoff D (hne _ (hnb _ hr)).symm ⟨_, .head _⟩
      have stay : ∀ (Q0 : Flow → Shared → Prop) (h8 : Heap) (tk8 : Nat) (m8 : Str → Option Value), walkStep ln r = ln → m8 "line" = some (.ref D) → Fr g' L' h8 m8 → News g' L' h8 (own ++ (D, listOf ws.toArray n) :: base) →
          TEnd g' L' (fun m' news' => ∃ D ws n, news' = (D, listOf ws.toArray n) :: base ∧ (∀ p ∈ base, p.1 ≠ D) ∧ LineIn P base ws (walkStep ln r) ∧ m' "line" = some (.ref D)) own ((D, listOf ws.toArray n) :: base) Q0 ⟨h, g, d, tk2, os⟩ .next ⟨h8, g, d, tk8, os⟩ := by
        intro Q0 h8 tk8 m8 he hm8 F8 N8
        exact TEnd.go' F8 (news' := (D, listOf ws.toArray n) :: base) N8 (fun q hq => .inl ⟨q.2, hq⟩) ⟨D, ws, n, rfl, hne, by rw [he]; exact hws, hm8⟩
      refine wpAny_execs_cons (wpAny_Assign_Name ?_)
      refine MethodCall_ (ldE F7 (by rfl) (GM.count ?_) (by rfl) (by rfl) (by rfl) (by decide))
      refine callWith_method1 ?_ (by rfl) (by rfl)
      refine spliced_more (cStr' (spliced_none ?_))
      refine count' (by exact dot_S) fun t8 tk8 => ?_
      refine stE F7 N7 (fun h9 F9 N9 => ?_) (by rfl) (by rfl) (by rfl)
      obtain ⟨m9, m1, m2, m3, F9⟩ : ∃ m9 : Str → Option Value, m9 "row" = some (.str (S r) tr) ∧ m9 "line" = some (.ref D) ∧ m9 "dots" = some (.int (r.count 46 : Nat) t8) ∧ Fr g' L' h9 m9 := ⟨_, by rfl, by exact h1, by rfl, F9⟩
      clear F7 N7
      have rest : ∀ (h : Heap) (tk : Nat) (m : Str → Option Value) (nw : List (Addr × Obj)) (p1 p2 p3 p4 : Pos) (Q : Value → Shared → Prop), Fr g' L' h m → News g' L' h nw → m "row" = some (.str (S r) tr) → m "dots" = some (.int (r.count 46 : Nat) t8) → (∀ h' t tk', Fr g' L' h' m → News g' L' h' nw → Q (.str (S (r.drop (r.count 46))) t) ⟨h', g, d, tk', os⟩) →
          wpAny (model p0 w) A' (eval (.Subscript (.Name "row" p1) (.Slice (some (.Name "dots" p2)) none none p3) p4) (evC 73 L' f cd)) Q (fun _ _ => False) ⟨h, g, d, tk, os⟩ := by
        intro h tk m nw p1 p2 p3 p4 Q F N hm hn q
        refine Subscript_ (ldE F hm (sliceFrom' (ldE F hn ?_ (by rfl) (by rfl) (by rfl) (by decide))) (by rfl) (by rfl) (by rfl) (by decide))
        exact strFrom' F N rfl (by omega) (fun h' tk' t' F' N' => q h' t' tk' F' N') (by with_unfolding_all rfl)
      refine wpAny_execs_cons (wpAny_If (wpAny_isTrue_Compare1 (rest _ _ _ _ _ _ _ _ _ F9 N9 m1 m3 fun h10 t10 tk10 F10 N10 => ?_) (by rfl)))
      refine Tuple_ (spliced_more (cStr' (spliced_more (cStr' (spliced_more (cStr' (spliced_more (cStr' (spliced_none ?_)))))))))
      refine newTuple' F10 N10 (fun e1 h11 he1 F11 N11 => ?_) (by exact Nat.le_of_ble_eq_true rfl)
      have e1 : Str.ofString "<" = S [60] := by decide +kernel
      have e2 : Str.ofString "<=" = S [60, 61] := by decide +kernel
      have e3 : Str.ofString ">" = S [62] := by decide +kernel
      have e4 : Str.ofString ">=" = S [62, 61] := by decide +kernel
      rw [e1, e2, e3, e4] at N11
      refine inStrs' (News.tup N11 (.head _)) (ns := [[60], [60, 61], [62], [62, 61]]) (.cons (.cons (.cons (.cons .nil)))) (wpAny_truthy_bool ?_)
      replace N11 : News g' L' h11 (own ++ (D, listOf ws.toArray n) :: base) := News.sub N11 fun p hp => .tail _ hp
      cases hsn : ([[60], [60, 61], [62], [62, 61]] : List (List Nat)).any (· == r.drop (r.count 46)) with
      | false =>
        rw [if_neg (by decide)]
        refine wpAny_execs_nil (wpAny_execs_nil (stay _ _ _ _ ?_ m2 F11 N11))
        unfold walkStep
        rw [hsn, if_neg (by decide)]
      | true =>
        rw [if_pos rfl]
        obtain ⟨hd1, hd2⟩ := hok1 hsn
        clear F9 N9 F10 N10 he1
        generalize hdots : r.count 46 = dots at m3 hd1 hd2 rest
        have hDm : (D, listOf ws.toArray n) ∈ own ++ (D, listOf ws.toArray n) :: base := List.mem_append_right _ (.head _)
        obtain ⟨al, tl, ul, hl1, hl2, hl3⟩ := hws.get (j := dots - 1) (by omega)
        obtain ⟨ar, ta, ur, hr1, hr2, hr3⟩ := hws.get (j := dots) (by omega)
        have hwl := hws.length
        refine wpAny_execs_cons (wpAny_Assign_Name (Subscript_ (ldE F11 m2 (sliceBoth' (wpAny_BinOp (ldE F11 m3 (cInt' ?_) (by rfl) (by rfl) (by rfl) (by decide)))) (by rfl) (by rfl) (by rfl) (by decide))))
        refine sub' (c := ((dots - 1 : Nat) : Int)) (by omega) (wpAny_BinOp (ldE F11 m3 (cInt' ?_) (by rfl) (by rfl) (by rfl) (by decide)))
        refine add' (c := ((dots + 1 : Nat) : Int)) (by omega) ?_
        refine listRun' F11 N11 (News.list N11 hDm) rfl rfl (by omega) (by omega) (by omega) (fun pr h12 hpr F12 N12 => ?_) (by with_unfolding_all rfl)
        rw [pair_eq hd1 hl1 hr1] at N12
        refine stE F12 N12 (fun h13 F13 N13 => ?_) (by rfl) (by rfl) (by rfl)
        obtain ⟨m13, m1, m2, m3, m4, F14⟩ : ∃ m13 : Str → Option Value, m13 "row" = some (.str (S r) tr) ∧ m13 "line" = some (.ref D) ∧ m13 "dots" = some (.int (dots : Nat) t8) ∧ m13 "pair" = some (.ref pr) ∧ Fr g' L' h13 m13 := ⟨_, by exact m1, by exact m2, by exact m3, by rfl, F13⟩
        clear F11 N11 F12 N12 F13
        generalize hnw : (pr, listOf [Value.ref al, Value.ref ar].toArray 0) :: (own ++ (D, listOf ws.toArray n) :: base) = nw at N13
        have hpm : (pr, listOf [Value.ref al, Value.ref ar].toArray 0) ∈ nw := by rw [← hnw]; exact .head _
        have hLm : (al, tupO [.int (ln.getD (dots - 1) (0, 0)).1 tl, .int ((ln.getD (dots - 1) (0, 0)).2 : Nat) ul]) ∈ nw := by rw [← hnw]; exact .tail _ (List.mem_append_right _ (.tail _ hl2))
        have hRm : (ar, tupO [.int (ln.getD dots (0, 0)).1 ta, .int ((ln.getD dots (0, 0)).2 : Nat) ur]) ∈ nw := by rw [← hnw]; exact .tail _ (List.mem_append_right _ (.tail _ hr2))
        have pL : ∀ (h : Heap) (tk : Nat) (p1 p2 p3 p4 p5 : Pos) (b1 b2 : Nat) (Q : Value → Shared → Prop), Fr g' L' h m13 → News g' L' h nw → Q (.int (ln.getD (dots - 1) (0, 0)).1 tl) ⟨h, g, d, tk + 1 + 1, os⟩ →
            wpAny (model p0 w) A' (eval (.Subscript (.Subscript (.Name "pair" p1) (.Constant (.int 0) b1 p2) p3) (.Constant (.int 0) b2 p4) p5) (evC 73 L' f cd)) Q (fun _ _ => False) ⟨h, g, d, tk, os⟩ := by
          intro h tk p1 p2 p3 p4 p5 b1 b2 Q F N q
          refine Subscript_ (Subscript_ (ldE F m4 (cInt' ?_) (by rfl) (by rfl) (by rfl) (by decide)))
          refine item' (k := 0) (News.list N hpm) (by decide) rfl (cInt' ?_) (by with_unfolding_all rfl)
          exact itemT' (News.tup N hLm) (k := 0) rfl (by decide) rfl q (by with_unfolding_all rfl)
        have pR : ∀ (h : Heap) (tk : Nat) (p1 p2 p3 p4 p5 : Pos) (b1 b2 : Nat) (Q : Value → Shared → Prop), Fr g' L' h m13 → News g' L' h nw → Q (.int (ln.getD dots (0, 0)).1 ta) ⟨h, g, d, tk + 1 + 1, os⟩ →
            wpAny (model p0 w) A' (eval (.Subscript (.Subscript (.Name "pair" p1) (.Constant (.int 1) b1 p2) p3) (.Constant (.int 0) b2 p4) p5) (evC 73 L' f cd)) Q (fun _ _ => False) ⟨h, g, d, tk, os⟩ := by
          intro h tk p1 p2 p3 p4 p5 b1 b2 Q F N q
          refine Subscript_ (Subscript_ (ldE F m4 (cInt' ?_) (by rfl) (by rfl) (by rfl) (by decide)))
          refine item' (k := 1) (News.list N hpm) (by decide) rfl (cInt' ?_) (by with_unfolding_all rfl)
          exact itemT' (News.tup N hRm) (k := 0) rfl (by decide) rfl q (by with_unfolding_all rfl)
        have hstp : walkStep ln r = if decide ((ln.getD dots (0, 0)).1 < (ln.getD (dots - 1) (0, 0)).1) || (((ln.getD (dots - 1) (0, 0)).1 == (ln.getD dots (0, 0)).1) && [[60], [62, 61]].any (· == r.drop dots)) then ln.take (dots - 1) ++ [ln.getD dots (0, 0), ln.getD (dots - 1) (0, 0)] ++ ln.drop (dots + 1) else ln := by
          unfold walkStep
          rw [hsn, if_pos rfl, hdots]
        refine wpAny_execs_cons (wpAny_If (wpAny_mono (Q := fun b s' => b = (decide ((ln.getD dots (0, 0)).1 < (ln.getD (dots - 1) (0, 0)).1) || (((ln.getD (dots - 1) (0, 0)).1 == (ln.getD dots (0, 0)).1) && [[60], [62, 61]].any (· == r.drop dots))) ∧ ∃ h' tk', s' = ⟨h', g, d, tk', os⟩ ∧ Fr g' L' h' m13 ∧ News g' L' h' nw) (E := fun _ _ => False) ?_ (fun b s' hq => ?_) fun _ _ e => e))
        · refine wpAny_isTrue_BoolOp (wpAny_allTrue_Or_cons (wpAny_isTrue_Compare1 (pL _ _ _ _ _ _ _ _ _ _ F14 N13 (pR _ _ _ _ _ _ _ _ _ _ F14 N13 (gt_int (wpAny_truthy_bool ?_)))) (by rfl)))
          by_cases hlt : (ln.getD dots (0, 0)).1 < (ln.getD (dots - 1) (0, 0)).1
          · rw [decide_eq_true hlt, if_pos rfl]
            exact ⟨rfl, _, _, rfl, F14, N13⟩
          rw [decide_eq_false hlt, if_neg (by decide), Bool.false_or]
          refine wpAny_allTrue_Or_cons (wpAny_isTrue_BoolOp (wpAny_allTrue_And_cons (wpAny_isTrue_Compare1 (pL _ _ _ _ _ _ _ _ _ _ F14 N13 (pR _ _ _ _ _ _ _ _ _ _ F14 N13 (eq_int (wpAny_truthy_bool ?_)))) (by rfl))))
          cases heq : (ln.getD (dots - 1) (0, 0)).1 == (ln.getD dots (0, 0)).1 with
          | false =>
            rw [if_neg (by decide), if_neg (by decide)]
            exact wpAny_allTrue_Or_nil ⟨rfl, _, _, rfl, F14, N13⟩
          | true =>
            rw [if_pos rfl, Bool.true_and]
            refine wpAny_allTrue_And_cons (wpAny_isTrue_Compare1 (rest _ _ _ _ _ _ _ _ _ F14 N13 m1 m3 fun h15 t15 tk15 F15 N15 => ?_) (by rfl))
            refine Tuple_ (spliced_more (cStr' (spliced_more (cStr' (spliced_none ?_)))))
            refine newTuple' F15 N15 (fun e5 h16 he5 F16 N16 => ?_) (by exact Nat.le_of_ble_eq_true rfl)
            rw [e1, e4] at N16
            refine inStrs' (News.tup N16 (.head _)) (ns := [[60], [62, 61]]) (.cons (.cons .nil)) (wpAny_truthy_bool ?_)
            replace N16 : News g' L' h16 nw := News.sub N16 fun p hp => .tail _ hp
            cases hin : ([[60], [62, 61]] : List (List Nat)).any (· == r.drop dots) with
            | false =>
              rw [if_neg (by decide), if_neg (by decide)]
              exact wpAny_allTrue_Or_nil ⟨rfl, _, _, rfl, F16, N16⟩
            | true =>
              rw [if_pos rfl]
              refine wpAny_allTrue_And_nil ?_
              rw [if_pos rfl]
              exact ⟨rfl, _, _, rfl, F16, N16⟩
        obtain ⟨rfl, h17, tk17, rfl, F17, N17⟩ := hq
        clear F14 N13 pL pR rest
        by_cases hsw : (decide ((ln.getD dots (0, 0)).1 < (ln.getD (dots - 1) (0, 0)).1) || (((ln.getD (dots - 1) (0, 0)).1 == (ln.getD dots (0, 0)).1) && [[60], [62, 61]].any (· == r.drop dots))) = true
        · rw [if_pos hsw]
          rw [if_pos hsw] at hstp
          have hDn : (D, listOf ws.toArray n) ∈ nw := by rw [← hnw]; exact .tail _ hDm
          refine wpAny_execs_cons (wpAny_Assign_Name (wpAny_BinOp (wpAny_BinOp (Subscript_ (ldE F17 m2 (sliceTo' (wpAny_BinOp (ldE F17 m3 (cInt' ?_) (by rfl) (by rfl) (by rfl) (by decide)))) (by rfl) (by rfl) (by rfl) (by decide))))))
          refine sub' (c := ((dots - 1 : Nat) : Int)) (by omega) ?_
          refine listTo' F17 N17 (News.list N17 hDn) rfl (by omega) (fun r1 h18 hr18 F18 N18 => ?_) (by with_unfolding_all rfl)
          refine List_ (spliced_more (Subscript_ (ldE F18 m4 (cInt' ?_) (by rfl) (by rfl) (by rfl) (by decide))))
          refine item' (k := 1) (News.list N18 (.tail _ hpm)) (by decide) rfl ?_ (by with_unfolding_all rfl)
          refine spliced_more (Subscript_ (ldE F18 m4 (cInt' ?_) (by rfl) (by rfl) (by rfl) (by decide)))
          refine item' (k := 0) (News.list N18 (.tail _ hpm)) (by decide) rfl (spliced_none ?_) (by with_unfolding_all rfl)
          refine newList' F18 N18 (fun r2 h19 hr19 F19 N19 => ?_) (by exact Nat.le_of_ble_eq_true rfl)
          refine addL' F19 N19 (News.list N19 (.tail _ (.head _))) (News.list N19 (.head _)) (by simp only [List.length_take, List.length_cons, List.length_nil]; omega) fun r3 h20 hr20 F20 N20 => ?_
          refine Subscript_ (ldE F20 m2 (sliceFrom' (wpAny_BinOp (ldE F20 m3 (cInt' ?_) (by rfl) (by rfl) (by rfl) (by decide)))) (by rfl) (by rfl) (by rfl) (by decide))
          refine add' (c := ((dots + 1 : Nat) : Int)) (by omega) ?_
          refine listFrom' F20 N20 (News.list N20 (.tail _ (.tail _ (.tail _ hDn)))) rfl (by omega) (fun r4 h21 hr21 F21 N21 => ?_) (by with_unfolding_all rfl)
          refine addL' F21 N21 (News.list N21 (.tail _ (.head _))) (News.list N21 (.head _)) (by simp only [List.length_append, List.length_take, List.length_drop, List.length_cons, List.length_nil]; omega) fun r5 h22 hr22 F22 N22 => ?_
          refine stE F22 N22 (fun h23 F23 N23 => ?_) (by rfl) (by rfl) (by rfl)
          have hr5 : ∀ p ∈ own ++ (D, listOf ws.toArray n) :: base, p.1 ≠ r5 := fun p hp => hr22 p (.tail _ (.tail _ (.tail _ (.tail _ (by rw [← hnw]; exact .tail _ hp)))))
          refine wpAny_execs_nil (wpAny_execs_nil (wpAny_execs_nil ?_))
          refine TEnd.go' F23 (news' := (r5, listOf (ws.take (dots - 1) ++ [Value.ref ar, Value.ref al] ++ ws.drop (dots + 1)).toArray 0) :: base) (News.sub N23 fun p hp => ?_) (fun q hq => ?_) ⟨r5, _, 0, rfl, fun p hp => hr5 p (List.mem_append_right _ (.tail _ hp)), ?_, by rfl⟩
          · rw [← hnw]
            simp only [List.mem_cons, List.mem_append] at hp ⊢
            rcases hp with h | h | h
            · exact .inr (.inr (.inr (.inr (.inr (.inr (.inl h))))))
            · exact .inl h
            · exact .inr (.inr (.inr (.inr (.inr (.inr (.inr (.inr h)))))))
          · rcases List.mem_cons.mp hq with rfl | hq
            · exact .inr (.inr fun p hp => hr5 p (List.mem_append_left _ hp))
            · exact .inl ⟨q.2, .tail _ hq⟩
          · rw [hstp]
            exact ((hws.take (dots - 1)).append (.cons hr2 hr3 (.cons hl2 hl3 .nil))).append (hws.drop (dots + 1))
        · rw [if_neg hsw]
          rw [if_neg hsw] at hstp
          refine wpAny_execs_nil (wpAny_execs_nil (wpAny_execs_nil (stay _ _ _ _ hstp m2 F17 (News.sub N17 fun p hp => by rw [← hnw]; exact .tail _ hp))))
  · simp only [List.mem_cons, List.not_mem_nil, or_false] at hx
    rcases hx with rfl | rfl
    · exact .inl (by rfl)
    · exact .inr ⟨by rfl, by rfl⟩
end
end
end Mine
end
section
open PySem PySem.W PyProof.Rows PySem.Calls
set_option maxRecDepth 100000
set_option maxHeartbeats 2000000
namespace Mine
noncomputable section
theorem fixL_app : ∀ (a b : List Nat), (∀ r, b ≠ 10 :: r) → fixL (a ++ b) = fixL a ++ fixL b := by
  intro a
  induction a using fixL.induct with
  | case1 => intro b _; rfl
  | case2 r ih =>
    intro b hb
    show 13 :: 10 :: fixL (r ++ b) = _
    rw [ih b hb]; rfl
  | case3 c r h hc ih =>
    intro b hb
    rw [fixL.eq_3 c r h, if_pos hc]
    show fixL (c :: (r ++ b)) = _
    rw [fixL.eq_3 c (r ++ b) (fun t e1 e2 => by
      cases r with
      | nil => exact hb t e2
      | cons x xs => exact h xs e1 (by rw [List.cons_append] at e2; rw [(List.cons.inj e2).1])), if_pos hc, ih b hb]
    rfl
  | case4 c r h hc ih =>
    intro b hb
    rw [fixL.eq_3 c r h, if_neg hc]
    show fixL (c :: (r ++ b)) = _
    rw [fixL.eq_3 c (r ++ b) (fun t e1 e2 => by
      cases r with
      | nil => exact hb t e2
      | cons x xs => exact h xs e1 (by rw [List.cons_append] at e2; rw [(List.cons.inj e2).1])), if_neg hc, ih b hb]
    rfl
theorem dot_free : ∀ (t v : List Nat), 10 ∉ t → dotG false (t ++ v) = t ++ dotG false v
  | [], _, _ => rfl
  | c :: t, v, h => by
    have hc : (c == 10) = false := beq_eq_false_iff_ne.mpr fun e => h (e ▸ .head _)
    show (if false && c == 46 then _ else c :: dotG (c == 10) (t ++ v)) = _
    rw [hc, dot_free t v fun q => h (.tail _ q)]
    rfl
theorem dot_rows : ∀ rows : List (List Nat), (∀ r ∈ rows, 10 ∉ r) → dotG true (flatR rows) = flatR (rows.map dotRow)
  | [], _ => rfl
  | r :: rs, h => by
    have ih := dot_rows rs fun q hq => h q (.tail _ hq)
    have e1 : flatR (r :: rs) = r ++ (13 :: 10 :: flatR rs) := by simp [flatR]
    have e2 : flatR ((r :: rs).map dotRow) = dotRow r ++ (13 :: 10 :: flatR (rs.map dotRow)) := by simp [flatR]
    have e3 : ∀ v, dotG false (13 :: 10 :: v) = 13 :: 10 :: dotG true v := fun v => rfl
    rw [e1, e2]
    cases r with
    | nil =>
      show dotG true (13 :: 10 :: flatR rs) = 13 :: 10 :: flatR (rs.map dotRow)
      have : dotG true (13 :: 10 :: flatR rs) = 13 :: 10 :: dotG true (flatR rs) := rfl
      rw [this, ih]
    | cons c t =>
      have hc : (c == 10) = false := beq_eq_false_iff_ne.mpr fun e => h _ (.head _) (e ▸ .head _)
      have ht : 10 ∉ t := fun q => h _ (.head _) (.tail _ q)
      show (if true && c == 46 then 46 :: 46 :: dotG false (t ++ (13 :: 10 :: flatR rs)) else c :: dotG (c == 10) (t ++ (13 :: 10 :: flatR rs))) = _
      rw [hc, dot_free t _ ht, e3, ih]
      by_cases h46 : c = 46
      · subst h46
        have e5 : dotRow (46 :: t) = 46 :: 46 :: t := if_pos rfl
        rw [e5]
        rfl
      · have e4 : (true && c == 46) = false := by simpa using h46
        have e5 : dotRow (c :: t) = c :: t := if_neg (by simpa using h46)
        rw [e5, e4, if_neg (by decide)]
        rfl
/-- a block: low, size, way -/
abbrev Blk := Nat × Nat × Nat
def OkB (b : Blk) : Prop := 1 ≤ b.1 ∧ 1 ≤ b.2.1 ∧ b.1 + b.2.1 ≤ 5
def mailT (bs : List Blk) : List Nat := bs.flatMap fun b => growT b.1 b.2.2 b.2.1
def planT (bs : List Blk) : List (List Nat) := bs.flatMap fun b => planL b.1 b.2.1 b.2.2
theorem endAt_cg {k k' : Nat} (h : k % 12 = k' % 12) : endAt k = endAt k' := by unfold endAt; rw [show k % 3 = k' % 3 by omega]
theorem signAt_cg {k k' : Nat} (h : k % 12 = k' % 12) : signAt k = signAt k' := by unfold signAt; rw [show k % 4 = k' % 4 by omega]
theorem rowT_cg {low k k' : Nat} (h : k % 12 = k' % 12) : rowT low k = rowT low k' := by unfold rowT; rw [endAt_cg h, signAt_cg h]
theorem growT_cg {low w w' : Nat} (h : w % 12 = w' % 12) : ∀ i, growT low w i = growT low w' i
  | 0 => by
    show headT w = headT w'
    unfold headT
    rw [show w % 2 = w' % 2 by omega, endAt_cg h, endAt_cg (k := w + 1) (k' := w' + 1) (by omega)]
  | i + 1 => by
    show (if i = 0 then growT low w i else quoteL (growT low w i)) ++ rowT low (w + i) = (if i = 0 then growT low w' i else quoteL (growT low w' i)) ++ rowT low (w' + i)
    rw [growT_cg h i, rowT_cg (k := w + i) (k' := w' + i) (by omega)]
theorem planL_cg {low size w w' : Nat} (h : w % 12 = w' % 12) : planL low size w = planL low size w' := by
  unfold planL planHead
  rw [show w % 2 = w' % 2 by omega]
  congr 1
  apply List.map_congr_left
  intro i _
  unfold planRow
  rw [signAt_cg (k := w + i) (k' := w' + i) (by omega)]
def rset : List (List Nat) := [[126, 46], []] ++ [1, 2, 3, 4].map (fun k => List.replicate k 46) ++ [1, 2, 3, 4].flatMap fun k => signL.map fun s => List.replicate k 46 ++ s
/-- the lines that the signed rows name -/
def jOf (r : List Nat) : Option Nat := if signL.any (· == r.drop (r.count 46)) then some (r.count 46) else none
def blockOk (low size way : Nat) : Bool := fixL (growT low way size) == flatR (planL low size way) && (planL low size way).all (fun r => rset.any (· == r)) && [46, 126].any (fun c => (growT low way size).head? == some c) &&
  (planL low size way).filterMap jOf == (List.range size).map (fun i => low + size - 1 - i)
theorem blocks_ok : ([1, 2, 3, 4].all fun low => [1, 2, 3, 4].all fun size => low + size > 5 || (List.range 12).all fun way => blockOk low size way) = true := by kernel_rfl!
theorem all3 (f : Nat → Nat → Nat → Bool) (k : ([1, 2, 3, 4].all fun low => [1, 2, 3, 4].all fun size => low + size > 5 || (List.range 12).all fun way => f low size way) = true) (low size way : Nat) (h1 : 1 ≤ low) (h2 : 1 ≤ size) (h3 : low + size ≤ 5) : f low size (way % 12) = true := by
  have four : ∀ n : Nat, 1 ≤ n → n ≤ 4 → n ∈ [1, 2, 3, 4] := by
    intro n h h'
    match n, h, h' with
    | 1, _, _ => simp
    | 2, _, _ => simp
    | 3, _, _ => simp
    | 4, _, _ => simp
  have k1 := List.all_eq_true.mp k low (four low h1 (by omega))
  have k2 := List.all_eq_true.mp k1 size (four size h2 (by omega))
  rcases Bool.or_eq_true_iff.mp k2 with k2 | k2
  · have := of_decide_eq_true k2; omega
  · exact List.all_eq_true.mp k2 _ (List.mem_range.mpr (Nat.mod_lt _ (by decide)))
theorem blockOk_cg (low size way : Nat) : blockOk low size way = blockOk low size (way % 12) := by
  have hm : way % 12 = (way % 12) % 12 := by omega
  unfold blockOk
  rw [growT_cg (w' := way % 12) hm, planL_cg (w' := way % 12) hm]
theorem blockOk_of (b : Blk) (h : OkB b) : blockOk b.1 b.2.1 b.2.2 = true := (blockOk_cg _ _ _).trans (all3 blockOk blocks_ok _ _ _ h.1 h.2.1 h.2.2)
/-- a property of Bool of all the rows that there are -/
def rowOk (r : List Nat) : Bool := !r.contains 13 && !r.contains 10 && decide (r.length ≤ 10) && match kindsG r.length r, dueOf r with
  | some ps, some is => ps.map (·.1) == is && ps.all (fun p => smallInt p.1 && decide (p.2 ≠ 0) && decide (p.2 < 616)) && decide (ps.length ≤ 10) &&
    (match jOf r with
      | some j => decide (1 ≤ j) && decide (j < 5) && ledDots is == j && (match is.getLast? with
          | some s => isSign s && decide (s = 20 ∧ r.drop (r.count 46) = [60] ∨ s = 29 ∧ r.drop (r.count 46) = [60, 61] ∨ s = 21 ∧ r.drop (r.count 46) = [62] ∨ s = 30 ∧ r.drop (r.count 46) = [62, 61])
          | none => false)
      | none => match is.getLast? with
          | some s => !isSign s
          | none => true)
  | _, _ => false
theorem rows_ok : rset.all rowOk = true := by kernel_rfl!
end
end Mine
end
section
open PySem PySem.W PyProof.Rows PySem.Calls
set_option maxRecDepth 100000
set_option maxHeartbeats 2000000
namespace Mine
noncomputable section
theorem flatR_app (a b : List (List Nat)) : flatR (a ++ b) = flatR a ++ flatR b := by unfold flatR; rw [List.flatMap_append]
structure BlockFacts (low size way : Nat) : Prop where
  fix : fixL (growT low way size) = flatR (planL low size way)
  rows : ∀ r ∈ planL low size way, r ∈ rset
  head : ∃ c t, growT low way size = c :: t ∧ c ≠ 10
  js : (planL low size way).filterMap jOf = (List.range size).map fun i => low + size - 1 - i
theorem blockFacts {low size way : Nat} (h : blockOk low size way = true) : BlockFacts low size way := by
  unfold blockOk at h
  obtain ⟨h, h4⟩ := Bool.and_eq_true_iff.mp h
  obtain ⟨h, h3⟩ := Bool.and_eq_true_iff.mp h
  obtain ⟨h1, h2⟩ := Bool.and_eq_true_iff.mp h
  refine ⟨beq_iff_eq.mp h1, fun r hr => ?_, ?_, beq_iff_eq.mp h4⟩
  · have := List.all_eq_true.mp h2 r hr
    obtain ⟨q, hq, he⟩ := List.any_eq_true.mp this
    exact (beq_iff_eq.mp he) ▸ hq
  · obtain ⟨c, hc, he⟩ := List.any_eq_true.mp h3
    have he := beq_iff_eq.mp he
    cases hg : growT low way size with
    | nil => rw [hg] at he; cases he
    | cons x t =>
      rw [hg] at he
      have : x = c := Option.some.inj he
      refine ⟨x, t, rfl, ?_⟩
      subst this
      simp only [List.mem_cons, List.not_mem_nil, or_false] at hc
      rcases hc with rfl | rfl <;> decide
theorem facts_of {bs : List Blk} (h : ∀ b ∈ bs, OkB b) {b : Blk} (hb : b ∈ bs) : BlockFacts b.1 b.2.1 b.2.2 := blockFacts (blockOk_of b (h b hb))
theorem mail_cons (b : Blk) (bs : List Blk) : mailT (b :: bs) = growT b.1 b.2.2 b.2.1 ++ mailT bs := rfl
theorem plan_cons (b : Blk) (bs : List Blk) : planT (b :: bs) = planL b.1 b.2.1 b.2.2 ++ planT bs := rfl
theorem mail_fix : ∀ bs : List Blk, (∀ b ∈ bs, OkB b) → fixL (mailT bs) = flatR (planT bs)
  | [], _ => rfl
  | b :: bs, h => by
    have ih := mail_fix bs fun q hq => h q (.tail _ hq)
    rw [mail_cons, plan_cons, flatR_app, fixL_app _ _ ?_, ih, (facts_of h (.head _)).fix]
    intro r e
    cases bs with
    | nil => cases e
    | cons b' bs =>
      obtain ⟨c, t, e1, e2⟩ := (facts_of h (.tail _ (.head _))).head
      rw [mail_cons, e1] at e
      exact e2 (List.cons.inj e).1
theorem plan_rows {bs : List Blk} (h : ∀ b ∈ bs, OkB b) : ∀ r ∈ planT bs, r ∈ rset := fun r hr => by
  obtain ⟨b, hb, hr⟩ := List.mem_flatMap.mp hr
  exact (facts_of h hb).rows r hr
theorem plan_js : ∀ bs : List Blk, (∀ b ∈ bs, OkB b) → (planT bs).filterMap jOf = bs.flatMap fun b => (List.range b.2.1).map fun i => b.1 + b.2.1 - 1 - i
  | [], _ => rfl
  | b :: bs, h => by
    rw [plan_cons, List.filterMap_append, plan_js bs fun q hq => h q (.tail _ hq), (facts_of h (.head _)).js]
    rfl
def ksOf (r : List Nat) : List (Int × Tok) := (kindsG r.length r).getD []
def dueK (r : List Nat) : List Int := (dueOf r).getD []
structure RowFacts (r : List Nat) : Prop where
  n13 : 13 ∉ r
  n10 : 10 ∉ r
  len : r.length ≤ 10
  kinds : kindsG r.length r = some (ksOf r)
  due : dueOf r = some (dueK r)
  same : (ksOf r).map (·.1) = dueK r
  toks : ∀ p ∈ ksOf r, smallInt p.1 = true ∧ p.2 ≠ 0 ∧ p.2 < 616
  klen : (ksOf r).length ≤ 10
  sign : ∀ j, jOf r = some j → 1 ≤ j ∧ j < 5 ∧ ledDots (dueK r) = j ∧ ∃ s, (dueK r).getLast? = some s ∧ isSign s = true ∧ (s = 20 ∧ r.drop (r.count 46) = [60] ∨ s = 29 ∧ r.drop (r.count 46) = [60, 61] ∨ s = 21 ∧ r.drop (r.count 46) = [62] ∨ s = 30 ∧ r.drop (r.count 46) = [62, 61])
  plain : jOf r = none → ∀ s, (dueK r).getLast? = some s → isSign s = false
theorem rowFacts {r : List Nat} (hr : r ∈ rset) : RowFacts r := by
  have h := List.all_eq_true.mp rows_ok r hr
  unfold rowOk at h
  obtain ⟨h, h4⟩ := Bool.and_eq_true_iff.mp h
  obtain ⟨h, h3⟩ := Bool.and_eq_true_iff.mp h
  obtain ⟨h1, h2⟩ := Bool.and_eq_true_iff.mp h
  cases hk : kindsG r.length r with
  | none => rw [hk] at h4; cases h4
  | some ps =>
  cases hd : dueOf r with
  | none => rw [hk, hd] at h4; cases h4
  | some is =>
  rw [hk, hd] at h4
  have ek : ksOf r = ps := by unfold ksOf; rw [hk]; rfl
  have ed : dueK r = is := by unfold dueK; rw [hd]; rfl
  simp only at h4
  obtain ⟨h4, h7⟩ := Bool.and_eq_true_iff.mp h4
  obtain ⟨h4, h6⟩ := Bool.and_eq_true_iff.mp h4
  obtain ⟨h4, h5⟩ := Bool.and_eq_true_iff.mp h4
  refine ⟨by simpa using h1, by simpa using h2, of_decide_eq_true h3, by rw [ek, hk], by rw [ed, hd], by rw [ek, ed]; exact beq_iff_eq.mp h4, fun p hp => ?_, by rw [ek]; exact of_decide_eq_true h6, fun j hj => ?_, fun hj s hs => ?_⟩
  · rw [ek] at hp
    have := List.all_eq_true.mp h5 p hp
    obtain ⟨this, q3⟩ := Bool.and_eq_true_iff.mp this
    obtain ⟨q1, q2⟩ := Bool.and_eq_true_iff.mp this
    exact ⟨q1, of_decide_eq_true q2, of_decide_eq_true q3⟩
  · rw [hj] at h7
    simp only at h7
    obtain ⟨h7, h10⟩ := Bool.and_eq_true_iff.mp h7
    obtain ⟨h7, h9⟩ := Bool.and_eq_true_iff.mp h7
    obtain ⟨h7, h8⟩ := Bool.and_eq_true_iff.mp h7
    rw [ed]
    refine ⟨of_decide_eq_true h7, of_decide_eq_true h8, beq_iff_eq.mp h9, ?_⟩
    cases hs : is.getLast? with
    | none => rw [hs] at h10; cases h10
    | some s =>
      rw [hs] at h10
      obtain ⟨h10, h11⟩ := Bool.and_eq_true_iff.mp h10
      exact ⟨s, rfl, h10, of_decide_eq_true h11⟩
  · rw [hj] at h7
    rw [ed] at hs
    simp only [hs] at h7
    simpa using h7
theorem mail_quote {bs : List Blk} (h : ∀ b ∈ bs, OkB b) : quoteL (mailT bs) = flatR ((planT bs).map dotRow) := by
  unfold quoteL
  rw [mail_fix bs h]
  exact dot_rows _ fun r hr => (rowFacts (plan_rows h r hr)).n10
end
end Mine
end
section
open PySem PySem.W PyProof.Rows PySem.Calls
set_option maxRecDepth 100000
set_option maxHeartbeats 2000000
namespace Mine
noncomputable section
theorem RowFacts.ledOk {r : List Nat} (R : RowFacts r) : LedOk 5 (ksOf r) := by
  refine ⟨R.toks, Nat.le_trans R.klen (by decide), fun s hs hsn => ?_⟩
  rw [R.same] at hs ⊢
  cases hj : jOf r with
  | none => rw [R.plain hj s hs] at hsn; cases hsn
  | some j =>
    obtain ⟨h1, h2, h3, _⟩ := R.sign j hj
    rw [h3]
    exact ⟨h1, h2⟩
theorem signL_any (r : List Nat) : ([[60], [60, 61], [62], [62, 61]] : List (List Nat)).any (· == r.drop (r.count 46)) = (jOf r).isSome := by
  unfold jOf
  show signL.any _ = _
  cases signL.any (· == r.drop (r.count 46)) <;> rfl
theorem jOf_count {r : List Nat} {j : Nat} (h : jOf r = some j) : r.count 46 = j := by
  unfold jOf at h
  split at h
  · exact Option.some.inj h
  · cases h
theorem RowFacts.walkOk {r : List Nat} (R : RowFacts r) : WalkOk 5 r := by
  refine ⟨Nat.le_trans R.len (by decide), fun h => ?_⟩
  rw [signL_any] at h
  obtain ⟨j, hj⟩ := Option.isSome_iff_exists.mp h
  obtain ⟨h1, h2, _⟩ := R.sign j hj
  rw [jOf_count hj]
  exact ⟨h1, h2⟩
theorem swap_eq {α : Type} (l : List α) (j : Nat) (a b : α) (h1 : 1 ≤ j) (h2 : j < l.length) : (l.set (j - 1) b).set j a = l.take (j - 1) ++ [b, a] ++ l.drop (j + 1) := by
  obtain ⟨i, rfl⟩ : ∃ i, j = i + 1 := ⟨j - 1, by omega⟩
  simp only [Nat.add_sub_cancel]
  apply List.ext_getElem?
  intro k
  rw [List.getElem?_set, List.getElem?_set]
  simp only [List.length_set]
  have ht : (l.take i).length = i := by rw [List.length_take]; omega
  rcases Nat.lt_trichotomy k i with h | h | h
  · rw [if_neg (by omega), if_neg (by omega), List.append_assoc, List.getElem?_append_left (by omega), List.getElem?_take_of_lt h]
  · subst h
    rw [if_neg (by omega), if_pos rfl, if_pos (by omega), List.append_assoc, List.getElem?_append_right (by omega), ht, Nat.sub_self]
    rfl
  · by_cases h3 : k = i + 1
    · subst h3
      rw [if_pos rfl, if_pos h2, List.append_assoc, List.getElem?_append_right (by omega), ht, show i + 1 - i = 1 by omega]
      rfl
    · rw [if_neg (by omega), if_neg (by omega), List.getElem?_append_right (by simp only [List.length_append, List.length_cons, List.length_nil]; omega), List.getElem?_drop]
      congr 1
      simp only [List.length_append, List.length_cons, List.length_nil]
      omega
theorem step_same {r : List Nat} (R : RowFacts r) {line : List (Int × Nat)} (hl : line.length = 5) : ledStep line (dueK r) = walkStep line r := by
  unfold ledStep walkStep
  rw [signL_any]
  cases hj : jOf r with
  | none =>
    rw [if_neg (by decide)]
    split
    · rfl
    · rename_i s hs
      rw [R.plain hj s hs, if_neg (by decide)]
  | some j =>
    obtain ⟨h1, h2, h3, s, hs, hsn, hc⟩ := R.sign j hj
    rw [hs, if_pos (by rfl), jOf_count hj, h3]
    rw [jOf_count hj] at hc
    simp only [hsn, if_true]
    rw [swap_eq line j _ _ h1 (by omega)]
    generalize (line.getD (j - 1) (0, 0)).1 = x
    generalize (line.getD j (0, 0)).1 = y
    have e : (ledSaid s x y == [21, 30].any (· == s)) = (decide (y < x) || (x == y && [[60], [62, 61]].any (· == r.drop j))) := by
      rw [Bool.eq_iff_iff]
      rcases hc with ⟨rfl, h⟩ | ⟨rfl, h⟩ | ⟨rfl, h⟩ | ⟨rfl, h⟩
      · rw [h]; simp [ledSaid]; omega
      · rw [h]; simp [ledSaid]
      · rw [h]; simp [ledSaid]
      · rw [h]; simp [ledSaid]; omega
    rw [e]
/-- two neighbours brought into order -/
def csw {α : Type} (lt : α → α → Bool) : Nat → List α → List α
  | 1, a :: b :: t => if lt b a then b :: a :: t else a :: b :: t
  | j + 2, a :: t => a :: csw lt (j + 1) t
  | _, l => l
abbrev ltZ (a b : Int) : Bool := decide (a < b)
theorem csw_len {α : Type} (lt : α → α → Bool) : ∀ (j : Nat) (l : List α), (csw lt j l).length = l.length
  | 0, l => by cases l <;> rfl
  | 1, [] => rfl
  | 1, [_] => rfl
  | 1, a :: b :: t => by
    show (if lt b a then b :: a :: t else a :: b :: t).length = _
    split <;> rfl
  | j + 2, [] => rfl
  | j + 2, a :: t => by
    show (a :: csw lt (j + 1) t).length = _
    rw [List.length_cons, csw_len lt (j + 1) t, List.length_cons]
theorem csw_at (j : Nat) (l : List Int) (h1 : 1 ≤ j) (h2 : j < l.length) : csw ltZ j l = if ltZ (l.getD j 0) (l.getD (j - 1) 0) then l.take (j - 1) ++ [l.getD j 0, l.getD (j - 1) 0] ++ l.drop (j + 1) else l := by
  induction j generalizing l with
  | zero => omega
  | succ i ih =>
    cases i with
    | zero =>
      match l, h2 with
      | a :: b :: t, _ => rfl
    | succ i =>
      match l, h2 with
      | a :: t, h2 =>
        have ih := ih t (by omega) (by simp at h2; omega)
        show a :: csw ltZ (i + 1) t = _
        rw [ih]
        have e1 : (a :: t).getD (i + 1 + 1) 0 = t.getD (i + 1) 0 := rfl
        have e2 : (a :: t).getD (i + 1 + 1 - 1) 0 = t.getD (i + 1 - 1) 0 := rfl
        rw [e1, e2]
        split <;> rfl
theorem getD_map1 (l : List (Int × Nat)) (j : Nat) : (l.map (·.1)).getD j 0 = (l.getD j (0, 0)).1 := by
  simp only [List.getD_eq_getElem?_getD, List.getElem?_map]
  cases l[j]? <;> rfl
theorem walk_vals {r : List Nat} (R : RowFacts r) {line : List (Int × Nat)} (hl : line.length = 5) : (walkStep line r).map (·.1) = match jOf r with | some j => csw ltZ j (line.map (·.1)) | none => line.map (·.1) := by
  unfold walkStep
  rw [signL_any]
  cases hj : jOf r with
  | none => rfl
  | some j =>
    obtain ⟨h1, h2, _⟩ := R.sign j hj
    rw [if_pos (by rfl), jOf_count hj]
    simp only
    rw [csw_at j _ h1 (by simp; omega), getD_map1, getD_map1]
    by_cases hlt : (line.getD j (0, 0)).1 < (line.getD (j - 1) (0, 0)).1
    · have e1 : decide ((line.getD j (0, 0)).1 < (line.getD (j - 1) (0, 0)).1) = true := decide_eq_true hlt
      rw [show ltZ (line.getD j (0, 0)).1 (line.getD (j - 1) (0, 0)).1 = true from e1, e1, if_pos rfl, if_pos (by rfl)]
      simp [List.map_take, List.map_drop]
    · have e1 : decide ((line.getD j (0, 0)).1 < (line.getD (j - 1) (0, 0)).1) = false := decide_eq_false hlt
      rw [show ltZ (line.getD j (0, 0)).1 (line.getD (j - 1) (0, 0)).1 = false from e1, e1, Bool.false_or, if_neg (show ¬ (false = true) by decide)]
      by_cases heq : ((line.getD (j - 1) (0, 0)).1 == (line.getD j (0, 0)).1 && [[60], [62, 61]].any (· == r.drop j)) = true
      · rw [if_pos heq]
        have hxy := beq_iff_eq.mp (Bool.and_eq_true_iff.mp heq).1
        have e2 := swap_eq (line.map (·.1)) j ((line.getD (j - 1) (0, 0)).1) ((line.getD j (0, 0)).1) h1 (by simp; omega)
        have e3 : (line.take (j - 1) ++ [line.getD j (0, 0), line.getD (j - 1) (0, 0)] ++ line.drop (j + 1)).map (·.1) = (line.map (·.1)).take (j - 1) ++ [(line.getD j (0, 0)).1, (line.getD (j - 1) (0, 0)).1] ++ (line.map (·.1)).drop (j + 1) := by
          simp [List.map_take, List.map_drop]
        rw [e3, ← e2, ← hxy]
        apply List.ext_getElem?
        intro k
        rw [List.getElem?_set, List.getElem?_set]
        simp only [List.length_set, List.length_map]
        by_cases hk : j = k
        · subst hk
          rw [if_pos rfl, if_pos (by omega), hxy, ← getD_map1, List.getD_eq_getElem?_getD, List.getElem?_eq_getElem (by simp; omega)]
          rfl
        · rw [if_neg hk]
          by_cases hk2 : j - 1 = k
          · subst hk2
            rw [if_pos rfl, if_pos (by omega), ← getD_map1, List.getD_eq_getElem?_getD, List.getElem?_eq_getElem (by simp; omega)]
            rfl
          · rw [if_neg hk2]
      · rw [if_neg heq]
def runZ (js : List Nat) (V : List Int) : List Int := js.foldl (fun V j => csw ltZ j V) V
theorem walk_run : ∀ (rows : List (List Nat)) (line : List (Int × Nat)), (∀ r ∈ rows, r ∈ rset) → line.length = 5 → (rows.foldl walkStep line).map (·.1) = runZ (rows.filterMap jOf) (line.map (·.1))
  | [], _, _, _ => rfl
  | r :: rs, line, h, hl => by
    have R := rowFacts (h r (.head _))
    have hl2 : (walkStep line r).length = 5 := by rw [walkStep_len line r (by rw [hl]; exact R.walkOk), hl]
    rw [List.foldl_cons, walk_run rs _ (fun q hq => h q (.tail _ hq)) hl2, walk_vals R hl]
    cases hj : jOf r with
    | none => rw [List.filterMap_cons, hj]
    | some j => rw [List.filterMap_cons, hj]; rfl
theorem led_walk : ∀ (rows : List (List Nat)) (line : List (Int × Nat)), (∀ r ∈ rows, r ∈ rset) → line.length = 5 → ((rows.map ksOf).map (·.map (·.1))).foldl ledStep line = rows.foldl walkStep line
  | [], _, _, _ => rfl
  | r :: rs, line, h, hl => by
    have R := rowFacts (h r (.head _))
    have hl2 : (walkStep line r).length = 5 := by rw [walkStep_len line r (by rw [hl]; exact R.walkOk), hl]
    simp only [List.map_cons, List.foldl_cons]
    rw [R.same, step_same R hl]
    exact led_walk rs _ (fun q hq => h q (.tail _ hq)) hl2
end
end Mine
end
section
open PySem PySem.W PyProof.Rows PySem.Calls
set_option maxRecDepth 100000
set_option maxHeartbeats 2000000
namespace Mine
noncomputable section
abbrev ltN (a b : Nat) : Bool := Nat.blt a b
abbrev ltB (a b : Bool) : Bool := !a && b
def runN (js : List Nat) (l : List Nat) : List Nat := js.foldl (fun V j => csw ltN j V) l
def runB (js : List Nat) (l : List Bool) : List Bool := js.foldl (fun V j => csw ltB j V) l
def insAll (x : Nat) : List Nat → List (List Nat)
  | [] => [[x]]
  | a :: t => (x :: a :: t) :: (insAll x t).map (a :: ·)
def permsOf : List Nat → List (List Nat)
  | [] => [[]]
  | a :: t => (permsOf t).flatMap (insAll a)
def perms : List (List Nat) := permsOf [5, 4, 3, 2, 1]
def bitsOf : Nat → List (List Bool)
  | 0 => [[]]
  | n + 1 => (bitsOf n).flatMap fun t => [false :: t, true :: t]
/-- as many greater numbers as there are behind 5 - m -/
def sizeM (l : List Nat) (m : Nat) : Nat := (l.drop (l.findIdx (· == 5 - m) + 1)).countP fun x => Nat.blt (5 - m) x
def netOf (l : List Nat) : List Nat := [1, 2, 3, 4].flatMap fun m => (List.range (sizeM l m)).map fun i => m - i
theorem chk1 : (perms.all fun p => [1, 2, 3, 4].all fun j => perms.any (· == csw ltN j p)) = true := by kernel_rfl!
theorem chk2 : (perms.all fun p => [1, 2, 3, 4].all fun m => Nat.ble (sizeM p m) m && Nat.blt (p.findIdx (· == 5 - m)) 5) = true := by kernel_rfl!
theorem chk3 : (perms.all fun p => [1, 2, 3, 4].all fun j => (bitsOf 5).all fun v => csw ltB j (runB (netOf p) v) == runB (netOf (csw ltN j p)) v) = true := by kernel_rfl!
theorem chk0 : netOf [5, 4, 3, 2, 1] = [] := by kernel_rfl!
theorem chk4 : perms.any (· == [5, 4, 3, 2, 1]) = true := by kernel_rfl!
end
end Mine
end
section
open PySem PySem.W PyProof.Rows PySem.Calls
set_option maxRecDepth 100000
set_option maxHeartbeats 2000000
namespace Mine
noncomputable section
theorem four {n : Nat} (h : 1 ≤ n) (h' : n < 5) : n ∈ [1, 2, 3, 4] := by
  match n, h, h' with
  | 1, _, _ => simp
  | 2, _, _ => simp
  | 3, _, _ => simp
  | 4, _, _ => simp
theorem mem_bits : ∀ (n : Nat) (v : List Bool), v.length = n → v ∈ bitsOf n
  | 0, [], _ => .head _
  | n + 1, b :: t, h => by
    have ih := mem_bits n t (by simpa using h)
    show _ ∈ (bitsOf n).flatMap _
    refine List.mem_flatMap.mpr ⟨t, ih, ?_⟩
    cases b <;> simp
def okP (p : List Nat) : Prop := p ∈ perms
theorem any_mem {α : Type} [BEq α] [LawfulBEq α] {l : List α} {x : α} (h : l.any (· == x) = true) : x ∈ l := by
  obtain ⟨y, hy, e⟩ := List.any_eq_true.mp h
  exact (beq_iff_eq.mp e) ▸ hy
theorem step_perm {p : List Nat} (hp : p ∈ perms) {j : Nat} (h : 1 ≤ j) (h' : j < 5) : csw ltN j p ∈ perms :=
  any_mem (List.all_eq_true.mp (List.all_eq_true.mp chk1 p hp) j (four h h'))
theorem step_bits {p : List Nat} (hp : p ∈ perms) {j : Nat} (h : 1 ≤ j) (h' : j < 5) {v : List Bool} (hv : v.length = 5) : csw ltB j (runB (netOf p) v) = runB (netOf (csw ltN j p)) v :=
  beq_iff_eq.mp (List.all_eq_true.mp (List.all_eq_true.mp (List.all_eq_true.mp chk3 p hp) j (four h h')) v (mem_bits 5 v hv))
theorem size_le {p : List Nat} (hp : p ∈ perms) {m : Nat} (h : 1 ≤ m) (h' : m < 5) : sizeM p m ≤ m ∧ p.findIdx (· == 5 - m) < 5 := by
  have := List.all_eq_true.mp (List.all_eq_true.mp chk2 p hp) m (four h h')
  obtain ⟨h1, h2⟩ := Bool.and_eq_true_iff.mp this
  exact ⟨Nat.le_of_ble_eq_true h1, Nat.le_of_ble_eq_true h2⟩
theorem hecke_go : ∀ (js : List Nat) (pre : List Nat) (p : List Nat), (∀ j ∈ js, 1 ≤ j ∧ j < 5) → p ∈ perms → (∀ v : List Bool, v.length = 5 → runB pre v = runB (netOf p) v) →
    runN js p ∈ perms ∧ ∀ v : List Bool, v.length = 5 → runB (pre ++ js) v = runB (netOf (runN js p)) v
  | [], pre, p, _, hp, h => ⟨hp, fun v hv => by rw [List.append_nil]; exact h v hv⟩
  | j :: js, pre, p, hj, hp, h => by
    obtain ⟨h1, h2⟩ := hj j (.head _)
    have ih := hecke_go js (pre ++ [j]) (csw ltN j p) (fun q hq => hj q (.tail _ hq)) (step_perm hp h1 h2) fun v hv => by
      have e : runB (pre ++ [j]) v = csw ltB j (runB pre v) := by unfold runB; rw [List.foldl_append]; rfl
      rw [e, h v hv]
      exact step_bits hp h1 h2 hv
    rw [List.append_assoc] at ih
    exact ih
theorem hecke_bits (js : List Nat) (hj : ∀ j ∈ js, 1 ≤ j ∧ j < 5) : runN js [5, 4, 3, 2, 1] ∈ perms ∧ ∀ v : List Bool, v.length = 5 → runB js v = runB (netOf (runN js [5, 4, 3, 2, 1])) v := by
  have h := hecke_go js [] [5, 4, 3, 2, 1] hj (any_mem chk4) fun v _ => by rw [chk0]
  exact h
theorem csw_map {α β : Type} (lt : α → α → Bool) (lt' : β → β → Bool) (f : α → β) (hf : ∀ a b, (lt' (f b) (f a) = lt b a) ∨ (lt' (f b) (f a) = false ∧ f a = f b)) : ∀ (j : Nat) (l : List α), csw lt' j (l.map f) = (csw lt j l).map f
  | 0, l => by cases l <;> rfl
  | 1, [] => rfl
  | 1, [_] => rfl
  | 1, a :: b :: t => by
    show (if lt' (f b) (f a) then f b :: f a :: t.map f else f a :: f b :: t.map f) = (if lt b a then b :: a :: t else a :: b :: t).map f
    rcases hf a b with h | ⟨h, e⟩
    · rw [h]; split <;> rfl
    · rw [h, if_neg (by decide)]
      split
      · show f a :: f b :: _ = f b :: f a :: _
        rw [e]
      · rfl
  | j + 2, [] => rfl
  | j + 2, a :: t => by
    show f a :: csw lt' (j + 1) (t.map f) = f a :: (csw lt (j + 1) t).map f
    rw [csw_map lt lt' f hf (j + 1) t]
theorem runB_thr (a : Int) : ∀ (js : List Nat) (V : List Int), runB js (V.map fun x => decide (a < x)) = (runZ js V).map fun x => decide (a < x)
  | [], _ => rfl
  | j :: js, V => by
    have e := csw_map ltZ ltB (fun x : Int => decide (a < x)) (fun x y => by
      by_cases hy : a < y
      · by_cases hx : a < x
        · exact .inr ⟨by simp [ltB, hx, hy], by simp [hx, hy]⟩
        · left
          have : ¬ y < x := by omega
          simp [ltB, ltZ, hx, hy, this]
      · by_cases hx : a < x
        · left
          have : y < x := by omega
          simp [ltB, ltZ, hx, hy, this]
        · exact .inr ⟨by simp [ltB, hx, hy], by simp [hx, hy]⟩) j V
    show runB js (csw ltB j (V.map fun x => decide (a < x))) = _
    rw [e, runB_thr a js]
    rfl
theorem runZ_len : ∀ (js : List Nat) (V : List Int), (runZ js V).length = V.length
  | [], _ => rfl
  | j :: js, V => by
    show (runZ js (csw ltZ j V)).length = _
    rw [runZ_len js, csw_len]
theorem same_of_thr {X Y : List Int} (hl : X.length = Y.length) (h : ∀ a : Int, X.map (fun x => decide (a < x)) = Y.map fun x => decide (a < x)) : X = Y := by
  apply List.ext_getElem hl
  intro k h1 h2
  have key : ∀ a : Int, decide (a < X[k]) = decide (a < Y[k]) := fun a => by
    have := congrArg (fun l => l[k]?) (h a)
    simpa [h1, h2] using this
  have k1 := key X[k]
  have k2 := key Y[k]
  simp only [decide_eq_decide] at k1 k2
  omega
/-- what a network makes of 5 4 3 2 1 tells what it makes of all -/
theorem hecke (js : List Nat) (hj : ∀ j ∈ js, 1 ≤ j ∧ j < 5) (V : List Int) (hV : V.length = 5) : runZ js V = runZ (netOf (runN js [5, 4, 3, 2, 1])) V := by
  refine same_of_thr (by rw [runZ_len, runZ_len]) fun a => ?_
  rw [← runB_thr, ← runB_thr]
  exact (hecke_bits js hj).2 _ (by rw [List.length_map, hV])
theorem runZ_cast : ∀ (js : List Nat) (l : List Nat), runZ js (l.map Int.ofNat) = (runN js l).map Int.ofNat
  | [], _ => rfl
  | j :: js, l => by
    have e := csw_map ltN ltZ Int.ofNat (fun a b => .inl (by
      show decide (Int.ofNat b < Int.ofNat a) = Nat.blt b a
      rw [Bool.eq_iff_iff, decide_eq_true_eq]
      constructor
      · intro h; exact Nat.ble_eq_true_of_le (Int.ofNat_lt.mp h)
      · intro h; exact Int.ofNat_lt.mpr (Nat.le_of_ble_eq_true h))) j l
    show runZ js (csw ltZ j (l.map Int.ofNat)) = _
    rw [e, runZ_cast js]
    rfl
/-- the second mail's blocks -/
def blocks2 (p : List Nat) : List Blk := [1, 2, 3, 4].filterMap fun m => if 0 < sizeM p m then some (m - sizeM p m + 1, sizeM p m, m) else none
theorem blocks2_ok {p : List Nat} (hp : p ∈ perms) : ∀ b ∈ blocks2 p, OkB b := by
  intro b hb
  obtain ⟨m, hm, he⟩ := List.mem_filterMap.mp hb
  have hm' : 1 ≤ m ∧ m < 5 := by
    simp only [List.mem_cons, List.not_mem_nil, or_false] at hm
    omega
  obtain ⟨h1, _⟩ := size_le hp hm'.1 hm'.2
  split at he
  · cases he
    refine ⟨?_, ?_, ?_⟩ <;> simp only <;> omega
  · cases he
theorem blocks2_js {p : List Nat} (hp : p ∈ perms) : (blocks2 p).flatMap (fun b => (List.range b.2.1).map fun i => b.1 + b.2.1 - 1 - i) = netOf p := by
  have key : ∀ ms : List Nat, (∀ m ∈ ms, 1 ≤ m ∧ m < 5) → (ms.filterMap fun m => if 0 < sizeM p m then some (m - sizeM p m + 1, sizeM p m, m) else none).flatMap (fun b : Blk => (List.range b.2.1).map fun i => b.1 + b.2.1 - 1 - i) = ms.flatMap fun m => (List.range (sizeM p m)).map fun i => m - i := by
    intro ms
    induction ms with
    | nil => intro _; rfl
    | cons m ms ih =>
      intro h
      obtain ⟨h1, h2⟩ := h m (.head _)
      obtain ⟨h3, _⟩ := size_le hp h1 h2
      rw [List.filterMap_cons, List.flatMap_cons]
      by_cases h0 : 0 < sizeM p m
      · rw [if_pos h0]
        simp only
        rw [List.flatMap_cons, ih fun q hq => h q (.tail _ hq)]
        congr 1
        apply List.map_congr_left
        intro i hi
        simp only
        omega
      · have e0 : sizeM p m = 0 := by omega
        rw [if_neg h0, e0, ih fun q hq => h q (.tail _ hq)]
        rfl
  exact key [1, 2, 3, 4] (by intro m hm; simp only [List.mem_cons, List.not_mem_nil, or_false] at hm; omega)
end
end Mine
end
section
open PySem PySem.W PyProof.Rows PySem.Calls
set_option maxRecDepth 100000
set_option maxHeartbeats 1000000
namespace Mine
noncomputable section
section
variable {prog : Program} {w : World} {A : Around} {R : Result → Shared → Prop} {h₀ h : Heap} {news : List (Addr × Obj)} {g : Array GenState} {d : Drawn} {tk : Nat} {os : OsState} {env : Env} {x : Str} {body : List Stmt}
/-- a loop by any walk, its target set as one likes, with a bound that the tokens stay above -/
theorem loopTokW {px : Pos} {I : Addr} {fs : List Addr} {n : Nat} {P : Nat → Value → Prop} {St : Nat → Heap → Prop} {m₀ : Str → Option Value} (T : Nat) (J : Nat → (Str → Option Value) → List (Addr × Obj) → Prop)
    (W : Walks prog w A I (I :: fs) [I] n P St) (alive : ∀ i h, St i h → ∃ o, h.get? I = some o) (hT : T ≤ tk) (hLf : env.locals ∉ I :: fs) (hI0 : h₀.get? I = none) (hnI : ∀ p ∈ news, p.1 ≠ I) (hst : St 0 h)
    (F : Fr h₀ env.locals h m₀) (N : News h₀ env.locals h news) (hj : J 0 m₀ news)
    (turn : ∀ i v m₁ news₁ h tk own, T ≤ tk → i < n → P i v → J i m₁ news₁ → (∀ d, d ∉ fs → (∃ o, (d, o) ∈ news₁) → ∀ p ∈ own, p.1 ≠ d) → Fr h₀ env.locals h m₁ → News h₀ env.locals h (own ++ news₁) →
      wpAny (model prog w) A (assign (.Name x px) env v) (fun _ s₂ => wpAny (model prog w) A (execs body env) (TEnd h₀ env.locals (J (i + 1)) own news₁ (fun f s => R (.ok f) s) ⟨h, g, d, tk, os⟩) (fun _ _ => False) s₂) (fun _ _ => False) ⟨h, g, d, tk, os⟩)
    (done : ∀ m₁ news₁ h tk, T ≤ tk → J n m₁ news₁ → Fr h₀ env.locals h m₁ → News h₀ env.locals h news₁ → R (.ok .next) ⟨h, g, d, tk, os⟩) :
    codeAny (model prog w) A (.forLoop (.Name x px) (.ref I) body [] env) R ⟨h, g, d, tk, os⟩ := by
  have hLI : env.locals ≠ I := fun e => hLf (e ▸ .head _)
  have old : ∀ b o, h₀.get? b = some o → b ∉ [I] := fun b o e hb => by rw [List.mem_singleton.mp hb, hI0] at e; cases e
  refine codeAny_forLoop_any (fun k s' => ∃ h' tk' m' news' i, s' = ⟨h', g, d, tk', os⟩ ∧ T ≤ tk' ∧ St i h' ∧ Fr h₀ env.locals h' m' ∧ News h₀ env.locals h' news' ∧ (∀ p ∈ news', p.1 ≠ I) ∧ J i m' news' ∧ i ≤ n ∧ k = n + 1 - i) ?_ (n + 1)
    ⟨h, tk, m₀, news, 0, rfl, hT, hst, F, N, hnI, hj, Nat.zero_le _, rfl⟩
  clear hnI
  rintro k s' ⟨h', tk', m', news', i, rfl, hT', hst', F', N', hnw', hJ, hi, rfl⟩
  have next : ∀ h₁ : Heap, (∀ b o, b ∉ [I] → h'.get? b = some o → h₁.get? b = some o) → Fr h₀ env.locals h₁ m' ∧ News h₀ env.locals h₁ news' := fun h₁ hk₁ =>
    ⟨⟨F'.ns.at' fun o e => hk₁ _ o (fun hm => hLI (List.mem_singleton.mp hm)) e, fun b o e => hk₁ b o (old b o e) (F'.keep b o e), F'.above⟩, fun p hp => ⟨hk₁ _ _ (fun hm => hnw' p hp (List.mem_singleton.mp hm)) (N' p hp).1, (N' p hp).2⟩⟩
  refine wpAny_with_toks (n := T) hT' ?_
  by_cases hlt : i < n
  · refine W.item i _ _ _ hlt hst' fun v h₁ tk₁ hP hst₁ hk₁ hT₁ => ?_
    obtain ⟨F₁, N₁⟩ := next h₁ hk₁
    show wpAny (model prog w) A (pure ()) _ _ _
    refine wpAny_pure ?_
    have Nown : News h₀ env.locals h₁ (ownOf h₀ (I :: fs) h₁) := news_ownOf hLf
    have hgI : ∃ o, (I, o) ∈ ownOf h₀ (I :: fs) h₁ := by
      obtain ⟨o, ho⟩ := alive _ _ hst₁
      exact ⟨o, mem_ownOf (.head _) hI0 ho⟩
    have hoff : ∀ d, d ∉ fs → (∃ o, (d, o) ∈ news') → ∀ p ∈ ownOf h₀ (I :: fs) h₁, p.1 ≠ d := fun d hd hm p hp e => by
      obtain ⟨o, hm⟩ := hm
      have h1 := ownOf_sub p hp
      rcases List.mem_cons.mp h1 with h1 | h1
      · exact hnw' _ hm (e.symm.trans h1)
      · exact hd (e ▸ h1)
    have key := turn i v m' news' h₁ tk₁ (ownOf h₀ (I :: fs) h₁) hT₁ hlt hP hJ hoff F₁ (Nown.append N₁)
    refine wpAny_with_toks (n := T) hT₁ (wpAny_mono key (fun _ s₂ h₂ hT₂ => ?_) fun _ _ e => e.elim)
    refine wpAny_with_toks (n := T) hT₂ (wpAny_mono h₂ (fun f s₃ h₃ hT₃ => ?_) fun _ _ e => e.elim)
    have fin : (∃ h₄ tk₄ m₄ news₄, s₃ = ⟨h₄, g, d, tk₄, os⟩ ∧ Fr h₀ env.locals h₄ m₄ ∧ News h₀ env.locals h₄ (ownOf h₀ (I :: fs) h₁ ++ news₄) ∧ (∀ q ∈ news₄, (∃ o, (q.1, o) ∈ news') ∨ h₁.get? q.1 = none ∨ ∀ p ∈ ownOf h₀ (I :: fs) h₁, p.1 ≠ q.1) ∧ J (i + 1) m₄ news₄) →
        ∃ k', k' < n + 1 - i ∧ ∃ h' tk' m' news' i, s₃ = ⟨h', g, d, tk', os⟩ ∧ T ≤ tk' ∧ St i h' ∧ Fr h₀ env.locals h' m' ∧ News h₀ env.locals h' news' ∧ (∀ p ∈ news', p.1 ≠ I) ∧ J i m' news' ∧ i ≤ n ∧ k' = n + 1 - i := by
      rintro ⟨h₄, tk₄, m₄, news₄, rfl, F₄, N₄, hn₄, hJ₄⟩
      refine ⟨n + 1 - (i + 1), by omega, h₄, tk₄, m₄, news₄, i + 1, rfl, hT₃, ?_, F₄, N₄.right, fun p hp e => ?_, hJ₄, hlt, rfl⟩
      · refine W.frame _ _ _ hst₁ fun b hb o e => ?_
        cases hn : h₀.get? b with
        | some o₀ =>
          have : o₀ = o := by have := F₁.keep b o₀ hn; rw [e] at this; exact (Option.some.inj this).symm
          exact this ▸ F₄.keep b o₀ hn
        | none => exact (N₄ _ (List.mem_append_left _ (mem_ownOf hb hn e))).1
      · obtain ⟨oI, hoI⟩ := hgI
        rcases hn₄ p hp with ⟨o, h1⟩ | h1 | h1
        · exact hnw' _ h1 e
        · have := (Nown _ hoI).1
          rw [e] at h1
          rw [h1] at this; cases this
        · exact h1 _ hoI e.symm
    cases f with
    | ret v => exact h₃
    | brk => exact h₃
    | next => exact fin h₃
    | cont => exact fin h₃
  · have hin : i = n := by omega
    subst hin
    refine W.done _ _ _ hst' fun h₁ tk₁ hk₁ hT₁ => wpAny_execs_nil ?_
    obtain ⟨F₁, N₁⟩ := next h₁ hk₁
    exact done m' news' h₁ tk₁ hT₁ hJ F₁ N₁
/-- a loop over a range, its target set as one likes -/
theorem loopTokR {px : Pos} {r : Addr} {a b n : Nat} {t u v : Tok} {m₀ : Str → Option Value} {E : Value → Shared → Prop} (T : Nat) (J : Nat → (Str → Option Value) → List (Addr × Obj) → Prop)
    (hT : T ≤ tk) (hh : A.handled = none) (hr : IsRange h r (a : Nat) (b : Nat) 1 t u v) (hb : b = a + n) (hz : b ≤ 1000000000000) (F : Fr h₀ env.locals h m₀) (N : News h₀ env.locals h news) (hj : J 0 m₀ news)
    (turn : ∀ i t m₁ news₁ h tk own, T ≤ tk → i < n → J i m₁ news₁ → (∀ d, (∃ o, (d, o) ∈ news₁) → ∀ p ∈ own, p.1 ≠ d) → Fr h₀ env.locals h m₁ → News h₀ env.locals h (own ++ news₁) →
      wpAny (model prog w) A (assign (.Name x px) env (.int ((a + i : Nat) : Int) t)) (fun _ s₂ => wpAny (model prog w) A (execs body env) (TEnd h₀ env.locals (J (i + 1)) own news₁ (fun f s => R (.ok f) s) ⟨h, g, d, tk, os⟩) (fun _ _ => False) s₂) (fun _ _ => False) ⟨h, g, d, tk, os⟩)
    (done : ∀ m₁ news₁ h tk, T ≤ tk → J n m₁ news₁ → Fr h₀ env.locals h m₁ → News h₀ env.locals h news₁ → R (.ok .next) ⟨h, g, d, tk, os⟩) :
    wpAny (model prog w) A (pyIter (.ref r)) (fun it s₂ => codeAny (model prog w) A (.forLoop (.Name x px) it body [] env) R s₂) E ⟨h, g, d, tk, os⟩ := by
  subst hb
  have e := range_size a n
  refine wpAny_with_toks (n := T) hT (wpAny_pyIter_range (s := ⟨h, g, d, tk, os⟩) hr ?_ fun hT' => ?_)
  · unfold Builtin.Range.small
    rw [e]
    unfold Builtin.Range.rangeFitsLong
    simp
    omega
  have W := Walks.range (prog := prog) (w := w) hh h.objs.size (a : Int) 1 n
  refine loopTokW (fs := []) T J W (fun i h st => ⟨_, st⟩) hT' ?_ (next_is_new F) (fun p hp => Nat.ne_of_lt (Heap.lt_size (N p hp).1)) ?_ (F.push _) (fun p hp => ⟨Heap.get?_push_of_some _ (N p hp).1, (N p hp).2⟩) hj (fun i v m₁ news₁ h tk own hT hi hP hJ hoff F₁ N₁ => ?_) done
  · intro hm
    exact absurd F.ns.lt (List.mem_singleton.mp hm ▸ Nat.lt_irrefl _)
  · show IsRangeIter _ _ _ _ _
    rw [e]
    simpa using Heap.get?_push_size _ rfl
  · obtain ⟨t', rfl⟩ := hP
    have e2 : (a : Int) + (i : Int) * 1 = ((a + i : Nat) : Int) := by omega
    rw [e2]
    exact turn i t' m₁ news₁ h tk own hT hi hJ (fun d => hoff d (by simp)) F₁ N₁
/-- a loop over a tuple -/
theorem loopTokT {px : Pos} {l : Addr} {vs : List Value} {m₀ : Str → Option Value} {E : Value → Shared → Prop} (T : Nat) (J : Nat → (Str → Option Value) → List (Addr × Obj) → Prop)
    (hT : T ≤ tk) (hh : A.handled = none) (hl : (l, tupO vs) ∈ news) (F : Fr h₀ env.locals h m₀) (N : News h₀ env.locals h news) (hj : J 0 m₀ news)
    (turn : ∀ i v m₁ news₁ h tk own, T ≤ tk → vs[i]? = some v → J i m₁ news₁ → (∀ d, d ≠ l → (∃ o, (d, o) ∈ news₁) → ∀ p ∈ own, p.1 ≠ d) → Fr h₀ env.locals h m₁ → News h₀ env.locals h (own ++ news₁) →
      wpAny (model prog w) A (assign (.Name x px) env v) (fun _ s₂ => wpAny (model prog w) A (execs body env) (TEnd h₀ env.locals (J (i + 1)) own news₁ (fun f s => R (.ok f) s) ⟨h, g, d, tk, os⟩) (fun _ _ => False) s₂) (fun _ _ => False) ⟨h, g, d, tk, os⟩)
    (done : ∀ m₁ news₁ h tk, T ≤ tk → J vs.length m₁ news₁ → Fr h₀ env.locals h m₁ → News h₀ env.locals h news₁ → R (.ok .next) ⟨h, g, d, tk, os⟩) :
    wpAny (model prog w) A (pyIter (.ref l)) (fun it s₂ => codeAny (model prog w) A (.forLoop (.Name x px) it body [] env) R s₂) E ⟨h, g, d, tk, os⟩ := by
  have hlt : l < h.objs.size := Heap.lt_size (N _ hl).1
  have htup : h.IsTuple l vs.toArray := ⟨_, (N _ hl).1, rfl, _, rfl⟩
  refine wpAny_with_toks (n := T) hT (wpAny_pyIter_tuple (s := ⟨h, g, d, tk, os⟩) htup fun hT' => ?_)
  have W := Walks.tuple (prog := prog) (w := w) hh h.objs.size l (Nat.ne_of_lt hlt) vs.toArray
  have hlen : vs.toArray.size = vs.length := by simp
  rw [hlen] at W
  refine loopTokW (fs := [l]) T J W (fun i h st => let ⟨o, ho, _⟩ := st.1; ⟨o, ho⟩) hT' ?_ (next_is_new F) (fun p hp => Nat.ne_of_lt (Heap.lt_size (N p hp).1)) ⟨⟨_, Heap.get?_push_size _ rfl, rfl, rfl⟩, htup.push _⟩ (F.push _) (fun p hp => ⟨Heap.get?_push_of_some _ (N p hp).1, (N p hp).2⟩) hj
    (fun i v m₁ news₁ h tk own hT hi hP hJ hoff F₁ N₁ => turn i v m₁ news₁ h tk own hT (by have : vs.toArray[i]? = some v := hP; simpa using this) hJ (fun d hd => hoff d fun h => hd (List.mem_singleton.mp h)) F₁ N₁) done
  intro hm
  rcases List.mem_cons.mp hm with e | hm
  · exact absurd F.ns.lt (e ▸ Nat.lt_irrefl _)
  · exact (N _ hl).2.1 (List.mem_singleton.mp hm).symm
end
end
end Mine
end
section
open PySem PySem.W PyProof.Rows PySem.Calls
set_option maxRecDepth 100000
set_option maxHeartbeats 4000000
namespace Mine
noncomputable section
def blk (c : Nat) : Blk := (1 + c % 4, 1 + c / 4 % (5 - (1 + c % 4)), c / 16)
theorem blk_ok (c : Nat) : OkB (blk c) := by
  have h1 : c % 4 < 4 := Nat.mod_lt _ (by decide)
  have h2 : c / 4 % (5 - (1 + c % 4)) < 5 - (1 + c % 4) := Nat.mod_lt _ (by omega)
  refine ⟨?_, ?_, ?_⟩ <;> simp only [blk] <;> omega
def cellsN (sc : List Int) : List Nat := (cellsL sc 1000000 [4, 9, 0, 2] sc.length).map Int.toNat
def blocks1 (sc : List Int) : List Blk := (cellsN sc).map blk
theorem cells_bound (sc : List Int) : ∀ k, ∀ x ∈ cellsL sc 1000000 [4, 9, 0, 2] k, 0 ≤ x ∧ x ≤ 9 + k * 1000000
  | 0, x, hx => by
    have hx : x ∈ [4, 9, 0, 2] := hx
    simp only [List.mem_cons, List.not_mem_nil, or_false] at hx
    omega
  | k + 1, x, hx => by
    have ih := cells_bound sc k
    have hx : x ∈ (cellsL sc 1000000 [4, 9, 0, 2] k).set (k % 4) ((cellsL sc 1000000 [4, 9, 0, 2] k).getD (k % 4) 0 + addOf 1000000 (sc.getD k 0)) := hx
    rcases List.mem_or_eq_of_mem_set hx with h | h
    · have := ih x h; omega
    · have hl : k % 4 < (cellsL sc 1000000 [4, 9, 0, 2] k).length := by rw [cellsL_len]; exact Nat.mod_lt _ (by decide)
      have h3 := ih _ (List.getElem_mem hl)
      rw [List.getD_eq_getElem?_getD, List.getElem?_eq_getElem hl] at h
      have h4 : addOf 1000000 (sc.getD k 0) = sc.getD k 0 % 1000000 := by
        unfold addOf; rw [if_pos (by decide)]; rfl
      rw [h4] at h
      have h5 := Int.emod_nonneg (sc.getD k 0) (b := 1000000) (by decide)
      have h6 := Int.emod_lt_of_pos (sc.getD k 0) (b := 1000000) (by decide)
      simp only [Option.getD_some] at h
      omega
theorem Ints.at : ∀ {vs : List Value} {rs : List Int}, Ints vs rs → ∀ {i : Nat} {v : Value}, vs[i]? = some v → ∃ x t, rs[i]? = some x ∧ v = .int x t
  | _, _, .nil, _, _, e => by simp at e
  | _, _, .cons (i := x) (t := t) a, 0, v, e => ⟨x, t, rfl, by simpa using e.symm⟩
  | _, _, .cons a, i + 1, v, e => a.at (i := i) (by simpa using e)
theorem mailT_app (a b : List Blk) : mailT (a ++ b) = mailT a ++ mailT b := by unfold mailT; rw [List.flatMap_append]
theorem planT_app (a b : List Blk) : planT (a ++ b) = planT a ++ planT b := by unfold planT; rw [List.flatMap_append]
theorem mailT_one (b : Blk) : mailT [b] = growT b.1 b.2.2 b.2.1 := by unfold mailT; simp
theorem planT_one (b : Blk) : planT [b] = planL b.1 b.2.1 b.2.2 := by unfold planT; simp
theorem mailT_len : ∀ bs : List Blk, (∀ b ∈ bs, OkB b) → (mailT bs).length ≤ 2000 * bs.length
  | [], _ => by simp [mailT]
  | b :: bs, h => by
    have ih := mailT_len bs fun q hq => h q (.tail _ hq)
    obtain ⟨h1, h2, h3⟩ := h b (.head _)
    have h4 := growT_small (low := b.1) (way := b.2.2) (i := b.2.1) (by omega) (by omega)
    rw [mail_cons, List.length_append, List.length_cons]
    omega
theorem planT_len : ∀ bs : List Blk, (∀ b ∈ bs, OkB b) → (planT bs).length ≤ 6 * bs.length
  | [], _ => by simp [planT]
  | b :: bs, h => by
    have ih := planT_len bs fun q hq => h q (.tail _ hq)
    obtain ⟨h1, h2, h3⟩ := h b (.head _)
    have h4 : (planL b.1 b.2.1 b.2.2).length ≤ 6 := by
      unfold planL
      rw [List.length_append, List.length_map, List.length_range]
      have : (planHead b.2.1 b.2.2).length ≤ 2 := by unfold planHead; split <;> simp
      omega
    rw [plan_cons, List.length_append, List.length_cons]
    omega
theorem withT {α : Type} {M : Model} {A : Around} {s : Shared} {t : Sem α} {Q : α → Shared → Prop} {E : Value → Shared → Prop} {n : Nat} (hn : n ≤ s.toks) (h : wpAny M A t (fun a s' => n ≤ s'.toks → Q a s') (fun _ _ => False) s) : wpAny M A t Q E s :=
  wpAny_with_toks hn (wpAny_mono h (fun _ _ x => x) fun _ _ x => x.elim)
section
variable {w : World} {mg mb : Str → Option Value} {A : Around} {E : Value → Shared → Prop} {h₀ h : Heap} {L : Addr} {m : Str → Option Value} {news rest : List (Addr × Obj)} {g : Array GenState} {d : Drawn} {tk : Nat} {os : OsState}
theorem law_s1 {Q : Flow → Shared → Prop} {f sa : Addr} {cd : Value} {svs : List Value} {sc : List Int} (G' : Gd w mg mb h₀) (r' : Rm 2 A) (F : Fr h₀ L h m) (N : News h₀ L h news) (hm : m "script" = some (.ref sa)) (hs : h₀.IsList sa svs.toArray) (hsi : Ints svs sc) (hz : sc.length ≤ 63) (hT : 616 ≤ tk)
    (k : ∀ h' tk' m' pl pvs np t ex, 616 ≤ tk' → m' "mail" = some (.str (S (mailT (blocks1 sc))) t) → m' "plan" = some (.ref pl) → m' "script" = some (.ref sa) → Strs pvs (planT (blocks1 sc)) → (∀ p ∈ ex ++ news, p.1 ≠ pl) → Fr h₀ L h' m' → News h₀ L h' ((pl, listOf pvs.toArray np) :: (ex ++ news)) →
      wpAny (model p0 w) A (execs ((bdAt 75).drop 3) (evC 75 L f cd)) Q (fun _ _ => False) ⟨h', g, d, tk', os⟩) :
    wpAny (model p0 w) A (execs (bdAt 75) (evC 75 L f cd)) Q (fun _ _ => False) ⟨h, g, d, tk, os⟩ := by
  obtain ⟨fc, hfc⟩ := G'.has 6 (by decide) (by rfl)
  obtain ⟨fb, hfb⟩ := G'.has 67 (by decide) (by rfl)
  obtain ⟨fp, hfp⟩ := G'.has 68 (by decide) (by rfl)
  obtain ⟨fl, hfl⟩ := G'.has 74 (by decide) (by rfl)
  refine wpAny_execs_cons (wpAny_Assign_Name (cStr' (stE F N (fun h2 F2 N2 => ?_) (by rfl) (by rfl) (by rfl))))
  refine wpAny_execs_cons (wpAny_Assign_Name (List_ (spliced_none ?_)))
  refine newList' F2 N2 (fun pl h3 hpl F3 N3 => ?_) (by exact Nat.le_of_ble_eq_true rfl)
  refine stE F3 N3 (fun h4 F4 N4 => ?_) (by rfl) (by rfl) (by rfl)
  refine wpAny_execs_cons (withT (n := 616) (by show 616 ≤ tk + 1 + 1 + 1; omega) (For_invV h₀ (by rfl) (by rfl) ?_ (by intro _; rfl) (by passes_own)))
  refine callE 74 G' hfl F4 ?_ (by rfl) (by decide) (by rfl) (by rfl) (by rfl) (by rfl) (by rfl) (by decide)
  refine spliced_more (ldE F4 (by exact hm) (spliced_more (List_ (spliced_more (cInt' (spliced_more (cInt' (spliced_more (cInt' (spliced_more (cInt' (spliced_none ?_)))))))))) ) (by rfl) (by rfl) (by rfl) (by decide))
  refine newList' F4 N4 (fun cl h5 hcl F5 N5 => ?_) (by exact Nat.le_of_ble_eq_true rfl)
  refine spliced_more (cInt' (spliced_none ⟨F5.keep, ?_⟩))
  refine c_cells (most := 1000000) G' hfl (r'.mono (by decide)) F5 N5 hcl hs hsi (.cons (.cons (.cons (.cons .nil)))) (by decide) (by decide) (by omega) (by decide) fun cvs nc h6 tk6 hcv F6 N6 => ?_
  have hcvl := hcv.length.trans (cellsL_len sc 1000000 [4, 9, 0, 2] sc.length)
  replace N6 : News h₀ L h6 ((pl, listOf ([] : List Value).toArray 0) :: ([(cl, listOf cvs.toArray nc)] ++ news)) := News.sub N6 fun p hp => by
    simp only [List.mem_cons, List.mem_append, List.not_mem_nil, or_false] at hp ⊢
    rcases hp with h | h | h
    · exact .inr (.inl h)
    · exact .inl h
    · exact .inr (.inr h)
  have hap : ∀ p ∈ [(cl, listOf cvs.toArray nc)] ++ news, p.1 ≠ pl := fun p hp => by
    rcases List.mem_cons.mp hp with rfl | hp
    · exact (hcl _ (.head _)).symm
    · exact hpl p hp
  generalize hbase : [(cl, listOf cvs.toArray nc)] ++ news = base at N6 hap
  refine list' (fun i m' news' => ∃ pl pvs np t, news' = (pl, listOf pvs.toArray np) :: base ∧ (∀ p ∈ base, p.1 ≠ pl) ∧ Strs pvs (planT ((blocks1 sc).take i)) ∧ m' "mail" = some (.str (S (mailT ((blocks1 sc).take i))) t) ∧ m' "plan" = some (.ref pl) ∧ m' "script" = some (.ref sa)) r'.hh (News.list N6 (.tail _ (by rw [← hbase]; exact .head _))) F6 N6 ⟨pl, [], 0, _, rfl, hap, .nil, by rw [show mailT ((blocks1 sc).take 0) = [] from rfl, ← empty_S]; rfl, by rfl, by exact hm⟩ ?turn ?done
  case done =>
    rintro m₁ news₁ h tk ⟨pl, pvs, np, t, rfl, hap, hpv, h1, h2, h3⟩ F7 N7 hT7
    have hbl : (blocks1 sc).length = cvs.length := by unfold blocks1 cellsN; rw [List.length_map, List.length_map, cellsL_len, hcvl]
    rw [← hbl, List.take_length] at hpv h1
    rw [← hbase] at N7 hap
    exact k h tk m₁ pl pvs np t _ hT7 h1 h2 h3 hpv hap F7 N7
  case turn =>
    rintro i v m₁ news₁ h tk own hi ⟨pl, pvs, np, t, rfl, hap, hpv, h1, h2, h3⟩ hoff F7 N7
    obtain ⟨x, tx, hx, rfl⟩ := hcv.at hi
    obtain ⟨hx0, hx1⟩ := cells_bound sc _ x (List.mem_of_getElem? hx)
    have hxn : (blocks1 sc)[i]? = some (blk x.toNat) := by unfold blocks1 cellsN; rw [List.getElem?_map, List.getElem?_map, hx]; rfl
    obtain ⟨c, rfl⟩ : ∃ c : Nat, x = (c : Int) := ⟨x.toNat, (Int.toNat_of_nonneg hx0).symm⟩
    rw [Int.toNat_natCast] at hxn
    have hcb : c ≤ 100000000 := by omega
    have htk : (blocks1 sc).take (i + 1) = (blocks1 sc).take i ++ [blk c] := by rw [List.take_add_one, hxn]; rfl
    have h4 : c % 4 < 4 := Nat.mod_lt _ (by decide)
    refine wpAny_execs_cons (wpAny_Assign_Name (wpAny_BinOp (cInt' (wpAny_BinOp (ldE F7 (by rfl) (cInt' ?_) (by rfl) (by rfl) (by rfl) (by decide))))))
    refine mod' (b := 4) rfl (by decide) (add' (c := ((1 + c % 4 : Nat) : Int)) (by omega) ?_)
    refine stE F7 N7 (fun h8 F8 N8 => ?_) (by rfl) (by rfl) (by rfl)
    refine wpAny_execs_cons (wpAny_Assign_Name (wpAny_BinOp (cInt' (wpAny_BinOp (wpAny_BinOp (ldE F8 (by rfl) (cInt' ?_) (by rfl) (by rfl) (by rfl) (by decide)))))))
    refine div' (b := 4) rfl (by decide) (by decide) (wpAny_BinOp (cInt' (ldE F8 (by rfl) ?_ (by rfl) (by rfl) (by rfl) (by decide))))
    refine sub' (c := ((5 - (1 + c % 4) : Nat) : Int)) (by omega) (mod' (b := 5 - (1 + c % 4)) rfl (by omega) (add' (c := ((1 + c / 4 % (5 - (1 + c % 4)) : Nat) : Int)) (by omega) ?_))
    have hsz : c / 4 % (5 - (1 + c % 4)) < 5 - (1 + c % 4) := Nat.mod_lt _ (by omega)
    refine stE F8 N8 (fun h9 F9 N9 => ?_) (by rfl) (by rfl) (by rfl)
    obtain ⟨m9, q1, q2, q3, q4, q5, q6, F9⟩ : ∃ m9 : Str → Option Value, m9 "cell" = some (.int (c : Nat) tx) ∧ (∃ t, m9 "low" = some (.int ((1 + c % 4 : Nat) : Int) t)) ∧ (∃ t, m9 "size" = some (.int ((1 + c / 4 % (5 - (1 + c % 4)) : Nat) : Int) t)) ∧ m9 "mail" = some (.str (S (mailT ((blocks1 sc).take i))) t) ∧ m9 "plan" = some (.ref pl) ∧ m9 "script" = some (.ref sa) ∧ Fr h₀ L h9 m9 := ⟨_, by rfl, ⟨_, by rfl⟩, ⟨_, by rfl⟩, by exact h1, by exact h2, by exact h3, F9⟩
    obtain ⟨tl, q2⟩ := q2
    obtain ⟨ts, q3⟩ := q3
    clear F7 N7 F8 N8 h1 h2 h3
    generalize hlow : 1 + c % 4 = low at q2 q3 hsz
    generalize hsize : 1 + c / 4 % (5 - low) = size at q3
    have hblk : blk c = (low, size, c / 16) := by unfold blk; rw [hlow, hsize]
    have hml := mailT_len ((blocks1 sc).take i) (fun b hb => by obtain ⟨c, _, rfl⟩ := List.mem_map.mp (List.mem_of_mem_take hb); exact blk_ok c)
    have hil : i < 4 := by
      have := (List.getElem?_eq_some_iff.mp hi).1
      have h5 : [(4 : Int), 9, 0, 2].length = 4 := rfl
      omega
    rw [List.length_take] at hml
    have hgr := growT_small (low := low) (way := c / 16) (i := size) (by omega) (by omega)
    refine wpAny_execs_cons (wpAny_Assign_Name ?_)
    refine callE 6 G' hfc F9 ?_ (by rfl) (by decide) (by rfl) (by rfl) (by rfl) (by rfl) (by rfl) (by decide)
    refine spliced_more (ldE F9 q4 (spliced_more ?_) (by rfl) (by rfl) (by rfl) (by decide))
    refine callE 67 G' hfb F9 ?_ (by rfl) (by decide) (by rfl) (by rfl) (by rfl) (by rfl) (by rfl) (by decide)
    refine spliced_more (ldE F9 q2 (spliced_more (ldE F9 q3 (spliced_more (wpAny_BinOp (ldE F9 q1 (cInt' ?_) (by rfl) (by rfl) (by rfl) (by decide)))) (by rfl) (by rfl) (by rfl) (by decide))) (by rfl) (by rfl) (by rfl) (by decide))
    refine div' (b := 16) rfl (by decide) (by decide) (spliced_none ⟨F9.keep, ?_⟩)
    refine c_block G' hfb r' F9 N9 (by omega) (by omega) (by omega) fun h10 tk10 t10 F10 N10 => spliced_none ⟨F10.keep, ?_⟩
    refine concat' G' hfc (r'.mono (by decide)) F10 N10 (by omega) fun h11 tk11 t11 F11 N11 => ?_
    refine stE F11 N11 (fun h12 F12 N12 => ?_) (by rfl) (by rfl) (by rfl)
    refine wpAny_execs_cons (wpAny_Assign_Name (wpAny_BinOp (ldE F12 (by exact q5) ?_ (by rfl) (by rfl) (by rfl) (by decide))))
    refine callE 68 G' hfp F12 ?_ (by rfl) (by decide) (by rfl) (by rfl) (by rfl) (by rfl) (by rfl) (by decide)
    refine spliced_more (ldE F12 (by exact q2) (spliced_more (ldE F12 (by exact q3) (spliced_more (wpAny_BinOp (ldE F12 (by exact q1) (cInt' ?_) (by rfl) (by rfl) (by rfl) (by decide)))) (by rfl) (by rfl) (by rfl) (by decide))) (by rfl) (by rfl) (by rfl) (by decide))
    refine div' (b := 16) rfl (by decide) (by decide) (spliced_none ⟨F12.keep, ?_⟩)
    refine c_plan G' hfp r' F12 N12 (by omega) (by omega) (by omega) (by omega) fun pl2 pvs2 np2 h13 tk13 hpv2 hap2 F13 N13 => ?_
    have hpl2 := planT_len ((blocks1 sc).take i) (fun b hb => by obtain ⟨c, _, rfl⟩ := List.mem_map.mp (List.mem_of_mem_take hb); exact blk_ok c)
    rw [List.length_take] at hpl2
    have hpl3 := planT_len [(low, size, c / 16)] (fun b hb => by rw [List.mem_singleton.mp hb, ← hblk]; exact blk_ok c)
    rw [planT_one, List.length_singleton] at hpl3
    have hpvl := hpv.length
    have hpvl2 := hpv2.length
    refine addL' F13 N13 (News.list N13 (.tail _ (List.mem_append_right _ (.head _)))) (News.list N13 (.head _)) (by simp only at hpl3; omega) fun pl3 h14 hap3 F14 N14 => ?_
    refine stE F14 N14 (fun h15 F15 N15 => wpAny_execs_nil ?_) (by rfl) (by rfl) (by rfl)
    refine TEnd.go' F15 (news' := (pl3, listOf (pvs ++ pvs2).toArray 0) :: base) (News.sub N15 fun p hp => ?_) (fun q hq => ?_) ⟨pl3, pvs ++ pvs2, 0, t11, rfl, fun p hp => hap3 p (.tail _ (List.mem_append_right _ (.tail _ hp))), ?_, ?_, by rfl, by exact q6⟩
    · simp only [List.mem_cons, List.mem_append] at hp ⊢
      rcases hp with h | h | h
      · exact .inr (.inr (.inl h))
      · exact .inl h
      · exact .inr (.inr (.inr (.inr h)))
    · rcases List.mem_cons.mp hq with rfl | hq
      · exact .inr (.inr fun p hp => hap3 p (.tail _ (List.mem_append_left _ hp)))
      · exact .inl ⟨q.2, .tail _ hq⟩
    · rw [htk, planT_app, planT_one, hblk]
      exact hpv.append hpv2
    · rw [htk, mailT_app, mailT_one, hblk]
      rfl
end
end
end Mine
end
section
open PySem PySem.W PyProof.Rows PySem.Calls
set_option maxRecDepth 100000
set_option maxHeartbeats 4000000
namespace Mine
noncomputable section
theorem kVals_dat {ex : List (Addr × Obj)} (ps : List (Int × Tok)) : DatAll ex (kVals ps) ((ps.map (·.1)).map Dat.int) := (kVals_ints ps).dat
theorem RowsIn.dat {ex : List (Addr × Obj)} : ∀ {vs : List Value} {kss : List (List (Int × Tok))}, RowsIn ex vs kss → DatAll ex vs (kss.map fun ps => Dat.list ((ps.map (·.1)).map Dat.int))
  | _, _, .nil => .nil
  | _, _, .cons (ps := ps) i a => .cons (.list i (kVals_dat ps)) a.dat
theorem IntsIn.dat {ex : List (Addr × Obj)} : ∀ {vs : List Value} {iss : List (List Int)}, IntsIn ex vs iss → DatAll ex vs (iss.map fun is => Dat.list (is.map Dat.int))
  | _, _, .nil => .nil
  | _, _, .cons i j a => .cons (.list i j.dat) a.dat
theorem LineIn.dat {P : Tok → Prop} {ex : List (Addr × Obj)} : ∀ {vs : List Value} {ln : List (Int × Nat)}, LineIn P ex vs ln → DatAll ex vs (ln.map fun p => Dat.tuple [Dat.int p.1, Dat.int (p.2 : Nat)])
  | _, _, .nil => .nil
  | _, _, .cons i _ a => .cons (.tuple i (.cons (.int _ _) (.cons (.int _ _) .nil))) a.dat
section
variable {w : World} {mg mb : Str → Option Value} {A : Around} {E : Value → Shared → Prop} {h₀ h : Heap} {L : Addr} {m : Str → Option Value} {news rest : List (Addr × Obj)} {g : Array GenState} {d : Drawn} {tk : Nat} {os : OsState}
open Classical in
theorem neEq' {a b : Addr} {xs ys : List Value} {ka kb : Nat} {ds es : List Dat} {n₁ n₂ : List (Addr × Obj)} {Q : Value → Shared → Prop} (N : News h₀ L h news) (ma : (a, listOf xs.toArray ka) ∈ news) (Da : DatAll n₁ xs ds) (sa : ∀ p ∈ n₁, p ∈ news)
    (mb : (b, listOf ys.toArray kb) ∈ news) (Db : DatAll n₂ ys es) (sb : ∀ p ∈ n₂, p ∈ news) (e : ds = es) (ha : ∀ d ∈ ds, kqdOk 8 d = true) (r : Rm 2 A) (q : Q (.bool false) ⟨h, g, d, tk, os⟩) :
    wpAny (model p0 w) A (compareOp .NotEq (.ref a) (.ref b)) Q E ⟨h, g, d, tk, os⟩ := by
  subst e
  refine kqd_ne (s := ⟨h, g, d, tk, os⟩) N ma rfl rfl Da sa mb rfl rfl Db sb ha ha (by have := r.u; unfold cLine; omega) ?_
  rw [decide_eq_true (by rfl)]
  exact q
theorem ok_rows (iss : List (List Int)) : ∀ d ∈ iss.map fun is => Dat.list (is.map Dat.int), kqdOk 8 d = true := by
  intro d hd
  obtain ⟨is, _, rfl⟩ := List.mem_map.mp hd
  show (is.map Dat.int).all (kqdOk 7) = true
  rw [List.all_eq_true]
  intro x hx
  obtain ⟨i, _, rfl⟩ := List.mem_map.mp hx
  rfl
theorem ok_line (ln : List (Int × Nat)) : ∀ d ∈ ln.map fun p => Dat.tuple [Dat.int p.1, Dat.int (p.2 : Nat)], kqdOk 8 d = true := by
  intro d hd
  obtain ⟨p, _, rfl⟩ := List.mem_map.mp hd
  rfl
/-- rows = _law_rows(mail, plan); if rows != _law_due(plan): return False -/
theorem law_rd {Q : Flow → Shared → Prop} {f : Addr} {cd : Value} {x y z : Str} {p1 p2 p3 p4 p5 p6 p7 p8 p9 p10 p11 p12 p13 p14 : Pos} {nb : Nat} {tail : List Stmt} {t : Tok} {pl : Addr} {pvs : List Value} {np : Nat} {bs : List Blk}
    (kx : (evC 75 L f cd).kindOf x = some .local) (ky : (evC 75 L f cd).kindOf y = some .local) (kz : (evC 75 L f cd).kindOf z = some .local) (dx : (x == ("__debug__" : Str)) = false) (dy : (y == ("__debug__" : Str)) = false) (dz : (z == ("__debug__" : Str)) = false) (hxz : z ≠ x)
    (G' : Gd w mg mb h₀) (r' : Rm 2 A) (F : Fr h₀ L h m) (N : News h₀ L h news) (hT : 616 ≤ tk) (hy : m y = some (.str (S (mailT bs)) t)) (hz : m z = some (.ref pl)) (hpl : (pl, listOf pvs.toArray np) ∈ news) (hpv : Strs pvs (planT bs)) (hb : ∀ b ∈ bs, OkB b) (hbl : bs.length ≤ 4)
    (k : ∀ h' tk' rl rws nr ex, 616 ≤ tk' → RowsIn ex rws ((planT bs).map ksOf) → Fr h₀ L h' (fun u => if u = x then some (.ref rl) else m u) → News h₀ L h' ((rl, listOf rws.toArray nr) :: (ex ++ news)) →
      wpAny (model p0 w) A (execs tail (evC 75 L f cd)) Q (fun _ _ => False) ⟨h', g, d, tk', os⟩) :
    wpAny (model p0 w) A (execs (.Assign [.Name x p1] (.Call (.Name "_law_rows" p2) [.Name y p3, .Name z p4] [] p5) p6 :: .If (.Compare (.Name x p7) [.NotEq] [.Call (.Name "_law_due" p8) [.Name z p9] [] p10] p11) [.Return (some (.Constant (.bool false) nb p12)) p13] [] p14 :: tail) (evC 75 L f cd)) Q (fun _ _ => False) ⟨h, g, d, tk, os⟩ := by
  obtain ⟨fr, hfr⟩ := G'.has 71 (by decide) (by rfl)
  obtain ⟨fd, hfd⟩ := G'.has 69 (by decide) (by rfl)
  have hrow := fun r hr => rowFacts (plan_rows hb r hr)
  have hml := mailT_len bs hb
  have hpl2 := planT_len bs hb
  refine wpAny_execs_cons (withT (n := 616) hT (wpAny_Assign_Name ?_ (by rfl)))
  refine callE 71 G' hfr F ?_ (by rfl) (by decide) (by rfl) (by rfl) (by rfl) (by rfl) (by rfl) (by decide)
  refine spliced_more (ldE F hy (spliced_more (ldE F hz (spliced_none ⟨F.keep, ?_⟩) (by rfl) (by rfl) kz dz)) (by rfl) (by rfl) ky dy)
  refine c_rows G' hfr r' F N hpl hpv (by omega) (by omega) (fun r hr => ⟨(hrow r hr).n13, Nat.le_trans (hrow r hr).len (by decide), (hrow r hr).kinds⟩) (mail_fix bs hb) (mail_quote hb) fun rl nr rws ex h2 tk2 hrws hap F2 N2 => ?_
  refine stE F2 N2 (fun h3 F3 N3 hT3 => ?_) (by rfl) (by rfl) kx
  refine wpAny_execs_cons (withT (n := 616) hT3 (wpAny_If (wpAny_isTrue_Compare1 (ldE F3 (by rw [if_pos rfl]) ?_ (by rfl) (by rfl) kx dx) (by rfl))))
  refine callE 69 G' hfd F3 ?_ (by rfl) (by decide) (by rfl) (by rfl) (by rfl) (by rfl) (by rfl) (by decide)
  refine spliced_more (ldE F3 (by rw [if_neg hxz]; exact hz) (spliced_none ⟨F3.keep, ?_⟩) (by rfl) (by rfl) kz dz)
  refine c_due G' hfd (r'.mono (by decide)) F3 N3 (.tail _ (List.mem_append_right _ hpl)) hpv (by omega) (fun r hr => ⟨Nat.le_trans (hrow r hr).len (by decide), (hrow r hr).due⟩) fun dl nd dws ex2 h4 tk4 hdws hap2 F4 N4 => ?_
  refine neEq' N4 (.tail _ (List.mem_append_right _ (.head _))) hrws.dat (fun p hp => .tail _ (List.mem_append_right _ (.tail _ (List.mem_append_left _ hp)))) (.head _) hdws.dat (fun p hp => .tail _ (List.mem_append_left _ hp)) ?_ (fun d hd => ?_) r' (wpAny_truthy_bool ?_)
  · rw [List.map_map, List.map_map]
    apply List.map_congr_left
    intro r hr
    show Dat.list (((ksOf r).map (·.1)).map Dat.int) = Dat.list ((dueK r).map Dat.int)
    rw [(hrow r hr).same]
  · have e : ((planT bs).map ksOf).map (fun ps => Dat.list ((ps.map (·.1)).map Dat.int)) = (((planT bs).map ksOf).map (·.map (·.1))).map fun is => Dat.list (is.map Dat.int) := by rw [List.map_map, List.map_map, List.map_map]; rfl
    rw [e] at hd
    exact ok_rows _ d hd
  rw [if_neg (by decide)]
  refine wpAny_execs_nil fun hT4 => ?_
  exact k h4 tk4 rl rws nr ex hT4 hrws F4 (News.sub N4 fun p hp => .tail _ (List.mem_append_right _ hp))
end
end
end Mine
end
section
open PySem PySem.W PyProof.Rows PySem.Calls
set_option maxRecDepth 100000
set_option maxHeartbeats 4000000
namespace Mine
noncomputable section
theorem IntsP.append {P : Tok → Prop} : ∀ {vs ws : List Value} {rs qs : List Int}, IntsP P vs rs → IntsP P ws qs → IntsP P (vs ++ ws) (rs ++ qs)
  | _, _, _, _, .nil, h => h
  | _, _, _, _, .cons p a, h => .cons p (a.append h)
theorem plan_js_ok {bs : List Blk} (h : ∀ b ∈ bs, OkB b) : ∀ j ∈ (planT bs).filterMap jOf, 1 ≤ j ∧ j < 5 := by
  intro j hj
  obtain ⟨r, hr, he⟩ := List.mem_filterMap.mp hj
  obtain ⟨h1, h2, _⟩ := (rowFacts (plan_rows h r hr)).sign j he
  exact ⟨h1, h2⟩
theorem led_ok {bs : List Blk} (hb : ∀ b ∈ bs, OkB b) (gs : List Int) (hg : gs.length = 5) : ∀ ps ∈ (planT bs).map ksOf, LedOk gs.length ps := by
  intro ps hps
  obtain ⟨r, hr, rfl⟩ := List.mem_map.mp hps
  rw [hg]
  exact (rowFacts (plan_rows hb r hr)).ledOk
theorem walk_ok {bs : List Blk} (hb : ∀ b ∈ bs, OkB b) (gs : List Int) (hg : gs.length = 5) : ∀ r ∈ planT bs, WalkOk gs.length r := by
  intro r hr
  rw [hg]
  exact (rowFacts (plan_rows hb r hr)).walkOk
theorem line0_len (gs : List Int) : (line0 gs).length = gs.length := by simp [line0]
theorem line0_vals (gs : List Int) : (line0 gs).map (·.1) = gs := by
  unfold line0
  exact List.zipIdx_map_fst _ _
def five1 : List Int := [5, 4, 3, 2, 1]
section
variable {w : World} {mg mb : Str → Option Value} {A : Around} {E : Value → Shared → Prop} {h₀ h : Heap} {L : Addr} {m : Str → Option Value} {news rest : List (Addr × Obj)} {g : Array GenState} {d : Drawn} {tk : Nat} {os : OsState}
theorem law_s3 {Q : Flow → Shared → Prop} {f rl pl : Addr} {cd : Value} {rws pvs : List Value} {nr np : Nat} {bs : List Blk} (G' : Gd w mg mb h₀) (r' : Rm 2 A) (F : Fr h₀ L h m) (N : News h₀ L h news) (hT : 616 ≤ tk)
    (h1 : m "rows" = some (.ref rl)) (h2 : m "plan" = some (.ref pl)) (hrl : (rl, listOf rws.toArray nr) ∈ news) (hrs : RowsIn news rws ((planT bs).map ksOf)) (hpl : (pl, listOf pvs.toArray np) ∈ news) (hpv : Strs pvs (planT bs)) (hb : ∀ b ∈ bs, OkB b) (hbl : bs.length ≤ 4)
    (k : ∀ h' tk' m' T ll lvs n bl t ex, 616 ≤ T → T ≤ tk' → IntsP (fun t => t ≠ 0 ∧ t < T) lvs ((runN ((planT bs).filterMap jOf) [5, 4, 3, 2, 1]).map Int.ofNat) → (∀ u : Str, u ≠ "made" → u ≠ "last" → u ≠ "short" → u ≠ "blocks" → m' u = m u) → m' "last" = some (.ref ll) → m' "short" = some (.str (S []) t) → m' "blocks" = some (.ref bl) →
      (∀ p ∈ (ll, listOf lvs.toArray n) :: (ex ++ news), p.1 ≠ bl) → Fr h₀ L h' m' → News h₀ L h' ((bl, listOf ([] : List Value).toArray 0) :: (ll, listOf lvs.toArray n) :: (ex ++ news)) →
      wpAny (model p0 w) A (execs ((bdAt 75).drop 10) (evC 75 L f cd)) Q (fun _ _ => False) ⟨h', g, d, tk', os⟩) :
    wpAny (model p0 w) A (execs ((bdAt 75).drop 5) (evC 75 L f cd)) Q (fun _ _ => False) ⟨h, g, d, tk, os⟩ := by
  obtain ⟨fl, hfl⟩ := G'.has 72 (by decide) (by rfl)
  obtain ⟨fw, hfw⟩ := G'.has 73 (by decide) (by rfl)
  have hpl2 := planT_len bs hb
  refine wpAny_execs_cons (withT (n := tk) (Nat.le_refl _) (wpAny_Assign_Name ?_))
  refine callE 72 G' hfl F ?_ (by rfl) (by decide) (by rfl) (by rfl) (by rfl) (by rfl) (by rfl) (by decide)
  refine spliced_more (ldE F h1 (spliced_more (List_ (spliced_more (cInt' (spliced_more (cInt' (spliced_more (cInt' (spliced_more (cInt' (spliced_more (cInt' (spliced_none ?_))))))))))))) (by rfl) (by rfl) (by rfl) (by decide))
  refine newList' F N (fun gl h3 hgl F3 N3 => spliced_none ⟨F3.keep, ?_⟩) (by exact Nat.le_of_ble_eq_true rfl)
  have hg1 : IntsP (fun t => t ≠ 0 ∧ t < tk + 5) [.int 5 tk, .int 4 (tk + 1), .int 3 (tk + 1 + 1), .int 2 (tk + 1 + 1 + 1), .int 1 (tk + 1 + 1 + 1 + 1)] five1 := by
    have e0 : ∀ t : Nat, tk ≤ t → t < tk + 5 → (t ≠ 0 ∧ t < tk + 5) := fun t a b => ⟨by omega, b⟩
    exact .cons (e0 _ (by omega) (by omega)) (.cons (e0 _ (by omega) (by omega)) (.cons (e0 _ (by omega) (by omega)) (.cons (e0 _ (by omega) (by omega)) (.cons (e0 _ (by omega) (by omega)) .nil))))
  refine c_led G' hfl r' F3 N3 (by omega) (.tail _ hrl) (hrs.mono fun p hp => .tail _ hp) (.head _) hg1 (by decide) (by rw [List.length_map]; omega) (led_ok hb five1 rfl) fun md nm mws ex4 h4 tk4 hT4 hmws hap4 F4 N4 => ?_
  rw [led_walk _ _ (plan_rows hb) (by rw [line0_len]; rfl)] at hmws
  refine stE F4 N4 (fun h5 F5 N5 _ => ?_) (by rfl) (by rfl) (by rfl)
  replace hT4 : tk + 5 ≤ tk4 := hT4
  refine wpAny_execs_cons (withT (n := tk + 5) (by show tk + 5 ≤ tk4 + 1; omega) (wpAny_If (wpAny_isTrue_Compare1 (ldE F5 (by rfl) ?_ (by rfl) (by rfl) (by rfl) (by decide)) (by rfl))))
  refine callE 73 G' hfw F5 ?_ (by rfl) (by decide) (by rfl) (by rfl) (by rfl) (by rfl) (by rfl) (by decide)
  refine spliced_more (ldE F5 (by exact h2) (spliced_more (List_ (spliced_more (cInt' (spliced_more (cInt' (spliced_more (cInt' (spliced_more (cInt' (spliced_more (cInt' (spliced_none ?_))))))))))))) (by rfl) (by rfl) (by rfl) (by decide))
  refine newList' F5 N5 (fun gl2 h6 hgl2 F6 N6 => spliced_none ⟨F6.keep, ?_⟩) (by exact Nat.le_of_ble_eq_true rfl)
  refine c_walked G' hfw r' F6 N6 (.tail _ (.tail _ (List.mem_append_right _ (.tail _ hpl)))) hpv (.head _) (gs := five1) (P := fun _ => True) (.cons trivial (.cons trivial (.cons trivial (.cons trivial (.cons trivial .nil))))) (by decide) (walk_ok hb five1 rfl) fun wd nw wws ex7 h7 tk7 hwws hap7 F7 N7 => ?_
  refine neEq' N7 (.tail _ (List.mem_append_right _ (.tail _ (.head _)))) hmws.dat (fun p hp => .tail _ (List.mem_append_right _ (.tail _ (.tail _ (List.mem_append_left _ hp))))) (.head _) hwws.dat (fun p hp => .tail _ (List.mem_append_left _ hp)) rfl (ok_line _) r' (wpAny_truthy_bool ?_)
  rw [if_neg (by decide)]
  refine wpAny_execs_nil fun hT7 => ?_
  replace N7 : News h₀ L h7 ((md, listOf mws.toArray nm) :: (ex4 ++ news)) := News.sub N7 fun p hp => by
    rcases List.mem_cons.mp hp with rfl | hp
    · exact .tail _ (List.mem_append_right _ (.tail _ (.head _)))
    · refine .tail _ (List.mem_append_right _ (.tail _ (.tail _ ?_)))
      rcases List.mem_append.mp hp with hp | hp
      · exact List.mem_append_left _ hp
      · exact List.mem_append_right _ (.tail _ hp)
  obtain ⟨m7, q1, q2, F8⟩ : ∃ m7 : Str → Option Value, (∀ u : Str, u ≠ "made" → m7 u = m u) ∧ m7 "made" = some (.ref md) ∧ Fr h₀ L h7 m7 := ⟨_, fun u hu => if_neg hu, by rfl, F7⟩
  clear F3 N3 F4 N4 F5 N5 F6 N6 F7 hwws hap7
  have hll : ((planT bs).foldl walkStep (line0 five1)).length = 5 := by rw [walk_len _ _ (by rw [line0_len]; exact walk_ok hb five1 rfl), line0_len]; rfl
  have hvals : ((planT bs).foldl walkStep (line0 five1)).map (·.1) = (runN ((planT bs).filterMap jOf) [5, 4, 3, 2, 1]).map Int.ofNat := by
    rw [walk_run _ _ (plan_rows hb) (by rw [line0_len]; rfl), line0_vals, ← runZ_cast]
    rfl
  refine wpAny_execs_cons (withT (n := tk + 5) hT7 ?_)
  refine comp_assign (cl := []) ?hsw ?hclos ?_ (by intro _; rfl) (by rfl) ?hnames
  case hsw => rfl
  case hclos => rfl
  case hnames => decide
  refine ldE F8 q2 ?_ (by rfl) (by rfl) (by rfl) (by decide)
  refine compLU (by rfl) (by decide) (by rfl) r'.hh (News.list N7 (.head _)) (by rw [hmws.length, hll]; decide) F8 N7 (by rfl) (by rfl) (fun i ys ex => ex = [] ∧ IntsP (fun t => t ≠ 0 ∧ t < tk + 5) ys ((((planT bs).foldl walkStep (line0 five1)).map (·.1)).take i)) ⟨rfl, .nil⟩ (fun C g₁ D up E' i v ys ex h tk m₁ own k hi hJ hl F6 N6 => ?_) (fun D ys ex h' tk' k' hJ hl hne F9 N9 hT9 => ?_)
  · obtain ⟨rfl, hys⟩ := hJ
    have hi2 : i < ((planT bs).foldl walkStep (line0 five1)).length := by rw [← hmws.length]; exact (List.getElem?_eq_some_iff.mp hi).1
    obtain ⟨a, ta, ua, ha1, ha2, ha3⟩ := hmws.get hi2
    rw [hi] at ha1
    obtain rfl := Option.some.inj ha1
    refine Subscript_ (ldE F6 (by rfl) (cInt' ?_) (by rfl) (by rfl) (by rfl) (by decide))
    have htup : IsTup h a ([.int (((planT bs).foldl walkStep (line0 five1)).getD i (0, 0)).1 ta, .int ((((planT bs).foldl walkStep (line0 five1)).getD i (0, 0)).2 : Nat) ua] : List Value).toArray := (News.tup N7 (.tail _ (List.mem_append_left _ ha2))).keeps fun b o e => F6.keep _ _ (up _ _ e)
    refine itemT' htup (k := 0) rfl (by decide) rfl ?_ (by with_unfolding_all rfl)
    refine ⟨h, _, _, [], rfl, F6, N6, fun p hp => absurd hp List.not_mem_nil, rfl, ?_⟩
    rw [List.take_add_one, List.getElem?_map, List.getElem?_eq_getElem hi2]
    refine hys.append ?_
    have e : (((planT bs).foldl walkStep (line0 five1)).getD i (0, 0)).1 = (((planT bs).foldl walkStep (line0 five1))[i]).1 := by rw [List.getD_eq_getElem?_getD, List.getElem?_eq_getElem hi2]; rfl
    rw [e]
    exact .cons ha3 .nil
  obtain ⟨rfl, hys⟩ := hJ
  rw [hmws.length, ← List.length_map (f := fun p : Int × Nat => p.1), List.take_length, hvals] at hys
  refine wpAny_execs_cons (withT (n := tk + 5) hT9 (wpAny_Assign_Name (cStr' (stE F9 N9 (fun h10 F10 N10 hT10 => ?_) (by rfl) (by rfl) (by rfl)))))
  refine wpAny_execs_cons (withT (n := tk + 5) hT10 (wpAny_Assign_Name (List_ (spliced_none ?_))))
  refine newList' F10 N10 (fun bl h11 hbl2 F11 N11 => ?_) (by exact Nat.le_of_ble_eq_true rfl)
  refine stE F11 N11 (fun h12 F12 N12 hT12 => ?_) (by rfl) (by rfl) (by rfl)
  refine k h12 _ _ (tk + 5) D ys k' bl _ ((md, listOf mws.toArray nm) :: ex4) (Nat.le_trans hT (Nat.le_add_right _ _)) hT12 hys (fun u a b c e => ?_) (by rfl) (by rw [← empty_S]; rfl) (by rfl) hbl2 F12 N12
  · show (if u = _ then _ else if u = _ then _ else if u = _ then _ else m7 u) = m u
    rw [if_neg e, if_neg c, if_neg b]
    exact q1 u a
end
end
end Mine
end
section
open PySem PySem.W PyProof.Rows PySem.Calls
set_option maxRecDepth 100000
set_option maxHeartbeats 4000000
namespace Mine
noncomputable section
theorem chk5 : (perms.all fun p => Nat.beq p.length 5 && p.all fun x => Nat.ble x 5) = true := by kernel_rfl!
theorem perm_facts {p : List Nat} (hp : p ∈ perms) : p.length = 5 ∧ ∀ x ∈ p, x ≤ 5 := by
  have h := List.all_eq_true.mp chk5 p hp
  obtain ⟨h1, h2⟩ := Bool.and_eq_true_iff.mp h
  exact ⟨Nat.eq_of_beq_eq_true h1, fun x hx => Nat.le_of_ble_eq_true (List.all_eq_true.mp h2 x hx)⟩
theorem small5 : ∀ x : Nat, x ≤ 5 → smallInt (Int.ofNat x) = true := by
  intro x hx
  match x, hx with
  | 0, _ => decide
  | 1, _ => decide
  | 2, _ => decide
  | 3, _ => decide
  | 4, _ => decide
  | 5, _ => decide
def eqI (c : Int) : Value → Bool | .int x _ => x == c | _ => false
def isT : Value → Bool | .bool b => b == true | _ => false
theorem IntsP.mem {P : Tok → Prop} : ∀ {vs : List Value} {rs : List Int}, IntsP P vs rs → ∀ v ∈ vs, ∃ i t, v = .int i t ∧ P t ∧ i ∈ rs
  | _, _, .nil, _, h => by cases h
  | _, _, .cons p a, v, h => by
    rcases List.mem_cons.mp h with rfl | h
    · exact ⟨_, _, rfl, p, .head _⟩
    · obtain ⟨i, t, h1, h2, h3⟩ := a.mem v h
      exact ⟨i, t, h1, h2, .tail _ h3⟩
theorem IntsP.drop {P : Tok → Prop} : ∀ {vs : List Value} {rs : List Int}, IntsP P vs rs → ∀ k : Nat, IntsP P (vs.drop k) (rs.drop k)
  | _, _, h, 0 => h
  | _, _, .nil, _ + 1 => .nil
  | _, _, .cons p a, k + 1 => a.drop k
theorem first_at {P : Tok → Prop} {vs : List Value} {p : List Nat} (h : IntsP P vs (p.map Int.ofNat)) (c : Nat) (hc : p.findIdx (· == c) < p.length) :
    (∃ v, vs[p.findIdx (· == c)]? = some v ∧ eqI (c : Nat) v = true) ∧ ∀ j < p.findIdx (· == c), ∀ v, vs[j]? = some v → eqI (c : Nat) v = false := by
  refine ⟨?_, fun j hj v hv => ?_⟩
  · obtain ⟨t, h1, _⟩ := h.get (i := p.findIdx (· == c)) (by simpa using hc)
    refine ⟨_, h1, ?_⟩
    have h2 := List.findIdx_getElem (xs := p) (p := (· == c)) (w := hc)
    show ((p.map Int.ofNat).getD _ 0 == (c : Int)) = true
    rw [List.getD_eq_getElem?_getD, List.getElem?_map, List.getElem?_eq_getElem hc]
    have h3 := beq_iff_eq.mp h2
    show (Int.ofNat p[List.findIdx (fun x => x == c) p] == (c : Int)) = true
    rw [h3]
    exact beq_self_eq_true _
  · have hjl : j < p.length := Nat.lt_trans hj hc
    obtain ⟨t, h1, _⟩ := h.get (i := j) (by simpa using hjl)
    rw [hv] at h1
    obtain rfl := Option.some.inj h1
    have h2 := List.not_of_lt_findIdx hj
    show ((p.map Int.ofNat).getD j 0 == (c : Int)) = false
    rw [List.getD_eq_getElem?_getD, List.getElem?_map, List.getElem?_eq_getElem hjl]
    have h3 : ¬ p[j] = c := by simpa using h2
    show (Int.ofNat p[j] == (c : Int)) = false
    rw [beq_eq_false_iff_ne]
    intro e
    exact h3 (Int.ofNat.inj e)
def gtVals (c : Nat) (l : List Nat) : List Value := l.map fun x => .bool (decide ((c : Int) < Int.ofNat x))
theorem gt_count (c : Nat) (l : List Nat) : (gtVals c l).countP isT = l.countP fun x => Nat.blt c x := by
  unfold gtVals
  rw [List.countP_map]
  congr 1
  funext x
  show (decide ((c : Int) < Int.ofNat x) == true) = Nat.blt c x
  rw [Bool.eq_iff_iff, beq_iff_eq, decide_eq_true_eq]
  constructor
  · intro h; exact Nat.ble_eq_true_of_le (Int.ofNat_lt.mp h)
  · intro h; exact Int.ofNat_lt.mpr (Nat.le_of_ble_eq_true h)
def bsI (p : List Nat) (i : Nat) : List Blk := ([1, 2, 3, 4].take i).filterMap fun m => if 0 < sizeM p m then some (m - sizeM p m + 1, sizeM p m, m) else none
theorem bsI_succ (p : List Nat) (i : Nat) (hi : i < 4) : bsI p (i + 1) = bsI p i ++ (if 0 < sizeM p (1 + i) then [(1 + i - sizeM p (1 + i) + 1, sizeM p (1 + i), 1 + i)] else []) := by
  unfold bsI
  have e : ([1, 2, 3, 4] : List Nat).take (i + 1) = [1, 2, 3, 4].take i ++ [1 + i] := by
    match i, hi with
    | 0, _ => rfl
    | 1, _ => rfl
    | 2, _ => rfl
    | 3, _ => rfl
  rw [e, List.filterMap_append]
  congr 1
  rw [List.filterMap_cons]
  by_cases h : 0 < sizeM p (1 + i)
  · rw [if_pos h, if_pos h]; rfl
  · rw [if_neg h, if_neg h]; rfl
theorem bsI_ok {p : List Nat} (hp : p ∈ perms) (i : Nat) : ∀ b ∈ bsI p i, OkB b := by
  intro b hb
  unfold bsI at hb
  obtain ⟨m, hm, he⟩ := List.mem_filterMap.mp hb
  exact blocks2_ok hp b (List.mem_filterMap.mpr ⟨m, List.mem_of_mem_take hm, he⟩)
theorem bsI_len (p : List Nat) (i : Nat) : (bsI p i).length ≤ 4 := by
  unfold bsI
  refine Nat.le_trans (List.length_filterMap_le _ _) ?_
  rw [List.length_take]
  exact Nat.min_le_right _ _
section
variable {w : World} {mg mb : Str → Option Value} {A : Around} {E : Value → Shared → Prop} {h₀ h : Heap} {L : Addr} {m : Str → Option Value} {news rest : List (Addr × Obj)} {g : Array GenState} {d : Drawn} {tk : Nat} {os : OsState}
theorem law_s4 {Q : Flow → Shared → Prop} {f ll bl : Addr} {cd : Value} {lvs : List Value} {nl T : Nat} {t0 : Tok} {p : List Nat} {om : Obj} {v0 : Option Value} (G' : Gd w mg mb h₀) (r' : Rm 2 A) (F : Fr h₀ L h m) (N : News h₀ L h ((bl, listOf ([] : List Value).toArray 0) :: (L + 1, om) :: news)) (hT0 : 616 ≤ T) (hT : T ≤ tk)
    (hp : p ∈ perms) (h1 : m "last" = some (.ref ll)) (h2 : m "short" = some (.str (S []) t0)) (h3 : m "blocks" = some (.ref bl)) (hll : (ll, listOf lvs.toArray nl) ∈ news) (hlv : IntsP (fun t => t ≠ 0 ∧ t < T) lvs (p.map Int.ofNat))
    (hom : om.data = .cell v0) (hbl : ∀ q ∈ (L + 1, om) :: news, q.1 ≠ bl) (hcm : ∀ q ∈ news, q.1 ≠ L + 1)
    (k : ∀ h' tk' m' bl bvs nb t om, T ≤ tk' → Strs bvs (planT (blocks2 p)) → (∀ u : Str, u ≠ "behind" → u ≠ "size" → u ≠ "short" → u ≠ "blocks" → m' u = m u) → m' "short" = some (.str (S (mailT (blocks2 p))) t) → m' "blocks" = some (.ref bl) →
      Fr h₀ L h' m' → News h₀ L h' ((bl, listOf bvs.toArray nb) :: (L + 1, om) :: news) → wpAny (model p0 w) A (execs ((bdAt 75).drop 11) (evC 75 L f cd)) Q (fun _ _ => False) ⟨h', g, d, tk', os⟩) :
    wpAny (model p0 w) A (execs ((bdAt 75).drop 10) (evC 75 L f cd)) Q (fun _ _ => False) ⟨h, g, d, tk, os⟩ := by
  obtain ⟨fc, hfc⟩ := G'.has 6 (by decide) (by rfl)
  obtain ⟨fb, hfb⟩ := G'.has 67 (by decide) (by rfl)
  obtain ⟨fp, hfp⟩ := G'.has 68 (by decide) (by rfl)
  obtain ⟨fi, hfi⟩ := G'.has 9 (by decide) (by rfl)
  obtain ⟨fn, hfn⟩ := G'.has 7 (by decide) (by rfl)
  obtain ⟨fg, hfg⟩ := G'.has 5 (by decide) (by rfl)
  obtain ⟨hp5, hpx⟩ := perm_facts hp
  have hcl : (evC 75 L f cd).cells.lookup (Str.ofString "m") = some (L + 1) := by rfl
  refine wpAny_execs_cons (withT (n := T) hT (wpAny_For ?_ (by intro _; rfl)))
  refine Call_ (bltE G' F (by simp) (by decide) boot_range ?_ (by rfl) (by rfl) (by rfl) (by rfl) (by decide))
  refine callWith_type1 ?_ (by rfl) (by rfl)
  refine spliced_more (cInt' (spliced_more (cInt' (spliced_none ?_))))
  refine withT (n := T) (by show T ≤ tk + 1 + 1; omega) (callRange' F N fun r h5 tk5 t5 u5 v5 hr5 F5 N5 hT5 => ?_)
  refine loopTokR (a := 1) (b := 5) (n := 4) T (fun i m' news' => ∃ om v0 bl bvs nb t, news' = (bl, listOf bvs.toArray nb) :: (L + 1, om) :: news ∧ om.data = .cell v0 ∧ (∀ q ∈ (L + 1, om) :: news, q.1 ≠ bl) ∧ Strs bvs (planT (bsI p i)) ∧ (∀ u : Str, u ≠ "behind" → u ≠ "size" → u ≠ "short" → u ≠ "blocks" → m' u = m u) ∧ m' "short" = some (.str (S (mailT (bsI p i))) t) ∧ m' "blocks" = some (.ref bl))
    hT5 r'.hh hr5 rfl (by decide) F5 N5 ⟨om, v0, bl, [], 0, t0, rfl, hom, hbl, .nil, fun _ _ _ _ _ => rfl, h2, h3⟩ ?turn ?done
  case done =>
    rintro m₁ news₁ h tk hT6 ⟨om, v0, bl, bvs, nb, t, rfl, _, _, hbv, hmu, q1, q2⟩ F6 N6 hT7
    exact k h tk m₁ bl bvs nb t om hT7 hbv hmu q1 q2 F6 N6
  case turn =>
    rintro i t m₁ news₁ h tk own hT6 hi ⟨om, v0, bl, bvs, nb, ts, rfl, hom, hbl, hbv, hmu, q1, q2⟩ hoff F6 N6
    have hmm : (L + 1, om) ∈ own ++ (bl, listOf bvs.toArray nb) :: (L + 1, om) :: news := List.mem_append_right _ (.tail _ (.head _))
    refine wpAny_assign_Name (wpAny_storeName_cell (s := ⟨h, g, d, tk, os⟩) (by rfl) (by rfl) hcl ⟨om, (N6 _ hmm).1, hom⟩ fun h7 hc7 hs7 => ?_)
    obtain ⟨om7, ho7, hd7⟩ := hc7
    have hapc : ∀ q ∈ own ++ (bl, listOf bvs.toArray nb) :: news, q.1 ≠ L + 1 := fun q hq => by
      rcases List.mem_append.mp hq with hq | hq
      · exact hoff _ ⟨om, .tail _ (.head _)⟩ q hq
      · rcases List.mem_cons.mp hq with rfl | hq
        · exact (hbl _ (.head _)).symm
        · exact hcm q hq
    have N6' : News h₀ L h ((L + 1, om) :: (own ++ (bl, listOf bvs.toArray nb) :: news)) := News.sub N6 fun q hq => by
      simp only [List.mem_cons, List.mem_append] at hq ⊢
      rcases hq with h | h | h | h
      · exact .inr (.inr (.inl h))
      · exact .inl h
      · exact .inr (.inl h)
      · exact .inr (.inr (.inr h))
    obtain ⟨F7, N7⟩ := dict_fill F6 N6' hapc hs7 ho7
    clear F6 N6 N6' hs7 hmm
    have hsl := size_le hp (m := 1 + i) (by omega) (by omega)
    have hlvl := hlv.length
    rw [List.length_map] at hlvl
    have hlm := (hmu "last" (by decide) (by decide) (by decide) (by decide)).trans h1
    have hllN : (ll, listOf lvs.toArray nl) ∈ (L + 1, om7) :: (own ++ (bl, listOf bvs.toArray nb) :: news) := .tail _ (List.mem_append_right _ (.tail _ hll))
    generalize hnw : own ++ (bl, listOf bvs.toArray nb) :: news = nw at N7 hapc hllN
    refine wpAny_execs_cons (wpAny_Assign_Name (Subscript_ (ldE F7 hlm (sliceFrom' (wpAny_BinOp ?_)) (by rfl) (by rfl) (by rfl) (by decide))))
    refine callE 9 G' hfi F7 ?_ (by rfl) (by decide) (by rfl) (by rfl) (by rfl) (by rfl) (by rfl) (by decide)
    refine spliced_more (ldE F7 hlm (spliced_more (wpAny_BinOp (cInt' (cellE ⟨om7, (N7 _ (.head _)).1, hd7⟩ ?_ hcl (by rfl) (by rfl) (by decide))))) (by rfl) (by rfl) (by rfl) (by decide))
    refine sub' (c := ((5 - (1 + i) : Nat) : Int)) (by omega) (spliced_none ⟨F7.keep, ?_⟩)
    obtain ⟨⟨v0, hv0, hr0⟩, hlt⟩ := first_at hlv (5 - (1 + i)) (by omega)
    refine c_indexOf (s := ⟨h7, g, d, _, os⟩) G' hfi (r'.mono (by decide)) F7 N7 (News.list N7 hllN) (r := eqI ((5 - (1 + i) : Nat) : Int)) (fun v hv => ?_) hv0 hr0 hlt fun h8 tk8 t8 hT8 F8 N8 => ?_
    · obtain ⟨x, tx, rfl, ⟨hx0, hxT⟩, hxm⟩ := hlv.mem v hv
      obtain ⟨y, hy, rfl⟩ := List.mem_map.mp hxm
      exact alike_int (small5 y (hpx y hy)) hx0 (Nat.succ_ne_zero _) (Nat.ne_of_lt (Nat.lt_of_lt_of_le hxT (Nat.le_succ_of_le hT6)))
    replace hT8 : tk + 1 + 1 ≤ tk8 := hT8
    generalize hn : p.findIdx (· == 5 - (1 + i)) = n at hsl
    refine cInt' (add' (c := ((n + 1 : Nat) : Int)) (by omega) ?_)
    refine listFrom' F8 N8 (News.list N8 hllN) rfl (by omega) (fun be h9 hbe F9 N9 => ?_) (by with_unfolding_all rfl)
    refine stE F9 N9 (fun h10 F10 N10 => ?_) (by rfl) (by rfl) (by rfl)
    have hbv2 := hlv.drop (n + 1)
    rw [← List.map_drop] at hbv2
    have hbl2 := hbv2.length
    rw [List.length_map] at hbl2
    refine wpAny_execs_cons (wpAny_Assign_Name ?_)
    refine callE 7 G' hfn F10 ?_ (by rfl) (by decide) (by rfl) (by rfl) (by rfl) (by rfl) (by rfl) (by decide)
    refine spliced_more (comp_eval (cl := [("m", L + 1)]) ?hclos ?_ (by intro _; rfl) (by rfl) ?hnames)
    case hclos => rfl
    case hnames => decide
    refine ldE F10 (by rfl) ?_ (by rfl) (by rfl) (by rfl) (by decide)
    refine compL (by rfl) (by decide) (by rfl) r'.hh (News.list N10 (.head _)) (by rw [hbl2, List.length_drop]; omega) F10 N10 (fun i' ys ex => ex = [] ∧ ys = (gtVals (5 - (1 + i)) (p.drop (n + 1))).take i') ⟨rfl, rfl⟩ (fun C g₁ D up E' i' v ys ex h tk m₁ own k hi' hJ hl F6 N6 => ?_) (fun D ys ex h11 tk11 k11 hJ hl hne F11 N11 => ?_)
    · obtain ⟨rfl, rfl⟩ := hJ
      have hi2 : i' < (p.drop (n + 1)).length := by rw [← hbl2]; exact (List.getElem?_eq_some_iff.mp hi').1
      obtain ⟨tx, hx, _⟩ := hbv2.get (i := i') (by rw [List.length_map]; exact hi2)
      rw [hi'] at hx
      obtain rfl := Option.some.inj hx
      have G2 : Gd w mg mb g₁ := G'.keeps fun b o e => up b o (F10.keep b o e)
      have hcm2 := F6.keep _ _ (up _ _ (N10 _ (.tail _ (.head _))).1)
      refine callE 5 G2 hfg F6 ?_ (by rfl) (by decide) (by rfl) (by rfl) (by rfl) (by rfl) (by rfl) (by decide)
      refine spliced_more (ldE F6 (by rfl) (spliced_more (wpAny_BinOp (cInt' (cellE ⟨om7, hcm2, hd7⟩ ?_ (by rfl) (by rfl) (by rfl) (by decide))))) (by rfl) (by rfl) (by rfl) (by decide))
      refine sub' (c := ((5 - (1 + i) : Nat) : Int)) (by omega) (spliced_none ⟨F6.keep, ?_⟩)
      refine c_gt (s := ⟨h, g, d, _, os⟩) G2 hfg (r'.mono (by decide)) F6 N6 fun h' tk' F' N' => ?_
      refine ⟨h', tk', _, [], rfl, F', N', fun p hp => absurd hp List.not_mem_nil, rfl, ?_⟩
      unfold gtVals
      rw [List.take_add_one, List.getElem?_map, List.getElem?_eq_getElem hi2]
      congr 1
      rw [List.getD_eq_getElem?_getD, List.getElem?_map, List.getElem?_eq_getElem hi2]
      rfl
    obtain ⟨rfl, rfl⟩ := hJ
    rw [List.take_of_length_le (by unfold gtVals; rw [List.length_map, hbl2]; exact Nat.le_refl _)] at N11
    refine spliced_more (Constant_bool (spliced_none ⟨F11.keep, ?_⟩))
    refine c_countOf (s := ⟨h11, g, d, tk11, os⟩) G' hfn (r'.mono (by decide)) F11 N11 (News.list N11 (.head _)) (r := isT) (fun v hv => ?_) fun h12 tk12 t12 hT12 F12 N12 => ?_
    · obtain ⟨x, _, rfl⟩ := List.mem_map.mp hv
      exact alike_bool _ _
    have hcnt : (gtVals (5 - (1 + i)) (p.drop (n + 1))).countP isT = sizeM p (1 + i) := by
      rw [gt_count]
      unfold sizeM
      rw [hn]
    rw [hcnt]
    refine stE F12 N12 (fun h13 F13 N13 => ?_) (by rfl) (by rfl) (by rfl)
    replace N13 : News h₀ L h13 ((L + 1, om7) :: nw) := News.sub N13 fun q hq => .tail _ (.tail _ hq)
    obtain ⟨m13, u1, u2, u3, u4, F14⟩ : ∃ m13 : Str → Option Value, (∀ u : Str, u ≠ "behind" → u ≠ "size" → u ≠ "short" → u ≠ "blocks" → m13 u = m u) ∧ m13 "short" = some (.str (S (mailT (bsI p i))) ts) ∧ m13 "blocks" = some (.ref bl) ∧ m13 "size" = some (.int (sizeM p (1 + i) : Nat) t12) ∧ Fr h₀ L h13 m13 :=
      ⟨_, fun u a b c e => by
        show (if u = _ then _ else if u = _ then _ else m₁ u) = m u
        rw [if_neg b, if_neg a]
        exact hmu u a b c e, by exact q1, by exact q2, by rfl, F13⟩
    clear F7 N7 F8 N8 F9 N9 F10 N10 F11 N11 F12 N12 F13 hbe hne hT8
    have hblN : (bl, listOf bvs.toArray nb) ∈ (L + 1, om7) :: nw := by rw [← hnw]; exact .tail _ (List.mem_append_right _ (.head _))
    have hcmap : ∀ q ∈ (L + 1, om7) :: news, q.1 ≠ bl := fun q hq => by
      rcases List.mem_cons.mp hq with rfl | hq
      · exact hbl (L + 1, om) (.head _)
      · exact hbl q (.tail _ hq)
    have hml := mailT_len _ (bsI_ok hp i)
    have hbll := bsI_len p i
    have hpll := planT_len _ (bsI_ok hp i)
    refine wpAny_execs_cons (wpAny_If (wpAny_isTrue_Compare1 (ldE F14 u4 (cInt' (gt_int (wpAny_truthy_bool ?_))) (by rfl) (by rfl) (by rfl) (by decide)) (by rfl)))
    by_cases hs0 : 0 < sizeM p (1 + i)
    · rw [if_pos (decide_eq_true (by omega))]
      have he : bsI p (i + 1) = bsI p i ++ [(1 + i - sizeM p (1 + i) + 1, sizeM p (1 + i), 1 + i)] := by rw [bsI_succ p i hi, if_pos hs0]
      have hok := bsI_ok hp (i + 1) (1 + i - sizeM p (1 + i) + 1, sizeM p (1 + i), 1 + i) (by rw [he]; exact List.mem_append_right _ (.head _))
      obtain ⟨ok1, ok2, ok3⟩ := hok
      simp only at ok1 ok2 ok3
      generalize sizeM p (1 + i) = size at *
      have lowE : ∀ (h : Heap) (tk : Nat) (mm : Str → Option Value) (nn : List (Addr × Obj)) (p1 p2 p3 p4 p5 : Pos) (j : Nat) (Q : Value → Shared → Prop), Fr h₀ L h mm → News h₀ L h nn → mm "size" = some (.int (size : Nat) t12) → (L + 1, om7) ∈ nn → (∀ tk' t, Q (.int ((1 + i - size + 1 : Nat) : Int) t) ⟨h, g, d, tk', os⟩) →
          wpAny (model p0 w) A (eval (.BinOp (.BinOp (.Name "m" p1) .Sub (.Name "size" p2) p3) .Add (.Constant (.int 1) j p4) p5) (evC 75 L f cd)) Q (fun _ _ => False) ⟨h, g, d, tk, os⟩ := by
        intro h tk mm nn p1 p2 p3 p4 p5 j Q F N hm hn q
        refine wpAny_BinOp (wpAny_BinOp (cellE ⟨om7, (N _ hn).1, hd7⟩ ?_ hcl (by rfl) (by rfl) (by decide)))
        refine ldE F hm ?_ (by rfl) (by rfl) (by rfl) (by decide)
        exact sub' (c := ((1 + i - size : Nat) : Int)) (by omega) (cInt' (add' (c := ((1 + i - size + 1 : Nat) : Int)) (by omega) (q _ _)))
      have hgr := growT_small (low := 1 + i - size + 1) (way := 1 + i) (i := size) (by omega) (by omega)
      refine wpAny_execs_cons (wpAny_Assign_Name ?_)
      refine callE 6 G' hfc F14 ?_ (by rfl) (by decide) (by rfl) (by rfl) (by rfl) (by rfl) (by rfl) (by decide)
      refine spliced_more (ldE F14 u2 (spliced_more ?_) (by rfl) (by rfl) (by rfl) (by decide))
      refine callE 67 G' hfb F14 ?_ (by rfl) (by decide) (by rfl) (by rfl) (by rfl) (by rfl) (by rfl) (by decide)
      refine spliced_more (lowE _ _ _ _ _ _ _ _ _ _ _ F14 N13 u4 (.head _) fun tk14 tl => spliced_more (ldE F14 u4 (spliced_more (cellE ⟨om7, (N13 _ (.head _)).1, hd7⟩ (spliced_none ⟨F14.keep, ?_⟩) hcl (by rfl) (by rfl) (by decide))) (by rfl) (by rfl) (by rfl) (by decide)))
      refine c_block G' hfb r' F14 N13 (by omega) (by omega) (by omega) fun h15 tk15 t15 F15 N15 => spliced_none ⟨F15.keep, ?_⟩
      refine concat' G' hfc (r'.mono (by decide)) F15 N15 (by omega) fun h16 tk16 t16 F16 N16 => ?_
      refine stE F16 N16 (fun h17 F17 N17 => ?_) (by rfl) (by rfl) (by rfl)
      refine wpAny_execs_cons (wpAny_Assign_Name (wpAny_BinOp (ldE F17 (by exact u3) ?_ (by rfl) (by rfl) (by rfl) (by decide))))
      refine callE 68 G' hfp F17 ?_ (by rfl) (by decide) (by rfl) (by rfl) (by rfl) (by rfl) (by rfl) (by decide)
      refine spliced_more (lowE _ _ _ _ _ _ _ _ _ _ _ F17 N17 (by exact u4) (.head _) fun tk18 tl2 => spliced_more (ldE F17 (by exact u4) (spliced_more (cellE ⟨om7, (N17 _ (.head _)).1, hd7⟩ (spliced_none ⟨F17.keep, ?_⟩) hcl (by rfl) (by rfl) (by decide))) (by rfl) (by rfl) (by rfl) (by decide)))
      refine c_plan G' hfp r' F17 N17 (by omega) (by omega) (by omega) (by omega) fun pl2 pvs2 np2 h19 tk19 hpv2 hap2 F19 N19 => ?_
      have hpl3 := planT_len [(1 + i - size + 1, size, 1 + i)] (fun b hb => by rw [List.mem_singleton.mp hb]; exact ⟨ok1, ok2, ok3⟩)
      rw [planT_one, List.length_singleton] at hpl3
      have hpvl := hbv.length
      have hpvl2 := hpv2.length
      refine addL' F19 N19 (News.list N19 (.tail _ hblN)) (News.list N19 (.head _)) (by simp only at hpl3; omega) fun pl3 h20 hap3 F20 N20 => ?_
      refine stE F20 N20 (fun h21 F21 N21 => wpAny_execs_nil (wpAny_execs_nil ?_)) (by rfl) (by rfl) (by rfl)
      have hapn : ∀ q ∈ own ++ (bl, listOf bvs.toArray nb) :: news, q.1 ≠ pl3 := fun q hq => hap3 q (.tail _ (.tail _ (by rw [← hnw]; exact hq)))
      refine TEnd.go' F21 (news' := (pl3, listOf (bvs ++ pvs2).toArray 0) :: (L + 1, om7) :: news) (News.sub N21 fun q hq => ?_) (fun q hq => ?_) ⟨om7, _, pl3, bvs ++ pvs2, 0, t16, rfl, hd7, fun q hq => ?_, ?_, fun u a b c e => ?_, ?_, by rfl⟩
      · rw [← hnw]
        simp only [List.mem_cons, List.mem_append] at hq ⊢
        rcases hq with h | h | h | h
        · exact .inr (.inr (.inr (.inl h)))
        · exact .inl h
        · exact .inr (.inr (.inl h))
        · exact .inr (.inr (.inr (.inr (.inr h))))
      · rcases List.mem_cons.mp hq with rfl | hq
        · exact .inr (.inr fun p hp => hapn p (List.mem_append_left _ hp))
        · rcases List.mem_cons.mp hq with rfl | hq
          · exact .inl ⟨om, .tail _ (.head _)⟩
          · exact .inl ⟨q.2, .tail _ (.tail _ hq)⟩
      · rcases List.mem_cons.mp hq with rfl | hq
        · exact hap3 _ (.tail _ (.head _))
        · exact hapn q (List.mem_append_right _ (.tail _ hq))
      · rw [he, planT_app, planT_one]
        exact hbv.append hpv2
      · show (if u = _ then _ else if u = _ then _ else m13 u) = m u
        rw [if_neg e, if_neg c]
        exact u1 u a b c e
      · rw [he, mailT_app, mailT_one]
        rfl
    · rw [if_neg (by rw [decide_eq_true_eq]; omega)]
      refine wpAny_execs_nil (wpAny_execs_nil ?_)
      have he : bsI p (i + 1) = bsI p i := by rw [bsI_succ p i hi, if_neg hs0, List.append_nil]
      refine TEnd.go' F14 (news' := (bl, listOf bvs.toArray nb) :: (L + 1, om7) :: news) (News.sub N13 fun q hq => ?_) (fun q hq => ?_) ⟨om7, _, bl, bvs, nb, ts, rfl, hd7, hcmap, by rw [he]; exact hbv, u1, by rw [he]; exact u2, u3⟩
      · rw [← hnw]
        simp only [List.mem_cons, List.mem_append] at hq ⊢
        rcases hq with h | h | h | h
        · exact .inr (.inl h)
        · exact .inr (.inr (.inl h))
        · exact .inl h
        · exact .inr (.inr (.inr h))
      · rcases List.mem_cons.mp hq with rfl | hq
        · exact .inl ⟨_, .head _⟩
        · rcases List.mem_cons.mp hq with rfl | hq
          · exact .inl ⟨om, .tail _ (.head _)⟩
          · exact .inl ⟨q.2, .tail _ (.tail _ hq)⟩
end
end
end Mine
end
section
open PySem PySem.W PyProof.Rows PySem.Calls
set_option maxRecDepth 100000
set_option maxHeartbeats 4000000
namespace Mine
noncomputable section
def rev5 (gs : List Int) : List Int := (List.range 5).map fun k => gs.getD (4 - k) 0
section
variable {w : World} {mg mb : Str → Option Value} {A : Around} {E : Value → Shared → Prop} {h₀ h : Heap} {L : Addr} {m : Str → Option Value} {news rest : List (Addr × Obj)} {g : Array GenState} {d : Drawn} {tk : Nat} {os : OsState}
/-- [one[0] for one in a line] -/
theorem firsts {P : Tok → Prop} {Q : Value → Shared → Prop} {l : Addr} {ws : List Value} {n : Nat} {ln : List (Int × Nat)} {ex0 : List (Addr × Obj)} {p1 p2 p3 px pos : Pos} {j : Nat} {iter : Expr} {scope : Scope} {env : Env} (hkind : scope.kind = .function) (hcell : ∀ y ∈ scope.names, y.2 ≠ .cell) (hx : scope.names.lookup (Str.ofString "one") = some .local)
    (hk1 : ∀ C, (compEnvC scope [] C env).kindOf "one" = some .local) (hk2 : ∀ C, (compEnvC scope [] C env).scope.kind = .function) (hk3 : ∀ C, (compEnvC scope [] C env).locals = C) (hh : A.handled = none) (F : Fr h₀ L h m) (N : News h₀ L h news) (hl : (l, listOf ws.toArray n) ∈ news) (hw : LineIn P ex0 ws ln) (hex : ∀ p ∈ ex0, p ∈ news) (hz : ln.length ≤ 1000)
    (k : ∀ D h' tk' nd ys, Ints ys (ln.map (·.1)) → Fr h₀ L h' m → News h₀ L h' ((D, listOf ys.toArray nd) :: news) → Q (.ref D) ⟨h', g, d, tk', os⟩) :
    wpAny (model p0 w) A (pyIter (.ref l)) (CompRest p0 w A E (.Subscript (.Name "one" p1) (.Constant (.int 0) j p2) p3) iter (Str.ofString "one") px scope [] pos env Q) E ⟨h, g, d, tk, os⟩ := by
  refine compL hkind hcell hx hh (News.list N hl) (by rw [hw.length]; omega) F N (fun i ys ex => ex = [] ∧ Ints ys ((ln.map (·.1)).take i)) ⟨rfl, .nil⟩ (fun C g₁ D up E' i v ys ex h tk m₁ own k hi hJ hl F6 N6 => ?_) (fun D ys ex h' tk' k' hJ hl hne F9 N9 => ?_)
  · obtain ⟨rfl, hys⟩ := hJ
    have hi2 : i < ln.length := by rw [← hw.length]; exact (List.getElem?_eq_some_iff.mp hi).1
    obtain ⟨a, ta, ua, ha1, ha2, ha3⟩ := hw.get hi2
    rw [hi] at ha1
    obtain rfl := Option.some.inj ha1
    refine Subscript_ (ldE F6 (by rfl) (cInt' ?_) (hk3 C) (hk2 C) (hk1 C) (by decide))
    have htup : IsTup h a ([.int (ln.getD i (0, 0)).1 ta, .int ((ln.getD i (0, 0)).2 : Nat) ua] : List Value).toArray := (News.tup N (hex _ ha2)).keeps fun b o e => F6.keep _ _ (up _ _ e)
    refine itemT' htup (k := 0) rfl (by decide) rfl ?_ (by with_unfolding_all rfl)
    refine ⟨h, _, _, [], rfl, F6, N6, fun p hp => absurd hp List.not_mem_nil, rfl, ?_⟩
    rw [List.take_add_one, List.getElem?_map, List.getElem?_eq_getElem hi2]
    refine hys.append ?_
    have e : (ln.getD i (0, 0)).1 = (ln[i]).1 := by rw [List.getD_eq_getElem?_getD, List.getElem?_eq_getElem hi2]; rfl
    rw [e]
    exact .cons .nil
  · obtain ⟨rfl, hys⟩ := hJ
    rw [hw.length, ← List.length_map (f := fun p : Int × Nat => p.1), List.take_length] at hys
    exact k D h' tk' k' ys hys F9 N9
theorem law_s6 {Q : Flow → Shared → Prop} {f sa rl pl fl : Addr} {cd : Value} {svs rws pvs fws : List Value} {nr np nf : Nat} {sc : List Int} {bs bs2 : List Blk} {o5 : Obj} {v5 : Option Value} (G' : Gd w mg mb h₀) (r' : Rm 2 A) (F : Fr h₀ L h m) (N : News h₀ L h ((L + 1 + 1, o5) :: news)) (hT : 616 ≤ tk)
    (h0 : m "script" = some (.ref sa)) (hs : h₀.IsList sa svs.toArray) (hsi : Ints svs sc) (hz : sc.length ≤ 63)
    (h1 : m "rows" = some (.ref rl)) (h2 : m "plan" = some (.ref pl)) (h3 : m "fewer" = some (.ref fl)) (hrl : (rl, listOf rws.toArray nr) ∈ news) (hrs : RowsIn news rws ((planT bs).map ksOf)) (hpl : (pl, listOf pvs.toArray np) ∈ news) (hpv : Strs pvs (planT bs)) (hb : ∀ b ∈ bs, OkB b) (hbl : bs.length ≤ 4)
    (hfl : (fl, listOf fws.toArray nf) ∈ news) (hfs : RowsIn news fws ((planT bs2).map ksOf)) (hb2 : ∀ b ∈ bs2, OkB b) (hbl2 : bs2.length ≤ 4) (hsame : ∀ V : List Int, V.length = 5 → runZ ((planT bs).filterMap jOf) V = runZ ((planT bs2).filterMap jOf) V)
    (ho5 : o5.data = .cell v5) (hc5 : ∀ q ∈ news, q.1 ≠ L + 1 + 1)
    (k : ∀ h' tk' m' news', Fr h₀ L h' m' → News h₀ L h' news' → Q (.ret (.bool true)) ⟨h', g, d, tk', os⟩) :
    wpAny (model p0 w) A (execs ((bdAt 75).drop 13) (evC 75 L f cd)) Q (fun _ _ => False) ⟨h, g, d, tk, os⟩ := by
  obtain ⟨fc, hfc⟩ := G'.has 74 (by decide) (by rfl)
  obtain ⟨fd, hfd⟩ := G'.has 72 (by decide) (by rfl)
  obtain ⟨fw, hfw⟩ := G'.has 73 (by decide) (by rfl)
  have hcl : (evC 75 L f cd).cells.lookup (Str.ofString "five") = some (L + 1 + 1) := by rfl
  refine wpAny_execs_cons (withT (n := 616) hT (wpAny_Assign_Name ?_))
  refine callE 74 G' hfc F ?_ (by rfl) (by decide) (by rfl) (by rfl) (by rfl) (by rfl) (by rfl) (by decide)
  refine spliced_more (ldE F h0 (spliced_more (List_ (spliced_more (cInt' (spliced_more (cInt' (spliced_more (cInt' (spliced_more (cInt' (spliced_more (cInt' (spliced_none ?_))))))))))))) (by rfl) (by rfl) (by rfl) (by decide))
  refine newList' F N (fun fv h5 hfv F5 N5 => ?_) (by exact Nat.le_of_ble_eq_true rfl)
  refine spliced_more (cInt' (spliced_none ⟨F5.keep, ?_⟩))
  refine c_cells (most := 0) G' hfc (r'.mono (by decide)) F5 N5 hfv hs hsi (.cons (.cons (.cons (.cons (.cons .nil))))) (by decide) (by decide) (by omega) (by decide) fun gvs n5 h6 tk6 hgv F6 N6 => ?_
  have hgl : (cellsL sc 0 [3, 1, 2, 3, 0] sc.length).length = 5 := cellsL_len _ _ _ _
  generalize cellsL sc 0 [3, 1, 2, 3, 0] sc.length = gs at hgv hgl
  refine wpAny_storeName_cell (s := ⟨h6, g, d, tk6, os⟩) (by rfl) (by rfl) hcl ⟨o5, (N6 _ (.tail _ (.head _))).1, ho5⟩ fun h7 hc7 hs7 hT7 => ?_
  obtain ⟨o7, ho7, hd7⟩ := hc7
  have N6' : News h₀ L h6 ((L + 1 + 1, o5) :: (fv, listOf gvs.toArray n5) :: news) := News.sub N6 fun q hq => by
    simp only [List.mem_cons] at hq ⊢
    rcases hq with h | h | h
    · exact .inr (.inl h)
    · exact .inl h
    · exact .inr (.inr h)
  have hap5 : ∀ q ∈ (fv, listOf gvs.toArray n5) :: news, q.1 ≠ L + 1 + 1 := fun q hq => by
    rcases List.mem_cons.mp hq with rfl | hq
    · exact (hfv _ (.head _)).symm
    · exact hc5 q hq
  obtain ⟨F7, N7⟩ := dict_fill F6 N6' hap5 hs7 ho7
  clear F5 N5 F6 N6 N6' hs7 hfv hap5
  refine wpAny_execs_cons (withT (n := 616) hT7 (wpAny_For ?_ (by intro _; rfl)))
  refine Tuple_ (spliced_more (cellE ⟨o7, (N7 _ (.head _)).1, hd7⟩ ?_ hcl (by rfl) (by rfl) (by decide)))
  refine spliced_more (withT (n := 616) hT7 (comp_eval (cl := [("five", L + 1 + 1)]) ?hclos ?_ (by intro _; rfl) (by rfl) ?hnames))
  case hclos => rfl
  case hnames => decide
  refine Call_ (bltE G' F7 (by simp) (by decide) boot_range ?_ (by rfl) (by rfl) (by rfl) (by rfl) (by decide))
  refine callWith_type1 ?_ (by rfl) (by rfl)
  refine spliced_more (cInt' (spliced_none ?_))
  refine range1' F7 N7 fun r h8 tk8 t8 u8 v8 hr8 F8 N8 => ?_
  refine compR (a := 0) (n := 5) (b := 5) (by rfl) (by decide) (by rfl) r'.hh hr8 rfl (by decide) (by decide) F8 N8 (fun i ys ex => ex = [] ∧ Ints ys ((rev5 gs).take i)) ⟨rfl, .nil⟩ (fun C g₁ D up E' i ti ys ex h tk m₁ own k hi hJ hlen F6 N6 => ?_) (fun D ys ex h9 tk9 k9 hJ hlen hne F9 N9 hT9 => ?_)
  · obtain ⟨rfl, hys⟩ := hJ
    have hl6 : h.IsList fv gvs.toArray := (News.list N8 (.tail _ (.head _))).at fun o e => F6.keep _ _ (up _ _ e)
    have hc6 := F6.keep _ _ (up _ _ (N8 _ (.head _)).1)
    obtain ⟨tx, hx⟩ := hgv.get (i := 4 - (0 + i)) (by omega)
    refine Subscript_ (cellE ⟨o7, hc6, hd7⟩ ?_ (by rfl) (by rfl) (by rfl) (by decide))
    refine wpAny_BinOp (cInt' (ldE F6 (by rfl) ?_ (by rfl) (by rfl) (by rfl) (by decide)))
    refine sub' (c := ((4 - (0 + i) : Nat) : Int)) (by omega) ?_
    refine item' hl6 (by omega) hx ?_ (by with_unfolding_all rfl)
    refine ⟨h, _, _, [], rfl, F6, N6, fun p hp => absurd hp List.not_mem_nil, rfl, ?_⟩
    unfold rev5
    rw [List.take_add_one, List.getElem?_map, List.getElem?_range hi]
    have e : 0 + i = i := Nat.zero_add i
    rw [e]
    exact hys.append (.cons .nil)
  obtain ⟨rfl, hys⟩ := hJ
  have hrl5 : (rev5 gs).length = 5 := by simp [rev5]
  rw [← hrl5, List.take_length] at hys
  refine spliced_none ?_
  refine newTuple' F9 N9 (fun T h10 hT10 F10 N10 => ?_) (by exact Nat.le_of_ble_eq_true rfl)
  have hTm : (T, tupO [.ref fv, .ref D]) ∈ (T, tupO [.ref fv, .ref D]) :: (D, listOf ys.toArray k9) :: ([] ++ (L + 1 + 1, o7) :: (fv, listOf gvs.toArray n5) :: news) := .head _
  have hDm : (D, listOf ys.toArray k9) ∈ (T, tupO [.ref fv, .ref D]) :: (D, listOf ys.toArray k9) :: ([] ++ (L + 1 + 1, o7) :: (fv, listOf gvs.toArray n5) :: news) := .tail _ (.head _)
  have hVm : (fv, listOf gvs.toArray n5) ∈ (T, tupO [.ref fv, .ref D]) :: (D, listOf ys.toArray k9) :: ([] ++ (L + 1 + 1, o7) :: (fv, listOf gvs.toArray n5) :: news) := .tail _ (.tail _ (.tail _ (.head _)))
  have hNm : ∀ p ∈ news, p ∈ (T, tupO [.ref fv, .ref D]) :: (D, listOf ys.toArray k9) :: ([] ++ (L + 1 + 1, o7) :: (fv, listOf gvs.toArray n5) :: news) := fun p hp => .tail _ (.tail _ (.tail _ (.tail _ hp)))
  replace N10 : News h₀ L h10 ((T, tupO [.ref fv, .ref D]) :: (D, listOf ys.toArray k9) :: ([] ++ (L + 1 + 1, o7) :: (fv, listOf gvs.toArray n5) :: news)) := N10
  generalize (T, tupO [.ref fv, .ref D]) :: (D, listOf ys.toArray k9) :: ([] ++ (L + 1 + 1, o7) :: (fv, listOf gvs.toArray n5) :: news) = nw at N10 hTm hDm hVm hNm
  clear F7 N7 F8 N8 F9 N9 hr8 hne
  refine loopTokT 616 (fun i m' news' => news' = nw ∧ ∀ u : Str, u ≠ "given" → u ≠ "made" → m' u = m u) hT9 r'.hh hTm F10 N10 ⟨rfl, fun _ _ _ => rfl⟩ ?turn ?done
  case done =>
    rintro m₁ news₁ h tk hT6 ⟨rfl, _⟩ F6 N6 hT7
    refine wpAny_execs_cons (wpAny_Return_some (Constant_bool ?_))
    exact k _ _ _ _ F6 N6
  case turn =>
    rintro i v m₁ news₁ h tk own hT6 hi ⟨rfl, hmu⟩ hoff F6 N6
    obtain ⟨ga, gv, ng, gs2, rfl, hgm, hgi, hg5⟩ : ∃ ga gv ng gs2, v = .ref ga ∧ (ga, listOf gv.toArray ng) ∈ news₁ ∧ Ints gv gs2 ∧ gs2.length = 5 := by
      match i, hi with
      | 0, hi => exact ⟨fv, gvs, n5, gs, (Option.some.inj hi).symm, hVm, hgv, hgl⟩
      | 1, hi => exact ⟨D, ys, k9, rev5 gs, (Option.some.inj hi).symm, hDm, hys, hrl5⟩
      | i + 2, hi => exact absurd hi (by simp)
    have hin : ∀ p ∈ news₁, p ∈ own ++ news₁ := fun p hp => List.mem_append_right _ hp
    have hg5' : gs2.length = 5 := hg5
    have hr1 := (hmu "rows" (by decide) (by decide)).trans h1
    have hr2 := (hmu "plan" (by decide) (by decide)).trans h2
    have hr3 := (hmu "fewer" (by decide) (by decide)).trans h3
    refine wpAny_assign_Name (stE F6 N6 (fun h7 F7 N7 => ?_) (by rfl) (by rfl) (by rfl))
    have hpl2 := planT_len bs hb
    have hpl3 := planT_len bs2 hb2
    refine wpAny_execs_cons (withT (n := 616) (by show 616 ≤ tk + 1; omega) (wpAny_Assign_Name ?_))
    refine callE 72 G' hfd F7 ?_ (by rfl) (by decide) (by rfl) (by rfl) (by rfl) (by rfl) (by rfl) (by decide)
    refine spliced_more (ldE F7 (by exact hr1) (spliced_more (ldE F7 (by rfl) (spliced_none ⟨F7.keep, ?_⟩) (by rfl) (by rfl) (by rfl) (by decide))) (by rfl) (by rfl) (by rfl) (by decide))
    refine c_led G' hfd r' F7 N7 (by omega) (hin _ (hNm _ hrl)) (hrs.mono fun p hp => hin _ (hNm _ hp)) (hin _ hgm) hgi.withP (by omega) (by rw [List.length_map]; omega) (led_ok hb gs2 hg5) fun md nm mws ex8 h8 tk8 hT8 hmws hap8 F8 N8 => ?_
    rw [led_walk _ _ (plan_rows hb) (by rw [line0_len, hg5])] at hmws
    refine stE F8 N8 (fun h9 F9 N9 hT9 => ?_) (by rfl) (by rfl) (by rfl)
    refine wpAny_execs_cons (withT (n := 616) hT9 (wpAny_If (wpAny_isTrue_Compare1 (ldE F9 (by rfl) ?_ (by rfl) (by rfl) (by rfl) (by decide)) (by rfl))))
    refine callE 73 G' hfw F9 ?_ (by rfl) (by decide) (by rfl) (by rfl) (by rfl) (by rfl) (by rfl) (by decide)
    refine spliced_more (ldE F9 (by exact hr2) (spliced_more (ldE F9 (by rfl) (spliced_none ⟨F9.keep, ?_⟩) (by rfl) (by rfl) (by rfl) (by decide))) (by rfl) (by rfl) (by rfl) (by decide))
    have hin9 : ∀ p ∈ news₁, p ∈ (md, listOf mws.toArray nm) :: (ex8 ++ (own ++ news₁)) := fun p hp => .tail _ (List.mem_append_right _ (hin _ hp))
    refine c_walked G' hfw r' F9 N9 (hin9 _ (hNm _ hpl)) hpv (hin9 _ hgm) hgi.withP (by omega) (walk_ok hb gs2 hg5) fun wd nw2 wws ex10 h10 tk10 hwws hap10 F10 N10 => ?_
    refine neEq' N10 (.tail _ (List.mem_append_right _ (.head _))) hmws.dat (fun p hp => .tail _ (List.mem_append_right _ (.tail _ (List.mem_append_left _ hp)))) (.head _) hwws.dat (fun p hp => .tail _ (List.mem_append_left _ hp)) rfl (ok_line _) r' (wpAny_truthy_bool ?_)
    rw [if_neg (by decide)]
    refine wpAny_execs_nil fun hT11 => ?_
    replace N10 : News h₀ L h10 ((md, listOf mws.toArray nm) :: (ex8 ++ (own ++ news₁))) := News.sub N10 fun p hp => .tail _ (List.mem_append_right _ hp)
    obtain ⟨m10, q1, q2, q3, F11⟩ : ∃ m10 : Str → Option Value, (∀ u : Str, u ≠ "given" → u ≠ "made" → m10 u = m u) ∧ m10 "made" = some (.ref md) ∧ m10 "given" = some (.ref ga) ∧ Fr h₀ L h10 m10 := ⟨_, fun u a b => by
      show (if u = _ then _ else if u = _ then _ else m₁ u) = m u
      rw [if_neg b, if_neg a]
      exact hmu u a b, by rfl, by rfl, F10⟩
    clear F7 N7 F8 N8 F9 N9 F10 hwws hap10 hap8
    refine wpAny_execs_cons (wpAny_If (wpAny_isTrue_Compare1 ?_ (by rfl)))
    refine withT (n := 616) hT11 (comp_eval (cl := []) ?hclos ?_ (by intro _; rfl) (by rfl) ?hnames)
    case hclos => rfl
    case hnames => decide
    refine callE 72 G' hfd F11 ?_ (by rfl) (by decide) (by rfl) (by rfl) (by rfl) (by rfl) (by rfl) (by decide)
    refine spliced_more (ldE F11 ((q1 "fewer" (by decide) (by decide)).trans h3) (spliced_more (ldE F11 q3 (spliced_none ⟨F11.keep, ?_⟩) (by rfl) (by rfl) (by rfl) (by decide))) (by rfl) (by rfl) (by rfl) (by decide))
    refine c_led G' hfd r' F11 N10 hT11 (hin9 _ (hNm _ hfl)) (hfs.mono fun p hp => hin9 _ (hNm _ hp)) (hin9 _ hgm) hgi.withP (by omega) (by rw [List.length_map]; omega) (led_ok hb2 gs2 hg5) fun sd ns sws ex12 h12 tk12 hT12 hsws hap12 F12 N12 => ?_
    rw [led_walk _ _ (plan_rows hb2) (by rw [line0_len, hg5])] at hsws
    have hll : ((planT bs).foldl walkStep (line0 gs2)).length = 5 := by rw [walk_len _ _ (by rw [line0_len]; exact walk_ok hb gs2 hg5), line0_len, hg5]
    have hll2 : ((planT bs2).foldl walkStep (line0 gs2)).length = 5 := by rw [walk_len _ _ (by rw [line0_len]; exact walk_ok hb2 gs2 hg5), line0_len, hg5]
    have hvals : ((planT bs2).foldl walkStep (line0 gs2)).map (·.1) = ((planT bs).foldl walkStep (line0 gs2)).map (·.1) := by
      rw [walk_run _ _ (plan_rows hb) (by rw [line0_len, hg5]), walk_run _ _ (plan_rows hb2) (by rw [line0_len, hg5]), line0_vals]
      exact (hsame gs2 hg5).symm
    refine firsts (by rfl) (by decide) (by rfl) (fun C => by rfl) (fun C => by rfl) (fun C => by rfl) r'.hh F12 N12 (.head _) hsws (fun p hp => .tail _ (List.mem_append_left _ hp)) (by omega) fun D1 h13 tk13 n13 ys1 hys1 F13 N13 hT13 => ?_
    refine comp_eval (cl := []) ?hclos ?_ (by intro _; rfl) (by rfl) ?hnames
    case hclos => rfl
    case hnames => decide
    refine ldE F13 q2 ?_ (by rfl) (by rfl) (by rfl) (by decide)
    refine firsts (by rfl) (by decide) (by rfl) (fun C => by rfl) (fun C => by rfl) (fun C => by rfl) r'.hh F13 N13 (.tail _ (.tail _ (List.mem_append_right _ (.head _)))) hmws (fun p hp => .tail _ (.tail _ (List.mem_append_right _ (.tail _ (List.mem_append_left _ hp))))) (by omega) fun D2 h14 tk14 n14 ys2 hys2 F14 N14 => ?_
    rw [hvals] at hys1
    refine neEq' N14 (.tail _ (.head _)) (hys1.dat (ex := [])) (fun p hp => absurd hp List.not_mem_nil) (.head _) (hys2.dat (ex := [])) (fun p hp => absurd hp List.not_mem_nil) rfl (fun d hd => by obtain ⟨_, _, rfl⟩ := List.mem_map.mp hd; rfl) r' (wpAny_truthy_bool ?_)
    rw [if_neg (by decide)]
    refine wpAny_execs_nil (wpAny_execs_nil ?_)
    refine TEnd.go' F14 (news' := news₁) (News.sub N14 fun p hp => ?_) (fun q hq => .inl ⟨q.2, hq⟩) ⟨rfl, q1⟩
    exact .tail _ (.tail _ (.tail _ (List.mem_append_right _ (.tail _ (List.mem_append_right _ hp)))))
end
end
end Mine
end
section
open PySem PySem.W PyProof.Rows PySem.Calls
set_option maxRecDepth 100000
set_option maxHeartbeats 4000000
namespace Mine
noncomputable section
def offOf (c : Addr) (all : List (Addr × Obj)) : List (Addr × Obj) := all.filter fun q => decide (q.1 ≠ c)
theorem offOf_mem {c : Addr} {all : List (Addr × Obj)} {q : Addr × Obj} : q ∈ offOf c all ↔ q ∈ all ∧ q.1 ≠ c := by
  unfold offOf
  rw [List.mem_filter, decide_eq_true_eq]
section
variable {w : World} {mg mb : Str → Option Value} {A : Around} {E : Value → Shared → Prop} {h₀ h : Heap} {L : Addr} {m : Str → Option Value} {news all : List (Addr × Obj)} {g : Array GenState} {d : Drawn} {tk : Nat} {os : OsState}
theorem keep_list (N : News h₀ L h all) {c : Addr} {oc : Obj} {v : Option Value} (hc : (c, oc) ∈ all) (hd : oc.data = .cell v) {a : Addr} {its : Array Value} {n : Nat} (hm : (a, listOf its n) ∈ all) : (a, listOf its n) ∈ offOf c all := by
  refine offOf_mem.mpr ⟨hm, fun e => ?_⟩
  have h1 := (N _ hc).1
  have h2 := (N _ hm).1
  simp only at e h1 h2
  rw [e, h1] at h2
  have h3 := Option.some.inj h2
  rw [h3] at hd
  cases hd
theorem RowsIn.off (N : News h₀ L h all) {c : Addr} {oc : Obj} {v : Option Value} (hc : (c, oc) ∈ all) (hd : oc.data = .cell v) : ∀ {vs : List Value} {rs : List (List (Int × Tok))}, RowsIn all vs rs → RowsIn (offOf c all) vs rs
  | _, _, .nil => .nil
  | _, _, .cons i a => .cons (keep_list N hc hd i) (a.off N hc hd)
theorem law_body {Q : Flow → Shared → Prop} {f sa : Addr} {cd : Value} {svs : List Value} {sc : List Int} {o5 om : Obj} {v5 vm : Option Value} (G' : Gd w mg mb h₀) (r' : Rm 2 A) (F : Fr h₀ L h m) (N : News h₀ L h [(L + 1 + 1, o5), (L + 1, om)]) (hT : 616 ≤ tk) (ho5 : o5.data = .cell v5) (hom : om.data = .cell vm)
    (hm : m "script" = some (.ref sa)) (hs : h₀.IsList sa svs.toArray) (hsi : Ints svs sc) (hz : sc.length ≤ 63)
    (k : ∀ h' tk' m' news', Fr h₀ L h' m' → News h₀ L h' news' → Q (.ret (.bool true)) ⟨h', g, d, tk', os⟩) :
    wpAny (model p0 w) A (execs (bdAt 75) (evC 75 L f cd)) Q (fun _ _ => False) ⟨h, g, d, tk, os⟩ := by
  have hb1 : ∀ b ∈ blocks1 sc, OkB b := fun b hb => by obtain ⟨c, _, rfl⟩ := List.mem_map.mp hb; exact blk_ok c
  have hb1l : (blocks1 sc).length ≤ 4 := by unfold blocks1 cellsN; rw [List.length_map, List.length_map, cellsL_len]; exact Nat.le_refl _
  refine law_s1 G' r' F N hm hs hsi hz hT fun h1 tk1 m1 pl pvs np t1 ex1 hT1 q1 q2 q3 hpv hap1 F1 N1 => ?_
  refine law_rd (bs := blocks1 sc) (by rfl) (by rfl) (by rfl) (by decide) (by decide) (by decide) (by decide) G' r' F1 N1 hT1 q1 q2 (.head _) hpv hb1 hb1l fun h2 tk2 rl rws nr ex2 hT2 hrws F2 N2 => ?_
  refine law_s3 G' r' F2 N2 hT2 (by rfl) (by exact q2) (.head _) (hrws.mono fun p hp => .tail _ (List.mem_append_left _ hp)) (.tail _ (List.mem_append_right _ (.head _))) hpv hb1 hb1l fun h3 tk3 m3 T ll lvs nl bl t3 ex3 hTT hT3 hlv hu3 u1 u2 u3 hap3 F3 N3 => ?_
  obtain ⟨hp, _⟩ := hecke_bits _ (plan_js_ok hb1)
  have hsame : ∀ V : List Int, V.length = 5 → runZ ((planT (blocks1 sc)).filterMap jOf) V = runZ ((planT (blocks2 (runN ((planT (blocks1 sc)).filterMap jOf) [5, 4, 3, 2, 1]))).filterMap jOf) V := fun V hV => by
    rw [plan_js _ (blocks2_ok hp), blocks2_js hp]
    exact hecke _ (plan_js_ok hb1) V hV
  generalize runN ((planT (blocks1 sc)).filterMap jOf) [5, 4, 3, 2, 1] = p at hp hlv hsame
  have M5 : (L + 1 + 1, o5) ∈ (ll, listOf lvs.toArray nl) :: (ex3 ++ (rl, listOf rws.toArray nr) :: (ex2 ++ (pl, listOf pvs.toArray np) :: (ex1 ++ [(L + 1 + 1, o5), (L + 1, om)]))) := .tail _ (List.mem_append_right _ (.tail _ (List.mem_append_right _ (.tail _ (List.mem_append_right _ (.head _))))))
  have Mm : (L + 1, om) ∈ (ll, listOf lvs.toArray nl) :: (ex3 ++ (rl, listOf rws.toArray nr) :: (ex2 ++ (pl, listOf pvs.toArray np) :: (ex1 ++ [(L + 1 + 1, o5), (L + 1, om)]))) := .tail _ (List.mem_append_right _ (.tail _ (List.mem_append_right _ (.tail _ (List.mem_append_right _ (.tail _ (.head _)))))))
  have Ml : (ll, listOf lvs.toArray nl) ∈ (ll, listOf lvs.toArray nl) :: (ex3 ++ (rl, listOf rws.toArray nr) :: (ex2 ++ (pl, listOf pvs.toArray np) :: (ex1 ++ [(L + 1 + 1, o5), (L + 1, om)]))) := .head _
  have Mr : (rl, listOf rws.toArray nr) ∈ (ll, listOf lvs.toArray nl) :: (ex3 ++ (rl, listOf rws.toArray nr) :: (ex2 ++ (pl, listOf pvs.toArray np) :: (ex1 ++ [(L + 1 + 1, o5), (L + 1, om)]))) := .tail _ (List.mem_append_right _ (.head _))
  have Mp : (pl, listOf pvs.toArray np) ∈ (ll, listOf lvs.toArray nl) :: (ex3 ++ (rl, listOf rws.toArray nr) :: (ex2 ++ (pl, listOf pvs.toArray np) :: (ex1 ++ [(L + 1 + 1, o5), (L + 1, om)]))) := .tail _ (List.mem_append_right _ (.tail _ (List.mem_append_right _ (.head _))))
  have Hr : RowsIn ((ll, listOf lvs.toArray nl) :: (ex3 ++ (rl, listOf rws.toArray nr) :: (ex2 ++ (pl, listOf pvs.toArray np) :: (ex1 ++ [(L + 1 + 1, o5), (L + 1, om)])))) rws ((planT (blocks1 sc)).map ksOf) := hrws.mono fun q hq => .tail _ (List.mem_append_right _ (.tail _ (List.mem_append_left _ hq)))
  generalize (ll, listOf lvs.toArray nl) :: (ex3 ++ (rl, listOf rws.toArray nr) :: (ex2 ++ (pl, listOf pvs.toArray np) :: (ex1 ++ [(L + 1 + 1, o5), (L + 1, om)]))) = all3 at N3 hap3 M5 Mm Ml Mr Mp Hr
  have N3a : News h₀ L h3 all3 := News.sub N3 fun q hq => .tail _ hq
  have N4 : News h₀ L h3 ((bl, listOf ([] : List Value).toArray 0) :: (L + 1, om) :: offOf (L + 1) all3) := News.sub N3 fun q hq => by
    rcases List.mem_cons.mp hq with rfl | hq
    · exact .head _
    · rcases List.mem_cons.mp hq with rfl | hq
      · exact .tail _ Mm
      · exact .tail _ (offOf_mem.mp hq).1
  have M5' : (L + 1 + 1, o5) ∈ offOf (L + 1) all3 := offOf_mem.mpr ⟨M5, Nat.succ_ne_self _⟩
  have Mr' := keep_list N3a Mm hom Mr
  have Mp' := keep_list N3a Mm hom Mp
  have Ml' := keep_list N3a Mm hom Ml
  have Hr' := Hr.off N3a Mm hom
  refine law_s4 G' r' F3 N4 hTT hT3 hp u1 u2 u3 Ml' hlv hom (fun q hq => ?_) (fun q hq => (offOf_mem.mp hq).2) fun h4 tk4 m4 bl4 bvs nb t4 om4 hT4 hbv hu4 w1 w2 F4 N5 => ?_
  · rcases List.mem_cons.mp hq with rfl | hq
    · exact hap3 _ Mm
    · exact hap3 _ (offOf_mem.mp hq).1
  generalize offOf (L + 1) all3 = off3 at N5 M5' Mr' Mp' Hr'
  refine law_rd (bs := blocks2 p) (by rfl) (by rfl) (by rfl) (by decide) (by decide) (by decide) (by decide) G' r' F4 N5 (Nat.le_trans hTT hT4) w1 w2 (.head _) hbv (blocks2_ok hp) (bsI_len p 4) fun h5 tk5 fl fws nf ex5 hT5 hfws F5 N6 => ?_
  have hin : ∀ q ∈ off3, q ∈ (fl, listOf fws.toArray nf) :: (ex5 ++ (bl4, listOf bvs.toArray nb) :: (L + 1, om4) :: off3) := fun q hq => .tail _ (List.mem_append_right _ (.tail _ (.tail _ hq)))
  have Mf : (fl, listOf fws.toArray nf) ∈ (fl, listOf fws.toArray nf) :: (ex5 ++ (bl4, listOf bvs.toArray nb) :: (L + 1, om4) :: off3) := .head _
  have Hf : RowsIn ((fl, listOf fws.toArray nf) :: (ex5 ++ (bl4, listOf bvs.toArray nb) :: (L + 1, om4) :: off3)) fws ((planT (blocks2 p)).map ksOf) := hfws.mono fun q hq => .tail _ (List.mem_append_left _ hq)
  generalize (fl, listOf fws.toArray nf) :: (ex5 ++ (bl4, listOf bvs.toArray nb) :: (L + 1, om4) :: off3) = all5 at N6 hin Mf Hf
  have hu : ∀ u : Str, u ≠ "fewer" → u ≠ "behind" → u ≠ "size" → u ≠ "short" → u ≠ "blocks" → u ≠ "made" → u ≠ "last" → m4 u = (if u = Str.ofString "rows" then some (.ref rl) else m1 u) := fun u _ b c e f i j => (hu4 u b c e f).trans (hu3 u i j e f)
  have N7 : News h₀ L h5 ((L + 1 + 1, o5) :: offOf (L + 1 + 1) all5) := News.sub N6 fun q hq => by
    rcases List.mem_cons.mp hq with rfl | hq
    · exact hin _ M5'
    · exact (offOf_mem.mp hq).1
  refine law_s6 (bs := blocks1 sc) (bs2 := blocks2 p) G' r' F5 N7 hT5 ?_ hs hsi hz ?_ ?_ (by rfl) (keep_list N6 (hin _ M5') ho5 (hin _ Mr')) ((Hr'.mono hin).off N6 (hin _ M5') ho5) (keep_list N6 (hin _ M5') ho5 (hin _ Mp')) hpv hb1 hb1l (keep_list N6 (hin _ M5') ho5 Mf) (Hf.off N6 (hin _ M5') ho5) (blocks2_ok hp) (bsI_len p 4) hsame ho5 (fun q hq => (offOf_mem.mp hq).2) k
  · show (if Str.ofString "script" = _ then _ else m4 _) = _
    rw [if_neg (by decide), hu _ (by decide) (by decide) (by decide) (by decide) (by decide) (by decide) (by decide), if_neg (by decide)]
    exact q3
  · show (if Str.ofString "rows" = _ then _ else m4 _) = _
    rw [if_neg (by decide), hu _ (by decide) (by decide) (by decide) (by decide) (by decide) (by decide) (by decide), if_pos rfl]
  · show (if Str.ofString "plan" = _ then _ else m4 _) = _
    rw [if_neg (by decide), hu _ (by decide) (by decide) (by decide) (by decide) (by decide) (by decide) (by decide), if_neg (by decide)]
    exact q2
end
end
end Mine
end
section
open PySem PySem.W PyProof.Rows PySem.Calls PySem.W.X
set_option maxRecDepth 100000
set_option maxHeartbeats 4000000
namespace Mine
theorem t_recs : ((recsOf qv).map fun d => (d.name, d.params, d.body, d.scope)) = vIds.map fun i => (nmAt i, paAt i, bdAt i, scAt i) := by kernel_rfl!
theorem t_free : ((["hasattr", "type", "range", "len", "enumerate"] : List Str).all fun x => !(startupNames.any (· == x)) && !((looseW qv lz).any (· == x)) && !(((recsOf qv).map (·.name)).any (· == x)) && !(((litsOf qv).map (·.1)).any (· == x)) && !(((clssOf qv (looseW qv lz)).map (·.name)).any (· == x))) = true := by kernel_rfl!
theorem t_kf (P : Params) : ((KF P).map (·.1)).map (Hz P).get? = (KF P).map (fun p => some p.2) := by kernel_rfl!
theorem t_n1 (P : Params) : (Hz P).nsMap mainGlobals "_twin_re_1" = some (.ref 99) := by kernel_rfl!
theorem t_n2 (P : Params) : (Hz P).nsMap mainGlobals "_twin_re_2" = some (.ref 104) := by kernel_rfl!
theorem t_n3 (P : Params) : (Hz P).nsMap mainGlobals "EXACT_TOKEN_TYPES" = some (.ref 119) := by kernel_rfl!
theorem t_crlf (P : Params) : (match (Hz P).nsMap mainGlobals "CRLF" with | some (.str x _) => x == ⟨#[13, 10]⟩ | _ => false) = true := by kernel_rfl!
theorem t_main (P : Params) : ((Hz P).get? mainGlobals).isSome = true := by kernel_rfl!
theorem nsMap_keep {h h' : Heap} {a : Addr} (k : ∀ b o, h.get? b = some o → h'.get? b = some o) (hx : (h.get? a).isSome = true) : h'.nsMap a = h.nsMap a := by
  obtain ⟨o, ho⟩ := Option.isSome_iff_exists.mp hx
  funext x
  unfold Heap.nsMap
  rw [ho, k a o ho]
theorem none_of_any {l : List Str} {x : Str} (h : (!(l.any (· == x))) = true) : x ∉ l := by
  intro hx
  rw [Bool.not_eq_true'] at h
  have : l.any (· == x) = true := List.any_eq_true.mpr ⟨x, hx, beq_self_eq_true x⟩
  rw [this] at h
  cases h
theorem gd_of {w : World} {mg mb : Str → Option Value} {mean : ExcName → Option Value} {h₀ h : Heap} (T : Top qv (looseW qv lz) mean mg mb h) (keep : ∀ b o, h₀.get? b = some o → h.get? b = some o) (hH : h₀ = Hz w.params) : Gd w mg mb h := by
  subst hH
  have em : mg = (Hz w.params).nsMap mainGlobals := by rw [T.g.eq_nsMap, nsMap_keep keep (t_main _)]
  refine ⟨T.g, T.b, T.nolimit, T.builtins, fun i hi n a b sc e => ?_, fun x hx => ?_, ?_, (Frag.in_of rfl (t_kf _)).keeps keep, by rw [em]; exact t_n1 _, by rw [em]; exact t_n2 _, by rw [em]; exact t_n3 _⟩
  · have hv : (nmAt i, paAt i, bdAt i, scAt i) ∈ (recsOf qv).map fun d => (d.name, d.params, d.body, d.scope) := by
      rw [t_recs]
      refine List.mem_map.mpr ⟨i, ?_, rfl⟩
      have : ∀ i ∈ defIds, i ∈ vIds := by decide
      exact this i hi
    obtain ⟨d, hd, hq⟩ := List.mem_map.mp hv
    have e1 : nmAt i = n := by unfold nmAt; rw [e]; rfl
    have e2 : paAt i = a := by unfold paAt; rw [e]; rfl
    have e3 : bdAt i = b := by unfold bdAt; rw [e]; rfl
    have e4 : scAt i = sc := by unfold scAt; rw [e]; rfl
    rw [e1, e2, e3, e4] at hq
    obtain ⟨q1, hq⟩ := Prod.mk.inj hq
    obtain ⟨q2, hq⟩ := Prod.mk.inj hq
    obtain ⟨q3, q4⟩ := Prod.mk.inj hq
    obtain ⟨f, o, pm, code, doc, h1, h2, h3, h4⟩ := T.fn d hd
    rw [q1] at h1 h4
    rw [q1, q2, q3, q4] at h3
    exact ⟨f, o, pm, code, doc, h1, h2, h3, h4⟩
  · have h := List.all_eq_true.mp t_free x hx
    obtain ⟨h, h5⟩ := Bool.and_eq_true_iff.mp h
    obtain ⟨h, h4⟩ := Bool.and_eq_true_iff.mp h
    obtain ⟨h, h3⟩ := Bool.and_eq_true_iff.mp h
    obtain ⟨h1, h2⟩ := Bool.and_eq_true_iff.mp h
    exact T.free x (none_of_any h1) (none_of_any h2) (none_of_any h3) (none_of_any h4) (none_of_any h5)
  · have h := t_crlf w.params
    rw [← em] at h
    cases hc : mg "CRLF" with
    | none => rw [hc] at h; cases h
    | some v =>
      rw [hc] at h
      cases v with
      | str x t => exact ⟨t, by rw [beq_iff_eq.mp h]⟩
      | _ => cases h
end Mine
end
section
open PySem PySem.W PyProof.Rows PySem.Calls PySem.W.X
set_option maxRecDepth 100000
set_option maxHeartbeats 4000000
namespace Mine
theorem ints_of : ∀ {vs : List Value} {ns : List Int}, IntsAre vs ns → Ints vs ns
  | _, _, .nil => .nil
  | _, _, .cons _ _ a => .cons (ints_of a)
theorem the_walk : WalkX qv lz (XL qv []) Yf Ya PySem.Challenge.rw_tl0010_01.row.toRowW law1 [] (fun f vs => PySem.call f vs) := by
  intro w s₀ s₁ mg mb G Y fa o pm cd doc dV kV ho hd hcd hD hmg hg args vals as L hpre hlay hrd hwl hlo
  refine Ground.open G ?_
  intro T B D TE TW
  have keep := L.keeps
  have GD : Gd w mg mb s₁.heap := gd_of T keep (congrArg Prod.fst Y)
  have htk : s₀.toks = 706 := congrArg Prod.snd Y
  have hv : (nmAt 75, paAt 75, bdAt 75, scAt 75) ∈ (recsOf qv).map fun d => (d.name, d.params, d.body, d.scope) := by
    rw [t_recs]
    exact List.mem_map.mpr ⟨75, by decide, rfl⟩
  obtain ⟨dr, hdr, hq⟩ := List.mem_map.mp hv
  obtain ⟨q1, hq⟩ := Prod.mk.inj hq
  obtain ⟨q2, hq⟩ := Prod.mk.inj hq
  obtain ⟨q3, q4⟩ := Prod.mk.inj hq
  obtain ⟨f', o', pm', cd', doc', e1, e2, e3, e4⟩ := T.fn dr hdr
  rw [q1] at e1 e4
  rw [q1, q2, q3, q4] at e3
  have hfa : f' = fa := Value.ref.inj (Option.some.inj (e1.symm.trans hmg))
  subst hfa
  clear ho hd hcd hD hmg o pm cd doc dV kV B D TE TW
  wrow_args hpre hlay hrd hwl hlo
  have hT := script_toks L htk
  rename_i ns hs0 hl0 hL1 hr1 hl2 as1 as2 sa vs as3 hL ra w1 r0 hI hrr c1 c2
  show wpAny (model p0 w) callerA (call (.ref f') [.ref sa]) _ _ s₁
  refine wpAny_call (call_cellsT (by decide +kernel) e2 e3 T.nolimit e4 (binds := [("script", .ref sa)]) (by rfl) (fun x hx => ?_) (by decide +kernel) (fun h₁ tk cells hT1 F N X => ?_) (by rfl) (by rfl) (by rfl))
  · simp only [List.mem_cons, List.not_mem_nil, or_false] at hx
    subst hx
    exact .inl (by rfl)
  · obtain ⟨o5, om, rfl, d5, dm⟩ := CellsAre.two X
    have hlen : ns.length ≤ 63 := by omega
    refine law_body (os := s₁.os) (g := s₁.gens) (d := s₁.drawn) (h := h₁) GD ⟨rfl, by show callerA.depth + 1 + 2 ≤ 900; decide +kernel, by show callerA.units + 3 + 10 * 2 ≤ 9000; decide +kernel⟩ F N (by omega) d5 dm (by rfl) hL (ints_of hI) hlen fun h' tk' m' news' F' N' => ?_
    refine ⟨.inl ⟨.bool true, .bool true, [], rfl, fun _ => rfl, .bool true, by kernel_rfl!, fun _ => ⟨List.nodup_nil, fun a ha => absurd ha List.not_mem_nil⟩⟩, .of_keep F'.keep, rfl, ?_⟩
    exact AllBare.of_eq hg
theorem the_row : PySem.Challenge.rw_tl0010_01.Holds := of_walk the_walk
end Mine
end
theorem PySem.Challenge.cw_tl0010_01_holds : PySem.Challenge.rw_tl0010_01.Holds := by
  exact Mine.the_row
