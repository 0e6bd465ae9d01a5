import PyProof.Rows.All
import Wide.All
import OpenK.AllK
import Wide.FinOn
import PySem.Challenge.RW_pg0237_01
open PySem PySem.W PySem.Calls PyProof.Rows
set_option Elab.async false
set_option maxRecDepth 100000

namespace Mine
abbrev prg : Program := PySem.Challenge.pw_pg0237_01
structure FnText where
  params : Arguments
  body : List Stmt
  scope : Scope
def fnText (i : Nat) : FnText := match prg.main.body[i]? with
  | some (.FunctionDef _ a b _ _ _ sc _ _ _) => ⟨a, b, sc⟩
  | _ => ⟨⟨[], [], none, [], [], none, []⟩, [], default⟩
def tIter' : { f : FnText // f = fnText 1 } := by refine ⟨?v, ?p⟩; case p => conv => rhs; whnf
def tStrip' : { f : FnText // f = fnText 2 } := by refine ⟨?v, ?p⟩; case p => conv => rhs; whnf
def tCheck' : { f : FnText // f = fnText 3 } := by refine ⟨?v, ?p⟩; case p => conv => rhs; whnf
def tInB1' : { f : FnText // f = fnText 6 } := by refine ⟨?v, ?p⟩; case p => conv => rhs; whnf
def tMap' : { f : FnText // f = fnText 8 } := by refine ⟨?v, ?p⟩; case p => conv => rhs; whnf
def tUnseen' : { f : FnText // f = fnText 10 } := by refine ⟨?v, ?p⟩; case p => conv => rhs; whnf
def tPiece' : { f : FnText // f = fnText 11 } := by refine ⟨?v, ?p⟩; case p => conv => rhs; whnf
def tAlone' : { f : FnText // f = fnText 12 } := by refine ⟨?v, ?p⟩; case p => conv => rhs; whnf
def tOutside' : { f : FnText // f = fnText 13 } := by refine ⟨?v, ?p⟩; case p => conv => rhs; whnf
def tStruck' : { f : FnText // f = fnText 14 } := by refine ⟨?v, ?p⟩; case p => conv => rhs; whnf
def tLaw' : { f : FnText // f = fnText 15 } := by refine ⟨?v, ?p⟩; case p => conv => rhs; whnf
abbrev tIter := tIter'.1
abbrev tStrip := tStrip'.1
abbrev tCheck := tCheck'.1
abbrev tInB1 := tInB1'.1
abbrev tMap := tMap'.1
abbrev tUnseen := tUnseen'.1
abbrev tPiece := tPiece'.1
abbrev tAlone := tAlone'.1
abbrev tOutside := tOutside'.1
abbrev tStruck := tStruck'.1
abbrev tLaw := tLaw'.1
end Mine

namespace Mine

def FnAt (h : Heap) (a : Addr) (name : Str) (t : FnText) : Prop :=
  ∃ o pm c doc, h.get? a = some o ∧ o.data = .func (docDef name t.params t.body t.scope pm (.ref c) doc) ∧ h.CodeRec (.ref c) name
theorem FnAt.keeps {h h' : Heap} {a : Addr} {name : Str} {t : FnText} (x : FnAt h a name t) (hk : ∀ b o, h.get? b = some o → h'.get? b = some o) : FnAt h' a name t :=
  let ⟨o, pm, c, doc, e, d, r⟩ := x; ⟨o, pm, c, doc, hk _ _ e, d, r.keeps hk⟩

structure Kp (s s' : Shared) : Prop where
  heap : ∀ b o, s.heap.get? b = some o → s'.heap.get? b = some o
  gens : ∀ (i : Nat) (x : GenState), s.gens[i]? = some x → s'.gens[i]? = some x
  bare : AllBare s.gens → AllBare s'.gens
  os : s'.os = s.os
theorem Kp.refl (s : Shared) : Kp s s := ⟨fun _ _ e => e, fun _ _ e => e, id, rfl⟩
theorem Kp.trans {a b c : Shared} (x : Kp a b) (y : Kp b c) : Kp a c :=
  ⟨fun q o e => y.heap q o (x.heap q o e), fun i g e => y.gens i g (x.gens i g e), fun q => y.bare (x.bare q), y.os.trans x.os⟩
theorem Kp.toks (s : Shared) (tk : Nat) : Kp s { s with toks := tk } := ⟨fun _ _ e => e, fun _ _ e => e, id, rfl⟩

structure At (s₀ : Shared) (L : Addr) (m : Str → Option Value) (ns : List (Addr × Obj)) (s : Shared) : Prop where
  fr : Fr s₀.heap L s.heap m
  nw : News s₀.heap L s.heap ns
  gens : ∀ (i : Nat) (x : GenState), s₀.gens[i]? = some x → s.gens[i]? = some x
  bare : AllBare s₀.gens → AllBare s.gens
  os : s.os = s₀.os

theorem At.kp {s₀ s : Shared} {L m ns} (W : At s₀ L m ns s) : Kp s₀ s := ⟨W.fr.keep, W.gens, W.bare, W.os⟩
theorem At.to {s₀ s : Shared} {L m ns m' ns'} (W : At s₀ L m ns s) {h' : Heap} {tk : Nat} (F : Fr s₀.heap L h' m') (N : News s₀.heap L h' ns') : At s₀ L m' ns' { s with heap := h', toks := tk } :=
  ⟨F, N, W.gens, W.bare, W.os⟩
theorem At.tok {s₀ s : Shared} {L m ns} (W : At s₀ L m ns s) (tk : Nat) : At s₀ L m ns { s with toks := tk } := ⟨W.fr, W.nw, W.gens, W.bare, W.os⟩
theorem At.on {s₀ s s' : Shared} {L m ns} (W : At s₀ L m ns s) (K : Kp s s') : At s₀ L m ns s' :=
  ⟨W.fr.after K.heap, fun p hp => ⟨K.heap _ _ (W.nw p hp).1, (W.nw p hp).2⟩, fun i x e => K.gens i x (W.gens i x e), fun q => K.bare (W.bare q), K.os.trans W.os⟩
theorem At.forget {s₀ s : Shared} {L m ns} (W : At s₀ L m ns s) : At s₀ L m [] s := ⟨W.fr, News.nil, W.gens, W.bare, W.os⟩

abbrev NoE : Value → Shared → Prop := fun _ _ => False

/-- what a function's body may lean on -/
structure Room (A : Around) (k : Nat) : Prop where
  hh : A.handled = none
  dep : A.depth + k < 900
  un : A.units + 10 * k < 5000
theorem Room.deeper {A : Around} {k : Nat} (R : Room A (k + 1)) (env : Env) : Room (A.deeper env) k :=
  ⟨R.hh, by have := R.dep; show A.depth + 1 + k < 900; omega, by have := R.un; show A.units + 3 + 10 * k < 5000; omega⟩
theorem Room.lt {A : Around} {k : Nat} (R : Room A k) : A.depth < recursionLimit := by
  have := R.dep; show A.depth < 1000; omega
theorem Room.in1 {A : Around} {k : Nat} (R : Room A (k + 1)) : Room A.in1 k :=
  ⟨R.hh, by have := R.dep; show A.depth + k < 900; omega, by have := R.un; show A.units + 1 + 10 * k < 5000; omega⟩
theorem Room.le {A : Around} {k j : Nat} (R : Room A k) (h : j ≤ k) : Room A j :=
  ⟨R.hh, by have := R.dep; omega, by have := R.un; omega⟩

section
variable {w : World} {A : Around} {E : Value → Shared → Prop} {s s₀ : Shared} {name : Str} {sc : Scope} {L a : Addr} {cd : Value} {m : Str → Option Value} {ns : List (Addr × Obj)} {pos : Pos} {Q : Value → Shared → Prop}

theorem xLd {x : Str} {v : Value} (W : At s₀ L m ns s) (hv : m x = some v) (h : Q v s)
    (hk : sc.kind = .function := by rfl) (hl : (envOf name sc L a cd).kindOf x = some .local := by rfl) (hd : (x == ("__debug__" : Str)) = false := by decide) :
    wpAny (model prg w) A (eval (.Name x pos) (envOf name sc L a cd)) Q E s := ld W.fr hv h hk hl hd
theorem xSt {x : Str} {v : Value} {Q : Unit → Shared → Prop} (W : At s₀ L m ns s) (h : ∀ s', At s₀ L (fun y => if y = x then some v else m y) ns s' → Q () s')
    (hk : sc.kind = .function := by rfl) (hl : (envOf name sc L a cd).kindOf x = some .local := by rfl) :
    wpAny (model prg w) A (storeName (envOf name sc L a cd) x v) Q E s := stN W.fr W.nw (fun _ F N => h _ (W.to F N)) hk hl

theorem xCallFn {f : Addr} {fn : Str} {np : Pos} {e : Expr} {mg : Str → Option Value} {nm : Str} {t : FnText} (W : At s₀ L m ns s) (hg : s₀.heap.Ns mainGlobals mg) (hm : mg fn = some (.ref f)) (hf : FnAt s₀.heap f nm t)
    (h : wpAny (model prg w) A (eval e (envOf name sc L a cd)) (fun v s₁ => Kp s₀ s₁ ∧ wpAny (model prg w) A (call (.ref f) [v]) Q E s₁) E s)
    (hs : starEach [e] (envOf name sc L a cd) = [(false, eval e (envOf name sc L a cd))] := by rfl)
    (hk : sc.kind = .function := by rfl) (hx : (envOf name sc L a cd).kindOf fn = some .globalImplicit := by rfl) (hd : (fn == ("__debug__" : Str)) = false := by decide) :
    wpAny (model prg w) A (eval (.Call (.Name fn np) [e] [] pos) (envOf name sc L a cd)) Q E s := by
  obtain ⟨o, pm, c, doc, ho, hdt, hcr⟩ := hf
  refine Call_name1 hs (ld_global_at W.fr hg hm ?_ hk hx hd)
  refine callWith_function (o := o) (fd := docDef nm t.params t.body t.scope pm (.ref c) doc) (Calls.evalArgs_plain (Calls.spliced_cons (wpAny_mono h (fun v s₁ h₁ => Calls.spliced_nil ?_) fun _ _ e => e)))
  exact ⟨⟨h₁.1.heap _ _ ho, hdt⟩, h₁.2⟩

theorem xCallB {id : String} {fn : Str} {np : Pos} {e : Expr} {mg mb : Str → Option Value} (W : At s₀ L m ns s) (hg : s₀.heap.Ns mainGlobals mg) (hmiss : mg fn = none) (hb : s₀.heap.Ns builtinsNs mb) (hm : mb fn = some (.builtin id))
    (h : wpAny (model prg w) A (eval e (envOf name sc L a cd)) (fun v s₁ => wpAny (model prg w) A (call (.builtin id) [v]) Q E s₁) E s)
    (hs : starEach [e] (envOf name sc L a cd) = [(false, eval e (envOf name sc L a cd))] := by rfl)
    (hk : sc.kind = .function := by rfl) (hx : (envOf name sc L a cd).kindOf fn = some .globalImplicit := by rfl) (hd : (fn == ("__debug__" : Str)) = false := by decide) :
    wpAny (model prg w) A (eval (.Call (.Name fn np) [e] [] pos) (envOf name sc L a cd)) Q E s :=
  Call_name1 hs (ld_builtin_at W.fr hg hmiss hb hm (callWith_builtin1 h) hk hx hd)
theorem xCallT {T : String} {fn : Str} {np : Pos} {e : Expr} {mg mb : Str → Option Value} (W : At s₀ L m ns s) (hg : s₀.heap.Ns mainGlobals mg) (hmiss : mg fn = none) (hb : s₀.heap.Ns builtinsNs mb) (hm : mb fn = some (.type T))
    (h : wpAny (model prg w) A (eval e (envOf name sc L a cd)) (fun v s₁ => wpAny (model prg w) A (call (.type T) [v]) Q E s₁) E s)
    (hs : starEach [e] (envOf name sc L a cd) = [(false, eval e (envOf name sc L a cd))] := by rfl)
    (hk : sc.kind = .function := by rfl) (hx : (envOf name sc L a cd).kindOf fn = some .globalImplicit := by rfl) (hd : (fn == ("__debug__" : Str)) = false := by decide) :
    wpAny (model prg w) A (eval (.Call (.Name fn np) [e] [] pos) (envOf name sc L a cd)) Q E s :=
  Call_name1 hs (ld_builtin_at W.fr hg hmiss hb hm (callWith_type1 h) hk hx hd)

/-- a call of one of the text's plain functions, one argument -/
theorem xEnter {f : Addr} {t : FnText} {x : Str} {v : Value} (hf : FnAt s.heap f name t) (hlim : s.heap.NoLimit) (hroom : A.depth < recursionLimit)
    (hbind : ∀ pm c doc, bindArgs (docDef name t.params t.body t.scope pm (.ref c) doc) ⟨[v], []⟩ = pure [(x, v)])
    (h : ∀ c s₁, At s s.heap.objs.size (fun y => if y = x then some v else none) [] s₁ →
      wpAny (model prg w) (A.deeper (envOf name t.scope s.heap.objs.size f (.ref c))) (execs t.body (envOf name t.scope s.heap.objs.size f (.ref c)))
        (fun fl s' => Q (match fl with | .ret v => v | _ => .none) s') NoE s₁)
    (hx : t.scope.names.lookup x = some .local := by rfl)
    (hco : t.scope.isCoroutine = false := by rfl) (hgen : t.scope.isGenerator = false := by rfl) (hk : t.scope.kind = .function := by rfl)
    (hcell : ∀ x ∈ t.scope.names, x.2 ≠ .cell := by decide) :
    wpAny (model prg w) A (call (.ref f) [v]) Q E s := by
  obtain ⟨o, pm, c, doc, ho, hdt, hcr⟩ := hf
  refine wpAny_call (call_plain_ret hroom ho hdt hlim hcr (hbind pm c doc) (fun y hy => ?_) (fun h₁ F => ?_) hco hgen hk hcell)
  · rw [List.mem_singleton.mp hy]; exact hx
  · refine wpAny_mono (h c _ ⟨?_, News.nil, fun _ _ e => e, id, rfl⟩) (fun fl s' q => q) fun _ _ q => q
    have e : (fun y : Str => ([(x, v)] : List (Str × Value)).reverse.lookup y) = fun y => if y = x then some v else none := by
      funext y
      by_cases hy : y = x
      · subst hy; simp [List.lookup]
      · have : (y == x) = false := by simpa using hy
        simp [List.lookup, this, hy]
    rw [e] at F
    exact F
end
end Mine

namespace Mine

def S (l : List Nat) : Str := ⟨l.toArray⟩
theorem S_append (a b : List Nat) : S a ++ S b = S (a ++ b) := by
  show Str.append (S a) (S b) = S (a ++ b)
  simp [S, Str.append]
theorem S_length (a : List Nat) : (S a).length = a.length := by simp [S, Str.length]
theorem S_inj {a b : List Nat} : S a = S b ↔ a = b := by simp [S]
theorem S_of (x : Str) : x = S x.cps.toList := by cases x; simp [S]

def b1List : List Int := [173, 847, 6150, 6155, 6156, 6157, 8203, 8204, 8205, 8288, 65279, 65024, 65025, 65026, 65027, 65028, 65029, 65030, 65031, 65032, 65033, 65034, 65035, 65036, 65037, 65038, 65039]
def isB1 (k : Int) : Bool := b1List.contains k

structure B3 (f : Int → Option Value) : Prop where
  sl : f 92 = none
  op : f 40 = none
  cl : f 41 = none
  qu : f 34 = none
  ss : ∃ t, f 223 = some (.str (S [115, 115]) t)
  ffi : ∃ t, f 64259 = some (.str (S [102, 102, 105]) t)
  big : ∀ i : Nat, i < 26 → ∃ t, f ((119808 + i : Nat) : Int) = some (.str (S [97 + i]) t)

structure Top0 (w : World) (mg mb : Str → Option Value) (h : Heap) : Prop where
  g : h.Ns mainGlobals mg
  b : h.Ns builtinsNs mb
  lim : h.NoLimit
  bi : ∀ x : Str, x ≠ "__name__" → mb x = bootBuiltins x
  nEnum : mg "enumerate" = none
  nOrd : mg "ord" = none
  nChr : mg "chr" = none
  nLen : mg "len" = none
  nRange : mg "range" = none
  gIter : mg "_iter_escaped_chars" = some (.ref 21)
  gStrip : mg "_strip_quoted_realnames" = some (.ref 28)
  gCheck : mg "_check_parenthesis" = some (.ref 35)
  gSet : mg "b1_set" = some (.ref 43)
  gInB1 : mg "in_table_b1" = some (.ref 53)
  gDict : mg "b3_exceptions" = some (.ref 54)
  gMap : mg "map_table_b3" = some (.ref 99)
  gUnseen : mg "_law_unseen" = some (.ref 106)
  gPiece : mg "_law_piece" = some (.ref 111)
  gAlone : mg "_law_alone" = some (.ref 116)
  gOutside : mg "_law_outside" = some (.ref 123)
  gStruck : mg "_law_struck_out" = some (.ref 128)
  fIter : FnAt h 21 "_iter_escaped_chars" tIter
  fStrip : FnAt h 28 "_strip_quoted_realnames" tStrip
  fCheck : FnAt h 35 "_check_parenthesis" tCheck
  fInB1 : FnAt h 53 "in_table_b1" tInB1
  fMap : FnAt h 99 "map_table_b3" tMap
  fUnseen : FnAt h 106 "_law_unseen" tUnseen
  fPiece : FnAt h 111 "_law_piece" tPiece
  fAlone : FnAt h 116 "_law_alone" tAlone
  fOutside : FnAt h 123 "_law_outside" tOutside
  fStruck : FnAt h 128 "_law_struck_out" tStruck
  fSet : ∃ o n, h.get? 43 = some o ∧ n < 4096 ∧ o.SetObjOf (intKind prg w) isB1 n
  fDict : ∃ f, h.MapOf (intKind prg w) 54 f ∧ B3 f

theorem MapOf_keeps {prog : Program} {w : World} {K : Type} [DecidableEq K] {knd : KeyKind prog w K} {h h' : Heap} {a : Addr} {f : K → Option Value} (hm : h.MapOf knd a f) (hk : ∀ b o, h.get? b = some o → h'.get? b = some o) : h'.MapOf knd a f :=
  let ⟨o, es, ep, ho, r⟩ := hm; ⟨o, es, ep, hk _ _ ho, r⟩

theorem Top0.keeps {w : World} {mg mb : Str → Option Value} {h h' : Heap} (T : Top0 w mg mb h) (hk : ∀ b o, h.get? b = some o → h'.get? b = some o) : Top0 w mg mb h' :=
  { T with
    g := T.g.keeps hk, b := T.b.keeps hk, lim := T.lim.keeps hk
    fIter := T.fIter.keeps hk, fStrip := T.fStrip.keeps hk, fCheck := T.fCheck.keeps hk, fInB1 := T.fInB1.keeps hk, fMap := T.fMap.keeps hk, fUnseen := T.fUnseen.keeps hk
    fPiece := T.fPiece.keeps hk, fAlone := T.fAlone.keeps hk, fOutside := T.fOutside.keeps hk, fStruck := T.fStruck.keeps hk
    fSet := let ⟨o, n, a, r⟩ := T.fSet; ⟨o, n, hk _ _ a, r⟩
    fDict := let ⟨f, a, r⟩ := T.fDict; ⟨f, MapOf_keeps a hk, r⟩ }

theorem bOrd : bootBuiltins "ord" = some (Value.builtin "ord") := by kernel_rfl
theorem bChr : bootBuiltins "chr" = some (Value.builtin "chr") := by kernel_rfl
theorem bLen : bootBuiltins "len" = some (Value.builtin "len") := by kernel_rfl
theorem bRange : bootBuiltins "range" = some (Value.type "range") := by kernel_rfl
theorem bEnum : bootBuiltins "enumerate" = some (Value.type "enumerate") := by kernel_rfl

section
variable {w : World} {A : Around} {s : Shared} {mg mb : Str → Option Value} {Q : Value → Shared → Prop}

theorem do_inB1 (T : Top0 w mg mb s.heap) (R : Room A 3) (c : Nat) (t : Tok) (h : ∀ s', Kp s s' → Q (.bool (isB1 c)) s') :
    wpAny (model prg w) A (call (.ref 53) [.str (S [c]) t]) Q NoE s := by
  refine xEnter T.fInB1 T.lim R.lt (x := "code") (fun _ _ _ => by rfl) (fun cd s₁ W => ?_)
  refine wpAny_execs_cons (wpAny_Return_some (wpAny_Compare1 ?_))
  refine xCallB W T.g T.nOrd T.b ((T.bi _ (by decide)).trans bOrd) ?_
  refine xLd W (by rfl) ?_
  refine P.ord_of_char ?_
  have W' := W.tok (s₁.toks + 1)
  refine ld_global_at W'.fr T.g T.gSet ?_
  obtain ⟨o, n, ho, hn, hs⟩ := T.fSet
  exact in_argsetI W'.fr hs ho hn (h _ (W'.tok _).kp)
end
end Mine

namespace Mine

def b3 (c : Nat) : List Nat := if c = 223 then [115, 115] else if c = 64259 then [102, 102, 105] else if 119808 ≤ c ∧ c < 119834 then [c - 119808 + 97] else [c]
def Sgn (c : Nat) : Prop := c = 92 ∨ c = 40 ∨ c = 41 ∨ c = 34 ∨ c = 223 ∨ c = 64259 ∨ (119808 ≤ c ∧ c < 119834)

theorem b3_big {i : Nat} (hi : i < 26) : b3 (119808 + i) = [97 + i] := by
  unfold b3
  have h1 : ¬ 119808 + i = 223 := by omega
  have h2 : ¬ 119808 + i = 64259 := by omega
  have h3 : 119808 ≤ 119808 + i ∧ 119808 + i < 119834 := by omega
  rw [if_neg h1, if_neg h2, if_pos h3, show 119808 + i - 119808 + 97 = 97 + i by omega]

theorem B3.at {f : Int → Option Value} (F : B3 f) {c : Nat} (h : Sgn c) :
    (f c = none ∧ b3 c = [c] ∧ (c = 92 ∨ c = 40 ∨ c = 41 ∨ c = 34)) ∨ ∃ t, f c = some (.str (S (b3 c)) t) := by
  rcases h with rfl | rfl | rfl | rfl | rfl | rfl | ⟨h1, h2⟩
  · exact .inl ⟨F.sl, by decide, by decide⟩
  · exact .inl ⟨F.op, by decide, by decide⟩
  · exact .inl ⟨F.cl, by decide, by decide⟩
  · exact .inl ⟨F.qu, by decide, by decide⟩
  · rw [show b3 223 = [115, 115] from by decide]; exact .inr F.ss
  · rw [show b3 64259 = [102, 102, 105] from by unfold b3; rw [if_neg (by omega), if_pos rfl]]; exact .inr F.ffi
  · obtain ⟨i, rfl⟩ : ∃ i, c = 119808 + i := ⟨c - 119808, by omega⟩
    have hi : i < 26 := by omega
    obtain ⟨t, e⟩ := F.big i hi
    refine .inr ⟨t, ?_⟩
    rw [show b3 (119808 + i) = [97 + i] from b3_big hi]; exact e

theorem lower_one {c : Nat} (h : c = 92 ∨ c = 40 ∨ c = 41 ∨ c = 34) : Txt.lower (S [c]) = S [c] := by
  rcases h with rfl | rfl | rfl | rfl <;> decide +kernel

theorem constNone {M : Model} {A : Around} {E : Value → Shared → Prop} {s : Shared} {env : Env} {k : Nat} {pos : Pos} {Q : Value → Shared → Prop} (h : Q .none s) : wpAny M A (eval (.Constant .none k pos) env) Q E s := fun _ _ _ => h
theorem constBool {M : Model} {A : Around} {E : Value → Shared → Prop} {s : Shared} {env : Env} {b : Bool} {k : Nat} {pos : Pos} {Q : Value → Shared → Prop} (h : Q (.bool b) s) : wpAny M A (eval (.Constant (.bool b) k pos) env) Q E s := fun _ _ _ => h

section
variable {w : World} {A : Around} {s : Shared} {mg mb : Str → Option Value} {Q : Value → Shared → Prop}

theorem do_map (T : Top0 w mg mb s.heap) (R : Room A 3) (c : Nat) (t : Tok) (hc : Sgn c) (h : ∀ s' t', Kp s s' → Q (.str (S (b3 c)) t') s') :
    wpAny (model prg w) A (call (.ref 99) [.str (S [c]) t]) Q NoE s := by
  refine xEnter T.fMap T.lim R.lt (x := "code") (fun _ _ _ => by rfl) (fun cd s₁ W => ?_)
  obtain ⟨f, hf, BF⟩ := T.fDict
  refine wpAny_execs_cons (wpAny_Assign_Name ?_)
  refine Call_method1 (by rfl) (by rfl) (by rfl) ?_
  refine ld_global_at W.fr T.g T.gDict ?_
  have hm := MapOf_keeps hf W.fr.keep
  refine ⟨"dict", "dict.get", F.plainAttrs_dict, F.slot_dict_get, F.type_dict_get, hm.typeIs, hm.noDict, wpAny_dict_get1 (knd := intKind prg w) (by decide) ?_⟩
  refine xCallB W T.g T.nOrd T.b ((T.bi _ (by decide)).trans bOrd) ?_
  refine xLd W (by rfl) ?_
  refine P.ord_of_char ?_
  refine ⟨(c : Int), f, isInt_self (c : Int) s₁.toks, hm, ?_⟩
  refine xSt (W.tok _) (fun s₂ W₂ => ?_)
  refine wpAny_execs_cons (wpAny_If (wpAny_isTrue_Compare1 (xLd W₂ (by rfl) ?_)))
  refine constNone ?_
  refine isNot_none (wpAny_truthy_bool ?_)
  rcases BF.at hc with ⟨hn, hb, hq⟩ | ⟨t', hs⟩
  · rw [hn]
    refine wpAny_execs_nil ?_
    refine wpAny_execs_cons (wpAny_Return_some ?_)
    refine Call_method0 (by rfl) (by rfl) (xLd W₂ (by rfl) ?_)
    refine SB.lower (by rw [lower_one hq]; rfl) ?_
    rw [lower_one hq, ← hb]
    exact h _ _ (W₂.tok _).kp
  · rw [hs]
    refine wpAny_execs_cons (wpAny_Return_some (xLd W₂ (by rfl) ?_))
    show Q ((f (c : Int)).getD .none) s₂
    rw [hs]
    exact h _ _ W₂.kp
end
end Mine

namespace Mine

section
variable {M : Model} {A : Around} {R : GenEnd} {Y : Protocol} {n : Nat} {s₀ : Shared} {c : Code} {fs : List Frame} {s : Shared} {env : Env}
  {K : Flow → Sem Fin} {H : Value → Sem Fin} {gd : Bool → Bool} {lv : List Value → List Value}

theorem segExec {st : Stmt} (h : wpAny M (A.over c fs) (exec st env) (fun f s' => Seg M A R Y n s₀ c (K f) fs s') NoE s) :
    Seg M A R Y n s₀ c ((exec st env).wrap K H gd lv) fs s := seg_wrap (wpAny_mono h (fun _ _ q => q) fun _ _ q => q.elim)

theorem segIf {test : Expr} {body orelse : List Stmt} {pos : Pos}
    (h : wpAny M (A.over c fs) (isTrue test env (eval test env)) (fun b s' => if b = true then Seg M A R Y n s₀ c ((execs body env).wrap K H gd lv) fs s' else Seg M A R Y n s₀ c ((execs orelse env).wrap K H gd lv) fs s') NoE s) :
    Seg M A R Y n s₀ c ((exec (.If test body orelse pos) env).wrap K H gd lv) fs s := by
  rw [exec_If]
  show Seg M A R Y n s₀ c (.at pos fun _ => ((isTrue test env (eval test env) >>= fun b => if b = true then execs body env else execs orelse env) : Sem Flow).wrap K H gd lv) fs s
  refine seg_at ?_
  rw [Sem.bind_eq_wrap', Sem.wrap_wrap]
  refine seg_wrap (wpAny_mono h (fun b s' hb => ?_) fun _ _ q => q.elim)
  cases b with
  | true => rw [if_pos rfl] at hb; exact hb
  | false => rw [if_neg Bool.false_ne_true] at hb; exact hb

theorem segFor {target iter : Expr} {body orelse : List Stmt} {pos : Pos}
    (h : wpAny M (A.over c fs) (eval iter env) (fun x s₁ => wpAny M (A.over c fs) (pyIter x) (fun it s₂ => ∀ p, Seg M A R Y n s₀ (.forLoop target it body orelse env) (M.den (.forLoop target it body orelse env))
      (.ret (fun r => ((match r with | .ok f => (.pure f : Sem Flow) | .error e => .raise e).onRaise fun (x : Value) => do
        if (← field x 1) == Value.none then unsupported "frame.own-activation:exception-without-traceback"
        setFlight x env.frame).wrap K H gd lv) none (gd false) (lv []) c p [] :: fs) s₂) NoE s₁) NoE s)
    (hs : ∀ x, foldedSetIterable iter env x = pure x := by intro _; rfl) :
    Seg M A R Y n s₀ c ((exec (.For target iter body orelse pos) env).wrap K H gd lv) fs s := by
  have e : exec (.For target iter body orelse pos) env = ((standAt pos >>= fun _ => eval iter env >>= fun y => foldedSetIterable iter env y >>= fun x => standAt iter.pos >>= fun _ => holding [x] (pyIter x)) >>= fun it =>
      runOwn (.forLoop target it body orelse env) env) := by
    simp only [bind_assoc]
    rfl
  rw [e, Sem.bind_eq_wrap', Sem.wrap_wrap]
  refine seg_wrap (wpAny_bind (wpAny_standAt (wpAny_bind (wpAny_mono h (fun x s₁ h₁ => wpAny_bind (wpAny_of_eq (hs x) (wpAny_bind (wpAny_standAt (wpAny_holding (wpAny_mono h₁ (fun it s₂ h₂ => ?_) fun _ _ q => q.elim)))))) fun _ _ q => q.elim))))
  exact seg_call h₂
end

section
variable {prog : Program} {w : World} {A : Around} {R : GenEnd} {Y : Protocol} {n : Nat} {s₀ : Shared} {fs : List Frame} {s : Shared} {env : Env}

theorem segForLoop {target : Expr} {it : Value} {body orelse : List Stmt}
    (h : wpAny (model prog w) (A.over (.forLoop target it body orelse env) fs) (pyNext it) (fun r s₁ => match r with
      | none => Seg (model prog w) A R Y n s₀ (.forLoop target it body orelse env) (.pure (.again (.block orelse env))) fs s₁
      | some v => wpAny (model prog w) (A.over (.forLoop target it body orelse env) fs) (letOwnedTupleGo target it v) (fun _ s₂ =>
          wpAny (model prog w) (A.over (.forLoop target it body orelse env) fs) (assign target env v) (fun _ s₃ =>
            Seg (model prog w) A R Y n s₀ (.forLoop target it body orelse env) ((execs body env).wrap (fun f => match f with
              | .next | .cont => .pure (.again (.forLoop target it body orelse env))
              | .brk => .pure (.done .next)
              | .ret v => .pure (.done (.ret v))) (fun e => (do noteFrame e env; theTreesLotGoes e : Sem Unit).wrap (fun _ => .raise e) .raise id id) id id) fs s₃) NoE s₂) NoE s₁) NoE s) :
    Seg (model prog w) A R Y n s₀ (.forLoop target it body orelse env) ((model prog w).den (.forLoop target it body orelse env)) fs s := by
  show Seg _ A R Y n s₀ _ ((forTurn target it body orelse env).onRaise (fun x => do noteFrame x env; theTreesLotGoes x)) fs s
  have e : forTurn target it body orelse env = ((standAt target.pos >>= fun _ => (pyNext it).onRaise (fun _ => standAt { target.pos with line := 0 })) >>= fun r => match r with
      | none => again (.block orelse env)
      | some v => (letOwnedTupleGo target it v >>= fun _ => assign target env v) >>= fun _ => execs body env >>= fun f => match f with
          | .next | .cont => again (.forLoop target it body orelse env)
          | .brk => pure (.done .next)
          | .ret v => pure (.done (.ret v))) := by
    unfold forTurn
    simp only [bind_assoc]
    rfl
  rw [e, Sem.onRaise_eq_wrap, Sem.bind_eq_wrap', Sem.wrap_wrap]
  refine seg_wrap (wpAny_bind (wpAny_standAt (wpAny_onRaise (wpAny_mono h (fun r s₁ h₁ => ?_) fun _ _ q => q.elim))))
  cases r with
  | none => exact h₁
  | some v =>
    show Seg _ A R Y n s₀ _ (Sem.wrap _ _ _ _ ((letOwnedTupleGo target it v >>= fun _ => assign target env v) >>= _)) fs s₁
    rw [Sem.bind_eq_wrap', Sem.wrap_wrap]
    refine seg_wrap (wpAny_bind (wpAny_mono h₁ (fun _ s₂ h₂ => wpAny_mono h₂ (fun _ s₃ h₃ => ?_) fun _ _ q => q.elim) fun _ _ q => q.elim))
    show Seg _ A R Y n s₀ _ (Sem.wrap _ _ _ _ (execs body env >>= _)) fs s₃
    rw [Sem.bind_eq_wrap', Sem.wrap_wrap]
    rw [Sem.wrap_congr (execs body env) _ _ (K' := fun f => match f with
            | .next | .cont => .pure (.again (.forLoop target it body orelse env))
            | .brk => .pure (.done .next)
            | .ret v => .pure (.done (.ret v))) (H' := (fun e => (do noteFrame e env; theTreesLotGoes e : Sem Unit).wrap (fun _ => .raise e) .raise id id))
        (fun f => by cases f <;> rfl)
        (fun e => by first | exact Sem.bind_eq_wrap _ _ | (show (do noteFrame e env; theTreesLotGoes e : Sem Unit).bind (fun _ => .raise e) = _; rw [Sem.bind_eq_wrap]))]
    exact h₃

theorem segBlockNil {k h g l c p kp} (hk : Seg (model prog w) A R Y n s₀ c (k (.ok .next)) fs s) {c0 : Code} :
    Seg (model prog w) A R Y n s₀ c0 (.pure (.again (.block [] env))) (.ret k h g l c p kp :: fs) s := by
  refine seg_again (by rfl) ?_
  show Seg _ A R Y n s₀ _ (.pure (.done .next)) _ s
  exact seg_leaf (.ok .next) hk
end
end Mine

namespace Mine

noncomputable def unitsE : Bool → Nat → List Nat → List (Nat × List Nat)
  | true, i, [] => [(i - 1, [92])]
  | false, _, [] => []
  | true, i, c :: r => (i, [92, c]) :: unitsE false (i + 1) r
  | false, i, c :: r => if c = 92 then unitsE true (i + 1) r else (i, [c]) :: unitsE false (i + 1) r

def Since (wr : List Addr) (s₀ s : Shared) : Prop := ∃ h' tk, s = { s₀ with heap := h', toks := tk } ∧ ∀ b o, b ∉ wr → s₀.heap.get? b = some o → h'.get? b = some o
theorem Since.refl (wr : List Addr) (s : Shared) : Since wr s s := ⟨s.heap, s.toks, rfl, fun _ _ _ e => e⟩
theorem Since.step {wr : List Addr} {s₀ s : Shared} (x : Since wr s₀ s) {h' : Heap} {tk : Nat} (hk : ∀ b o, b ∉ wr → s.heap.get? b = some o → h'.get? b = some o) : Since wr s₀ { s with heap := h', toks := tk } := by
  obtain ⟨h₁, tk₁, rfl, hk₁⟩ := x
  exact ⟨h', tk, rfl, fun b o hw e => hk b o hw (hk₁ b o hw e)⟩

def IsUnit (h : Heap) (T : Addr) (u : Nat × List Nat) : Prop := ∃ t t', h.IsTuple T #[.int u.1 t, .str (S u.2) t']

def YI (own : List Addr) (U : List (Nat × List Nat)) : Protocol := fun m s₀ v s' K => ∃ T pre u post, v = .ref T ∧ U = pre ++ u :: post ∧ post.length = m ∧ IsUnit s'.heap T u ∧ T ∉ own ∧ (∀ b ∈ own, b < s'.heap.objs.size) ∧ Since own s₀ s' ∧
  ∀ s'', (∀ b ∈ own, ∀ o, s'.heap.get? b = some o → s''.heap.get? b = some o) → K (.send .none) s''
def RI (own : List Addr) : GenEnd := fun n s₀ r s₁ => r = .ok (.ret .none) ∧ (n = 0 ∧ Since own s₀ s₁)

def forOf (l : List Stmt) (i : Nat) : Expr × List Stmt := match l[i]? with
  | some (.For t _ b _ _) => (t, b)
  | _ => (.Constant .none 0 ⟨0, 0, 0, 0⟩, [])
def forI' : { p : Expr × List Stmt // p = forOf tIter.body 2 } := by refine ⟨?v, ?p⟩; case p => conv => rhs; whnf
def tlI' : { p : List Stmt // p = tIter.body.drop 3 } := by refine ⟨?v, ?p⟩; case p => conv => rhs; whnf
abbrev tgI : Expr := forI'.1.1
abbrev bdI : List Stmt := forI'.1.2
abbrev tlI : List Stmt := tlI'.1

section
variable {w : World} {A : Around} {E : Value → Shared → Prop} {s : Shared}
theorem assignPair {env : Env} {xa xb : Str} {pa pb pos : Pos} {k : Nat} {T : Addr} {va vb : Value} {m : Str → Option Value} {Q : Unit → Shared → Prop} (hh : A.handled = none)
    (ht : s.heap.IsTuple T #[va, vb]) (hn : s.heap.Ns env.locals m) (ha : env.kindOf xa = some .local) (hb : env.kindOf xb = some .local)
    (hp : (env.scope.kind == .class || (env.scope.kind == .module && env.locals != env.globals)) = false)
    (h : ∀ h' tk, h'.Ns env.locals (fun y => if y = xb then some vb else if y = xa then some va else m y) → (∀ b o, b ≠ env.locals → s.heap.get? b = some o → h'.get? b = some o) → Q () { s with heap := h', toks := tk }) :
    wpAny (model prg w) A (assign (.Tuple [.Name xa pa, .Name xb pb] k pos) env (.ref T)) Q E s := by
  refine wpAny_assign_Tuple hh ht rfl rfl fun h₃ hx₃ => ?_
  have hL := hn.lt
  have hn₃ : h₃.Ns env.locals m := hn.at fun o x => hx₃ _ o (Nat.ne_of_lt hL) x
  show wpAny _ A (do holding [vb] (assign (.Name xa pa) env va); do holding [] (assign (.Name xb pb) env vb); pure ()) _ _ _
  refine wpAny_bind (wpAny_holding (wpAny_assign_Name (wpAny_storeName_local ha hn₃ (fun h₄ hn₄ hs₄ => ?_) hp)))
  replace hs₄ : Heap.SameBut env.locals h₃ h₄ := hs₄
  refine wpAny_bind (wpAny_holding (wpAny_assign_Name (wpAny_storeName_local hb hn₄ (fun h₅ hn₅ hs₅ => wpAny_pure ?_) hp)))
  replace hs₅ : Heap.SameBut env.locals h₄ h₅ := hs₅
  exact h h₅ _ hn₅ fun b o hb x => hs₅.extBut b o hb (hs₄.extBut b o hb (hx₃ b o (Nat.ne_of_lt (Heap.lt_size x)) x))

theorem drawsStr (hh : A.handled = none) (it : Addr) (x : Str) (t : Tok) :
    Draws prg w A it [it] x.cps.size (fun i v => ∃ c u, x.cps[i]? = some c ∧ v = .str ⟨#[c]⟩ u) (fun i h => h.IsStrIter it (strIterType x) x t i) := by
  unfold strIterType
  split
  · exact Draws.strAscii hh it x t
  · exact Draws.strWide hh it x t

theorem yieldPair {M : Model} {env : Env} {ea eb : Expr} {k : Nat} {pos : Pos} {Q : Value → Shared → Prop} (hs : starEach [ea, eb] env = [(false, eval ea env), (false, eval eb env)])
    (h : wpAny M A (eval ea env) (fun va s₁ => wpAny M A (eval eb env) (fun vb s₂ => Q (.ref s₂.heap.objs.size) { s₂ with heap := s₂.heap.push { cls := .type "tuple", data := .seq #[va, vb] } }) E s₁) E s) :
    wpAny M A (eval (.Tuple [ea, eb] k pos) env) Q E s := by
  refine Tuple_ ?_
  rw [hs]
  show wpAny M A (spliced (backTo pos [(false, eval ea env), (false, eval eb env)])) _ E s
  refine Calls.spliced_cons (wpAny_mono h (fun va s₁ h₁ => Calls.spliced_cons (wpAny_mono h₁ (fun vb s₂ h₂ => Calls.spliced_nil ?_) fun _ _ q => q)) fun _ _ q => q)
  exact PySem.wpAny_newTuple h₂
end
end Mine

namespace Mine

abbrev envI (L : Addr) (cd : Value) : Env := envOf "_iter_escaped_chars" tIter.scope L 21 cd

theorem beq_bs (c : Nat) : ((⟨#[c]⟩ : Str) == ("\\" : Str)) = decide (c = 92) := by
  rw [Bool.eq_iff_iff, beq_iff_eq, decide_eq_true_eq]
  rw [show ("\\" : Str) = ⟨#[92]⟩ from by decide +kernel]
  simp

structure LoopSt (x : List Nat) (t : Tok) (L e it : Addr) (i : Nat) (esc : Bool) (m : Str → Option Value) (h : Heap) : Prop where
  ns : h.Ns L m
  fe : m "escape" = some (.bool esc)
  fp : esc = true → 0 < i ∧ ∃ u, m "pos" = some (.int ((i - 1 : Nat) : Int) u)
  en : ∃ old, IsEnum h e it i old
  si : h.IsStrIter it (strIterType (S x)) (S x) t i

theorem LoopSt.on {x t L e it i esc m h h'} (X : LoopSt x t L e it i esc m h) (hk : ∀ b ∈ [L, e, it], ∀ o, h.get? b = some o → h'.get? b = some o) : LoopSt x t L e it i esc m h' :=
  ⟨X.ns.at fun o q => hk L (by simp) o q, X.fe, X.fp, let ⟨old, q⟩ := X.en; ⟨old, hk e (by simp) _ q⟩, let ⟨o, q, r⟩ := X.si; ⟨o, hk it (by simp) o q, r⟩⟩

section
variable {M : Model} {A : Around} {E : Value → Shared → Prop} {s : Shared} {name : Str} {sc : Scope} {L a : Addr} {cd : Value} {m : Str → Option Value}
theorem ldL {x : Str} {pos : Pos} {v : Value} {Q : Value → Shared → Prop} (hn : s.heap.Ns L m) (hv : m x = some v) (h : Q v s)
    (hk : sc.kind = .function := by rfl) (hl : (envOf name sc L a cd).kindOf x = some .local := by rfl) (hd : (x == ("__debug__" : Str)) = false := by decide) :
    wpAny M A (eval (.Name x pos) (envOf name sc L a cd)) Q E s := wpAny_Name (wpAny_loadName_local hk hl hn hv h) hd
theorem stL {x : Str} {v : Value} {Q : Unit → Shared → Prop} (hn : s.heap.Ns L m)
    (h : ∀ h', h'.Ns L (fun y => if y = x then some v else m y) → Heap.SameBut L s.heap h' → Q () { s with heap := h', toks := s.toks + 1 })
    (hk : sc.kind = .function := by rfl) (hl : (envOf name sc L a cd).kindOf x = some .local := by rfl) :
    wpAny M A (storeName (envOf name sc L a cd) x v) Q E s :=
  wpAny_storeName_local hl hn h (by show (sc.kind == .class || (sc.kind == .module && L != mainGlobals)) = false; rw [hk]; rfl)
end

section
variable {w : World} {A : Around} {U : List (Nat × List Nat)} {x : List Nat} {t : Tok} {L e it : Addr} {cd : Value} {c : Code} {p : Pos} {k : Result → Sem Fin} {kp : List Value} {lv : List Value}

theorem loopSeg (hLe : L ≠ e) (hLi : L ≠ it) (hie : it < e)
    (hA : (A.over (.forLoop tgI (.ref e) bdI [] (envI L cd)) [.ret k none false lv c p kp]).handled = none)
    (tail : ∀ esc i pre s₀ s m, (∀ b ∈ [L, e, it], b < s.heap.objs.size) → U = pre ++ unitsE esc i [] → Since [L, e, it] s₀ s → s.heap.Ns L m → m "escape" = some (.bool esc) → (esc = true → 0 < i ∧ ∃ u, m "pos" = some (.int ((i - 1 : Nat) : Int) u)) →
      Seg (model prg w) A (RI [L, e, it]) (YI [L, e, it] U) (unitsE esc i []).length s₀ c (k (.ok .next)) [] s) :
    ∀ (l : List Nat) (i : Nat) (esc : Bool) (pre : List (Nat × List Nat)) (s₀ s : Shared) (m : Str → Option Value), U = pre ++ unitsE esc i l → x.drop i = l → i ≤ x.length → Since [L, e, it] s₀ s →
      LoopSt x t L e it i esc m s.heap →
      Seg (model prg w) A (RI [L, e, it]) (YI [L, e, it] U) (unitsE esc i l).length s₀ (.forLoop tgI (.ref e) bdI [] (envI L cd)) ((model prg w).den (.forLoop tgI (.ref e) bdI [] (envI L cd))) [.ret k none false lv c p kp] s := by
  intro l
  have hei : e ≠ it := Nat.ne_of_gt hie
  have D := drawsStr (w := w) (A := (A.over (.forLoop tgI (.ref e) bdI [] (envI L cd)) [.ret k none false lv c p kp]).in1) hA it (S x) t
  induction l with
  | nil =>
    intro i esc pre s₀ s m hU hx hi hsi X
    obtain ⟨old, hen⟩ := X.en
    have hlen : x.length = i := by
      have := congrArg List.length hx
      rw [List.length_drop] at this
      simp at this; omega
    refine segForLoop (wpAny_pyNext_enum_endD D hen (by
      have := X.si; rw [← hlen] at this; exact this) fun h' hx' => ?_)
    have hL' : h'.Ns L m := X.ns.at fun o q => hx' L o hLi q
    have he' : e < h'.objs.size := Heap.lt_size (hx' e _ hei hen)
    refine segBlockNil (tail esc i pre s₀ _ m (fun b hb => ?_) hU (hsi.step (h' := h') (tk := s.toks) fun b o hb q => hx' b o (fun e' => hb (by simp [e'])) q) hL' X.fe X.fp)
    simp only [List.mem_cons, List.not_mem_nil, or_false] at hb
    rcases hb with rfl | rfl | rfl
    · exact hL'.lt
    · exact he'
    · exact Nat.lt_trans hie he'
  | cons c₀ r ih =>
    intro i esc pre s₀ s m hU hx hi hsi X
    obtain ⟨old, hen⟩ := X.en
    have hlt : i < x.length := by
      have := congrArg List.length hx
      rw [List.length_drop] at this
      simp at this; omega
    have hxi : x[i]? = some c₀ := by
      have : (x.drop i)[0]? = some c₀ := by rw [hx]; rfl
      simpa using this
    have hxr : x.drop (i + 1) = r := by
      rw [← List.tail_drop, hx]; rfl
    have hltS : i < (S x).cps.size := by simpa [S] using hlt
    refine segForLoop (wpAny_pyNext_enum_itemD D hen X.si hltS hei (by simp [hei]) fun y h₁ tk hP heo hst hT hz hk₁ => ?_)
    obtain ⟨c₁, u₁, hc₁, rfl⟩ := hP
    obtain rfl : c₁ = c₀ := by
      have : x[i]? = some c₁ := by simpa [S] using hc₁
      rw [hxi] at this; exact (Option.some.inj this).symm
    have hLs : L < s.heap.objs.size := X.ns.lt
    have hes : e < s.heap.objs.size := Heap.lt_size hen
    have his : it < s.heap.objs.size := let ⟨o, q, _⟩ := X.si; Heap.lt_size q
    refine wpAny_letOwnedTupleGo_enum heo fun h₂ he₂ hs₂ => ?_
    replace hs₂ : Heap.SameBut e h₁ h₂ := hs₂
    have hT₂ : h₂.IsTuple s.heap.objs.size #[.int i tk, .str ⟨#[c₁]⟩ u₁] := ⟨_, (hs₂.2 _ (Nat.ne_of_gt hes)).trans hT, rfl, _, rfl⟩
    have hn₂ : h₂.Ns L m := (X.ns.at fun o q => hk₁ L o hLe hLi q).sameBut hs₂ hLe
    refine assignPair hA hT₂ hn₂ (by rfl) (by rfl) (by rfl) fun h₃ tk₃ hn₃ hk₃ => ?_
    replace hk₃ : ∀ b o, b ≠ L → h₂.get? b = some o → h₃.get? b = some o := hk₃
    replace hn₃ : h₃.Ns L (fun y => if y = ("ch" : Str) then some (.str ⟨#[c₁]⟩ u₁) else if y = ("pos" : Str) then some (.int i tk) else m y) := hn₃
    have he₃ : IsEnum h₃ e it ((i + 1 : Nat) : Int) (.str ⟨#[c₁]⟩ u₁) := by
      have : ((i + 1 : Nat) : Int) = (i : Int) + 1 := by push_cast; rfl
      rw [this]; exact hk₃ e _ (Ne.symm hLe) he₂
    have hi₃ : h₃.IsStrIter it (strIterType (S x)) (S x) t (i + 1) := by
      obtain ⟨o, q, r⟩ := hst
      exact ⟨o, hk₃ it o (Ne.symm hLi) ((hs₂.2 it (Ne.symm hei)).trans q), r⟩
    have hall : ∀ b o, b ∉ [L, e, it] → s.heap.get? b = some o → h₃.get? b = some o := fun b o hb q => by
      have hbL : b ≠ L := fun e' => hb (by simp [e'])
      have hbe : b ≠ e := fun e' => hb (by simp [e'])
      have hbi : b ≠ it := fun e' => hb (by simp [e'])
      exact hk₃ b o hbL ((hs₂.2 b hbe).trans (hk₁ b o hbe hbi q))
    clear hk₁ heo hst hT hs₂ hT₂ hn₂ he₂ hk₃
    have hLh : L < h₃.objs.size := hn₃.lt
    have heh : e < h₃.objs.size := Heap.lt_size he₃
    have hih : it < h₃.objs.size := let ⟨o, q, _⟩ := hi₃; Heap.lt_size q
    have hlts : ∀ ob : Obj, ∀ b ∈ [L, e, it], b < (h₃.push ob).objs.size := fun ob b hb => by
      simp only [List.mem_cons, List.not_mem_nil, or_false] at hb
      rw [Heap.size_push]
      rcases hb with rfl | rfl | rfl
      · exact Nat.lt_succ_of_lt hLh
      · exact Nat.lt_succ_of_lt heh
      · exact Nat.lt_succ_of_lt hih
    have hown : h₃.objs.size ∉ [L, e, it] := by
      intro q
      simp only [List.mem_cons, List.not_mem_nil, or_false] at q
      rcases q with q | q | q
      · exact Nat.ne_of_gt hLh q
      · exact Nat.ne_of_gt heh q
      · exact Nat.ne_of_gt hih q
    refine seg_execs_cons (segIf (isTrue_plain (ldL hn₃ (v := .bool esc) X.fe (wpAny_truthy_bool ?_))))
    cases esc with
    | true =>
      rw [if_pos rfl]
      refine seg_execs_cons ?_
      refine seg_Expr_Yield (n := (unitsE false (i + 1) r).length) (by rfl) rfl (by rfl) (yieldPair (by rfl) (ldL hn₃ (by rfl) ?_))
      refine wpAny_BinOp (Calls.Constant_str (ldL (s := ⟨h₃, s.gens, s.drawn, tk₃ + 1, s.os⟩) hn₃ (by rfl) (add_str (fun t' tk' => ?_) (by show 1 + 1 ≤ sizeLine; decide))))
      intro kap hkap
      refine ⟨h₃.objs.size, pre, (i, [92, c₁]), unitsE false (i + 1) r, rfl, hU, rfl, ⟨tk, t', ⟨_, Heap.get?_push_size _ rfl, rfl, 0, rfl⟩⟩, hown, hlts _, ?_, fun s'' hag => ?_⟩
      · exact hsi.step fun b o hb q => Heap.get?_push_of_some _ (hall b o hb q)
      · have hag' : ∀ b ∈ [L, e, it], ∀ o, h₃.get? b = some o → s''.heap.get? b = some o := fun b hb o q => hag b hb o (Heap.get?_push_of_some _ q)
        refine hkap .none s'' ?_
        refine seg_execs_cons (segExec (wpAny_Assign_Name (constBool (stL (hn₃.at fun o q => hag' L (by simp) o q) fun h₆ hn₆ hs₆ => ?_))))
        refine seg_again (by rfl) ?_
        refine ih (i + 1) false (pre ++ [(i, [92, c₁])]) s'' _ _ (by rw [hU]; simp [unitsE]) hxr hlt ((Since.refl _ s'').step fun b o hb q => hs₆.extBut b o (fun e' => hb (by simp [e'])) q) ⟨hn₆, by rfl, (fun q => by cases q), ⟨_, hs₆.extBut _ _ (Ne.symm hLe) (hag' e (by simp) _ he₃)⟩, ?_⟩
        obtain ⟨o, q, z⟩ := hi₃
        exact ⟨o, hs₆.extBut _ _ (Ne.symm hLi) (hag' it (by simp) _ q), z⟩
    | false =>
      rw [if_neg (by simp)]
      refine seg_execs_cons (segIf (wpAny_isTrue_Compare1 (ldL hn₃ (by rfl) (Calls.Constant_str (eq_str (wpAny_truthy_bool ?_))))))
      rw [beq_bs]
      by_cases hc : c₁ = 92
      · have hu : unitsE false i (c₁ :: r) = unitsE true (i + 1) r := by simp [unitsE, hc]
        rw [if_pos (by simp [hc]), hu]
        rw [hu] at hU
        refine seg_execs_cons (segExec (wpAny_Assign_Name (constBool (stL hn₃ fun h₆ hn₆ hs₆ => ?_))))
        refine seg_again (by rfl) ?_
        refine ih (i + 1) true pre s₀ _ _ hU hxr hlt (hsi.step fun b o hb q => hs₆.extBut b o (fun e' => hb (by simp [e'])) (hall b o hb q)) ⟨hn₆, by rfl, fun _ => ⟨Nat.succ_pos i, tk, by rfl⟩, ⟨_, hs₆.extBut _ _ (Ne.symm hLe) he₃⟩, ?_⟩
        obtain ⟨o, q, z⟩ := hi₃
        exact ⟨o, hs₆.extBut _ _ (Ne.symm hLi) q, z⟩
      · have hu : unitsE false i (c₁ :: r) = (i, [c₁]) :: unitsE false (i + 1) r := by simp [unitsE, hc]
        rw [if_neg (by simp [hc]), hu]
        rw [hu] at hU
        refine seg_execs_cons ?_
        refine seg_Expr_Yield (n := (unitsE false (i + 1) r).length) (by rfl) rfl (by rfl) (yieldPair (by rfl) (ldL hn₃ (by rfl) (ldL hn₃ (by rfl) ?_)))
        intro kap hkap
        refine ⟨h₃.objs.size, pre, (i, [c₁]), unitsE false (i + 1) r, rfl, hU, rfl, ⟨tk, u₁, ⟨_, Heap.get?_push_size _ rfl, rfl, 0, rfl⟩⟩, hown, hlts _, ?_, fun s'' hag => ?_⟩
        · exact hsi.step fun b o hb q => Heap.get?_push_of_some _ (hall b o hb q)
        · have hag' : ∀ b ∈ [L, e, it], ∀ o, h₃.get? b = some o → s''.heap.get? b = some o := fun b hb o q => hag b hb o (Heap.get?_push_of_some _ q)
          refine hkap .none s'' ?_
          refine seg_again (by rfl) ?_
          refine ih (i + 1) false (pre ++ [(i, [c₁])]) s'' _ _ (by rw [hU]; simp) hxr hlt (Since.refl _ s'') ⟨hn₃.at fun o q => hag' L (by simp) o q, X.fe, (fun q => by cases q), ⟨_, hag' e (by simp) _ he₃⟩, ?_⟩
          obtain ⟨o, q, z⟩ := hi₃
          exact ⟨o, hag' it (by simp) _ q, z⟩
end
end Mine

namespace Mine

abbrev KfI : Flow → Sem Fin := fun f => .pure (.done (.ret (match f with | .ret v => v | _ => .none)))
abbrev HfI (env : Env) : Value → Sem Fin := fun e => (leaving env e).wrap (fun _ => .raise e) .raise id id

section
variable {w : World} {A : Around} {U : List (Nat × List Nat)} {x : List Nat} {t : Tok} {L e it : Addr} {cd : Value} {mg mb : Str → Option Value} {hT : Heap}

theorem tailSeg {esc : Bool} {i : Nat} {pre : List (Nat × List Nat)} {own : List Addr} {s₀ s : Shared} {m : Str → Option Value} (hown : ∀ b ∈ own, b < s.heap.objs.size)
    (hU : U = pre ++ unitsE esc i []) (hsi : Since own s₀ s) (hn : s.heap.Ns L m) (fe : m "escape" = some (.bool esc)) (fp : esc = true → 0 < i ∧ ∃ u, m "pos" = some (.int ((i - 1 : Nat) : Int) u)) :
    Seg (model prg w) A (RI own) (YI own U) (unitsE esc i []).length s₀ (.func tIter.body (envI L cd)) ((execs tlI (envI L cd)).wrap KfI (HfI (envI L cd)) id id) [] s := by
  refine seg_execs_cons (segIf (isTrue_plain (ldL hn (v := .bool esc) fe (wpAny_truthy_bool ?_))))
  cases esc with
  | true =>
    obtain ⟨hi, u, hp⟩ := fp rfl
    rw [if_pos rfl]
    refine seg_execs_cons ?_
    refine seg_Expr_Yield (n := 0) (by rfl) rfl (by rfl) (yieldPair (by rfl) (ldL hn hp (Calls.Constant_str ?_)))
    intro kap hkap
    refine ⟨s.heap.objs.size, pre, (i - 1, [92]), [], rfl, hU, rfl, ⟨u, s.toks, ⟨_, Heap.get?_push_size _ rfl, rfl, 0, ?_⟩⟩, fun q => Nat.lt_irrefl _ (hown _ q), fun b hb => by rw [Heap.size_push]; exact Nat.lt_succ_of_lt (hown b hb), hsi.step fun b o _ q => Heap.get?_push_of_some _ q, fun s'' hag => ?_⟩
    · rw [show (S [92] : Str) = ("\\" : Str) from by decide +kernel]
    · refine hkap .none s'' ?_
      exact seg_end (.ok (.ret .none)) ⟨rfl, rfl, Since.refl _ _⟩
  | false =>
    rw [if_neg (by simp)]
    exact seg_end (.ok (.ret .none)) ⟨rfl, rfl, hsi⟩

theorem over_nil (hA : A.handled = none) (c : Code) : (A.over c []).handled = none := hA
theorem over_one (hA : A.handled = none) (c c' : Code) (k : Result → Sem Fin) (lv : List Value) (p : Pos) (kp : List Value) : (A.over c [.ret k none false lv c' p kp]).handled = none := by
  show (marksOver [.ret k none false lv c' p kp] (A.handled, A.handled)).1 = none
  rw [hA]
  simp [marksOver, Frame.marks, markOver]

theorem firstSeg {s : Shared} {m : Str → Option Value} (hA : A.handled = none) (hTop : Top0 w mg mb hT) (hk : ∀ b o, hT.get? b = some o → s.heap.get? b = some o) (hLT : hT.get? L = none) (hn : s.heap.Ns L m) (ha : m "addr" = some (.str (S x) t)) :
    Seg (model prg w) A (RI [L, s.heap.objs.size + 1, s.heap.objs.size]) (YI [L, s.heap.objs.size + 1, s.heap.objs.size] (unitsE false 0 x)) (unitsE false 0 x).length s (.func tIter.body (envI L cd))
      ((model prg w).den (.func tIter.body (envI L cd))) [] s := by
  have hL : L < s.heap.objs.size := hn.lt
  refine seg_func ?_
  refine seg_execs_cons (segExec (wpAny_Assign_Name (wpAny_Constant_int (stL hn fun h₁ hn₁ hs₁ => ?_))))
  refine seg_execs_cons (segExec (wpAny_Assign_Name (constBool (stL hn₁ fun h₂ hn₂ hs₂ => ?_))))
  replace hs₁ : Heap.SameBut L s.heap h₁ := hs₁
  replace hs₂ : Heap.SameBut L h₁ h₂ := hs₂
  have hsz : h₂.objs.size = s.heap.objs.size := hs₂.1.trans hs₁.1
  have T₂ : Top0 w mg mb h₂ := hTop.keeps fun b o q => by
    have hb : b ≠ L := fun e' => by rw [e', hLT] at q; cases q
    exact hs₂.extBut b o hb (hs₁.extBut b o hb (hk b o q))
  refine seg_execs_cons (segFor (Call_name1 (by rfl) (Calls.Name_function_global (by rfl) (by rfl) (Calls.loadGlobal_builtin T₂.g T₂.nEnum T₂.b ((T₂.bi _ (by decide)).trans bEnum) (callWith_type1 (ldL hn₂ ha ?_))))))
  refine call_enumerate_str fun h₃ he hi hz hk₃ => ?_
  replace he : IsEnum h₃ (h₂.objs.size + 1) h₂.objs.size 0 .none := he
  replace hi : h₃.IsStrIter h₂.objs.size (strIterType (S x)) (S x) t 0 := hi
  replace hz : h₃.objs.size = h₂.objs.size + 2 := hz
  replace hk₃ : ∀ b o, h₂.get? b = some o → h₃.get? b = some o := hk₃
  rw [hsz] at he hi hz
  rw [show h₂.objs.size = s.heap.objs.size from hsz]
  refine wpAny_pyIter_enum he fun p => ?_
  refine loopSeg (Nat.ne_of_lt (Nat.lt_succ_of_lt hL)) (Nat.ne_of_lt hL) (Nat.lt_succ_self _) (over_one hA ..) (fun esc i pre s₀' s' m' hown hU hsi hn fe fp => tailSeg hown hU hsi hn fe fp) x 0 false [] s _ _ rfl rfl (Nat.zero_le _)
    ((Since.refl _ s).step fun b o hb q => hk₃ b o (hs₂.extBut b o (fun e' => hb (by simp [e'])) (hs₁.extBut b o (fun e' => hb (by simp [e'])) q)))
    ⟨hn₂.keeps hk₃, by rfl, (fun q => by cases q), ⟨_, he⟩, hi⟩
end
end Mine

namespace Mine

section
variable {prog : Program} {w : World} {A : Around} {E : Value → Shared → Prop} {s : Shared}
theorem pyNext_fn {a : Addr} {g n : Nat} {gs : GenState} {P : Nat → Shared → Shared → Prop} {Y : Protocol} {Q : Option Value → Shared → Prop} (hh : A.handled = none)
    (hl : s.heap.NoLimit) (hroom : A.depth < recursionLimit) (hg : s.heap.IsGen a g) (hgs : s.gens[g]? = some gs)
    (hgo : gs.Goes (model prog w) A.in1 (fun n s₀ r s₁ => r = .ok (.ret .none) ∧ P n s₀ s₁) Y n (.send .none) (s.setGen g .running))
    (hY : ∀ v s₁ gs', gs'.bare = true → Y (n - 1) (s.setGen g .running) v s₁ (fun r' s'' => match n with
        | 0 => False
        | m + 1 => gs'.Goes (model prog w) A.in1 (fun n s₀ r s₁ => r = .ok (.ret .none) ∧ P n s₀ s₁) Y m r' s'') → Q (some v) (s₁.setGen g gs'))
    (hP : ∀ s₁, P n (s.setGen g .running) s₁ → ∀ h', (∀ b o, s₁.heap.get? b = some o → h'.get? b = some o) → Q none { s₁.setGen g .finished with heap := h' }) :
    wpAny (model prog w) A (pyNext (.ref a)) Q E s := by
  unfold pyNext
  refine wpAny_bind (wpAny_attempt (wpAny_callSpecial?_slot (name := Str.ofString "__next__") hg.typeIs slot_gen_next
    (wpAny_call_entry slot_gen_next hg.typeIs entry_gen_next ?_ (args_gen_next _))))
  show wpAny _ A.in1 (Builtin.Generator.genWake (.ref a) (.send .none)) _ _ s
  unfold Builtin.Generator.genWake
  refine wpAny_bind (wpAny_holding (wpAny_genNumber hg (wpAny_bind (wpAny_genState hgs ?_))))
  cases gs with
  | running => exact hgo.elim
  | finished => exact hgo.elim
  | _ =>
    refine wpAny_bind (wpAny_roomToWake hl hroom ?_)
    show wpAny _ A.in1 (.resume g (.send .none) [] _) _ _ s
    refine wpAny_resumeQ hgs hgo (fun x s₁ hx => ?_) (fun v s₁ gs' hb hv => ?_)
    · obtain ⟨rfl, hp⟩ := hx
      show wpAny _ A.in1 (newExc (.type "StopIteration") [] >>= _) _ _ _
      refine wpAny_bind ?_
      simp only [newExc, newTuple]
      refine wpAny_bind (wpAny_newObj_type ?_ (by size_fits))
      refine wpAny_bind (m := firstArgMember _ _) (wpAny_of_eq (a := Value.none) (by first | rfl | (simp only [firstArgMember]; rfl)) ?_)
      refine wpAny_newObj_type ?_ (by size_fits)
      simp only [raiseNew]
      refine wpAny_bind (wpAny_bind (wpAny_handled ?_))
      first | rw [show A.in1.handled = none from hh] | rw [hh]
      refine wpAny_throw ?_
      refine wpAny_bind (wpAny_isInstance (T := "StopIteration") (b := true) ⟨_, Heap.get?_push_size _ rfl, rfl⟩ isSubtype_stop ?_)
      exact wpAny_pure (hP s₁ hp _ fun b o hb => Heap.get?_push_of_some _ (Heap.get?_push_of_some _ hb))
    · exact wpAny_pure ⟨v, rfl, wpAny_pure (hY v s₁ gs' hb hv)⟩
end

structure Moves (own : List Addr) (g : Nat) (s s' : Shared) : Prop where
  heap : ∀ b o, b ∉ own → s.heap.get? b = some o → s'.heap.get? b = some o
  gens : ∀ (i : Nat) x, i ≠ g → s.gens[i]? = some x → s'.gens[i]? = some x
  bare : AllBare s.gens → AllBare s'.gens
  os : s'.os = s.os

structure GenAt (w : World) (hT : Heap) (A : Around) (own : List Addr) (a g : Nat) (rem : List (Nat × List Nat)) (s : Shared) : Prop where
  gen : s.heap.IsGen a g
  apart : a ∉ own
  ex : ∃ gs U pre, s.gens[g]? = some gs ∧ U = pre ++ rem ∧ ∀ s'', (∀ b o, hT.get? b = some o → s''.heap.get? b = some o) → (∀ b ∈ own, ∀ o, s.heap.get? b = some o → s''.heap.get? b = some o) →
    ∃ own', (∀ b ∈ own', b ∈ own ∨ s''.heap.objs.size ≤ b) ∧ (∀ b ∈ own, b ∈ own') ∧ gs.Goes (model prg w) A.in1 (RI own') (YI own' U) rem.length (.send .none) s''

theorem setBare {gens : Array GenState} {g : Nat} {x : GenState} (h : AllBare gens) (hx : x.bare = true) : AllBare (gens.setIfInBounds g x) := by
  intro y hy
  rcases Array.mem_or_eq_of_mem_setIfInBounds hy with h1 | h1
  · exact h y h1
  · rw [h1]; exact hx

section
variable {w : World} {hT : Heap} {A : Around} {own : List Addr} {a g : Nat} {rem : List (Nat × List Nat)} {s : Shared} {mg mb : Str → Option Value} {E : Value → Shared → Prop}

theorem nextUnit {u : Nat × List Nat} {Q : Option Value → Shared → Prop} (G : GenAt w hT A own a g (u :: rem) s) (hh : A.handled = none) (hk : ∀ b o, hT.get? b = some o → s.heap.get? b = some o) (hl : s.heap.NoLimit) (hroom : A.depth < recursionLimit)
    (hQ : ∀ s' T own', IsUnit s'.heap T u → GenAt w hT A own' a g rem s' → (∀ b ∈ own', b ∈ own ∨ s.heap.objs.size ≤ b) → Moves own g s s' → Q (some (.ref T)) s') : wpAny (model prg w) A (pyNext (.ref a)) Q E s := by
  obtain ⟨gs, U, pre, hgs, hU, hgo⟩ := G.ex
  obtain ⟨own', hown, hsub, hgo⟩ := hgo (s.setGen g .running) hk (fun _ _ _ e => e)
  have ha : a < s.heap.objs.size := let ⟨o, _, _, q, _⟩ := G.gen; Heap.lt_size q
  have hao : a ∉ own' := fun q => (hown a q).elim G.apart fun z => Nat.not_lt.mpr z ha
  refine pyNext_fn (P := fun n s₀ s₁ => n = 0 ∧ Since own' s₀ s₁) hh hl hroom G.gen hgs hgo (fun v s₁ gs' hb hv => ?_) (fun s₁ hp h' hk' => ?_)
  · obtain ⟨T, pre', u', post, rfl, hU', hlen, hunit, hTo, hlt, ⟨h₁, tk₁, rfl, hk₁⟩, hK⟩ := hv
    obtain rfl : u' = u := by
      have e := hU.symm.trans hU'
      have := List.append_inj' e (by simp [hlen])
      exact (List.cons.inj this.2).1.symm
    refine hQ _ T own' hunit ⟨?_, hao, gs', U, pre ++ [u'], ?_, by rw [hU]; simp, fun s'' _ hag => ⟨own', fun b hb => .inl hb, fun b hb => hb, hK s'' hag⟩⟩ hown ⟨fun b o hb e => ?_, fun i x hi e => ?_, fun q => ?_, rfl⟩
    · obtain ⟨o, nm, qn, q, r⟩ := G.gen
      exact ⟨o, nm, qn, hk₁ a o hao q, r⟩
    · exact setGen_self (gs := .running) (setGen_self hgs)
    · exact hk₁ b o (fun q => (hown b q).elim hb fun z => Nat.not_lt.mpr z (Heap.lt_size e)) e
    · show (((s.setGen g .running).gens).setIfInBounds g gs')[i]? = some x
      rw [Array.getElem?_setIfInBounds_ne (Ne.symm hi)]
      show (s.gens.setIfInBounds g .running)[i]? = some x
      rw [Array.getElem?_setIfInBounds_ne (Ne.symm hi)]; exact e
    · exact setBare (setBare q rfl) hb
  · exact absurd hp.1 (by simp)

theorem nextEnd {Q : Option Value → Shared → Prop} (G : GenAt w hT A own a g [] s) (hh : A.handled = none) (hk : ∀ b o, hT.get? b = some o → s.heap.get? b = some o) (hl : s.heap.NoLimit) (hroom : A.depth < recursionLimit)
    (hQ : ∀ s', Moves own g s s' → Q none s') : wpAny (model prg w) A (pyNext (.ref a)) Q E s := by
  obtain ⟨gs, U, pre, hgs, hU, hgo⟩ := G.ex
  obtain ⟨own', hown, hsub, hgo⟩ := hgo (s.setGen g .running) hk (fun _ _ _ e => e)
  refine pyNext_fn (P := fun n s₀ s₁ => n = 0 ∧ Since own' s₀ s₁) hh hl hroom G.gen hgs hgo (fun v s₁ gs' hb hv => ?_) (fun s₁ hp h' hk' => ?_)
  · obtain ⟨T, pre', u', post, rfl, hU', hlen, hunit, hTo, hlt, hsi, hK⟩ := hv
    exact False.elim (hK s₁ fun _ _ _ e => e)
  · obtain ⟨_, h₁, tk₁, rfl, hk₁⟩ := hp
    refine hQ _ ⟨fun b o hb e => hk' b o (hk₁ b o (fun q => (hown b q).elim hb fun z => Nat.not_lt.mpr z (Heap.lt_size e)) e), fun i x hi e => ?_, fun q => ?_, rfl⟩
    · show (((s.setGen g .running).gens).setIfInBounds g .finished)[i]? = some x
      rw [Array.getElem?_setIfInBounds_ne (Ne.symm hi)]
      show (s.gens.setIfInBounds g .running)[i]? = some x
      rw [Array.getElem?_setIfInBounds_ne (Ne.symm hi)]; exact e
    · exact setBare (setBare q rfl) rfl

theorem makeGen {x : List Nat} {t : Tok} {Q : Value → Shared → Prop} (T : Top0 w mg mb hT) (hk : ∀ b o, hT.get? b = some o → s.heap.get? b = some o) (hroom : A.depth < recursionLimit)
    (hQ : ∀ s' a g own, (∀ A' : Around, A'.handled = none → GenAt w hT A' own a g (unitsE false 0 x) s') → (∀ b ∈ own, s.heap.objs.size ≤ b ∧ b < s'.heap.objs.size) → s.heap.objs.size ≤ a → Kp s s' → s.gens.size = g → g < s'.gens.size → Q (.ref a) s') :
    wpAny (model prg w) A (call (.ref 21) [.str (S x) t]) Q E s := by
  obtain ⟨o, pm, c, doc, ho, hdt, hcr⟩ := T.fIter
  refine wpAny_call (codeAny_call_generator hroom (hk _ _ ho) hdt (by rfl) (by rfl) rfl (hcr.keeps hk) ?_)
  rw [show bindArgs (docDef "_iter_escaped_chars" tIter.params tIter.body tIter.scope pm (.ref c) doc) ⟨[.str (S x) t], []⟩ = pure [(("addr" : Str), Value.str (S x) t)] from by rfl]
  refine wpAny_pure (wpAny_newFunctionEnv (show ∀ x ∈ tIter.scope.names, x.2 ≠ .cell from by decide) (fun y hy => by rw [List.mem_singleton.mp hy]; rfl) (fun h₁ hns hsb => ⟨(T.lim.keeps hk).fresh _ hsb, ?_⟩) (by rfl))
  have e : (fun y : Str => ([(("addr" : Str), Value.str (S x) t)] : List (Str × Value)).reverse.lookup y) = fun y => if y = ("addr" : Str) then some (Value.str (S x) t) else none := by
    funext y
    by_cases hy : y = ("addr" : Str)
    · subst hy; simp
    · have : (y == ("addr" : Str)) = false := by simpa using hy
      simp [List.lookup, this, hy]
  rw [e] at hns
  have hk₁ : ∀ b o, s.heap.get? b = some o → h₁.get? b = some o := fun b o q => hsb.extBut b o (Nat.ne_of_lt (Heap.lt_size q)) (Heap.get?_push_of_some _ q)
  have hsz : h₁.objs.size = s.heap.objs.size + 1 := by rw [hsb.1, Heap.size_push]
  have hLs : s.heap.objs.size < h₁.objs.size := by omega
  have hLT : hT.get? s.heap.objs.size = none := by
    cases q : hT.get? s.heap.objs.size with
    | none => rfl
    | some o => exact absurd (Heap.lt_size (hk _ _ q)) (Nat.lt_irrefl _)
  refine hQ _ h₁.objs.size s.gens.size [s.heap.objs.size] (fun A' hA' => ⟨⟨_, _, _, Heap.get?_push_size _ rfl, rfl, rfl, rfl⟩, ?_, .fresh (.func tIter.body (envI s.heap.objs.size (.ref c))), unitsE false 0 x, [], ?_, rfl, fun s'' hk'' hag => ?_⟩) ?_ (Nat.le_of_lt hLs) ⟨fun b o q => Heap.get?_push_of_some _ (hk₁ b o q), fun i y q => ?_, fun q => AllBare.push q rfl, rfl⟩ rfl ?_
  · intro q; have := List.mem_singleton.mp q; omega
  · simp; rfl
  · refine ⟨[s.heap.objs.size, s''.heap.objs.size + 1, s''.heap.objs.size], fun b hb => ?_, fun b hb => ?_, rfl, ?_⟩
    · simp only [List.mem_cons, List.not_mem_nil, or_false] at hb ⊢
      rcases hb with rfl | rfl | rfl
      · exact .inl rfl
      · exact .inr (Nat.le_succ _)
      · exact .inr (Nat.le_refl _)
    · rw [List.mem_singleton.mp hb]; simp
    · exact firstSeg hA' T hk'' hLT (hns.at fun o q => hag _ (by simp) o (Heap.get?_push_of_some _ q)) (by rfl)
  · intro b hb; rw [List.mem_singleton.mp hb]; refine ⟨Nat.le_refl _, ?_⟩
    show _ < (h₁.push _).objs.size
    rw [Heap.size_push]; exact Nat.lt_succ_of_lt hLs
  · have hi : i < s.gens.size := (Array.getElem?_eq_some_iff.mp q).1
    show (s.gens.push _)[i]? = some y
    rw [Array.getElem?_push_lt hi]; rw [Array.getElem?_eq_getElem hi] at q; exact q
  · show s.gens.size < (s.gens.push _).size
    rw [Array.size_push]; exact Nat.lt_succ_self _
end
end Mine

namespace Mine

abbrev Shared.withGens (s : Shared) (G : Array GenState) : Shared := { s with gens := G }

theorem At.rebase {s₀ s : Shared} {L m ns} (W : At s₀ L m ns s) : At (Shared.withGens s₀ s.gens) L m ns s := ⟨W.fr, W.nw, fun _ _ e => e, id, W.os⟩
theorem At.back {s₀ s : Shared} {G : Array GenState} {L m ns} (W : At (Shared.withGens s₀ G) L m ns s) (hG : ∀ (i : Nat) (x : GenState), s₀.gens[i]? = some x → G[i]? = some x) (hb : AllBare s₀.gens → AllBare G) : At s₀ L m ns s :=
  ⟨W.fr, W.nw, fun i x e => W.gens i x (hG i x e), fun q => W.bare (hb q), W.os⟩

/-- what of the frame and the ledger a step of a generator leaves -/
theorem At.moved {s₀ s s' : Shared} {L m ns own g} (W : At s₀ L m ns s) (M : Moves own g s s') (hL : L ∉ own) (hn : ∀ p ∈ ns, p.1 ∉ own) (h0 : ∀ b ∈ own, s₀.heap.get? b = none) (hg : s₀.gens.size ≤ g) : At s₀ L m ns s' :=
  ⟨⟨W.fr.ns.at fun o q => M.heap L o hL q, fun b o q => M.heap b o (fun hb => by rw [h0 b hb] at q; cases q) (W.fr.keep b o q), W.fr.above⟩,
   fun p hp => ⟨M.heap _ _ (hn p hp) (W.nw p hp).1, (W.nw p hp).2⟩,
   fun i x q => M.gens i x (fun e => by have := (Array.getElem?_eq_some_iff.mp q).1; omega) (W.gens i x q), fun q => M.bare (W.bare q), M.os.trans W.os⟩

theorem GenAt.carry {w hT A own a g rem} {s s' : Shared} (G : GenAt w hT A own a g rem s) (ha : ∀ o, s.heap.get? a = some o → s'.heap.get? a = some o) (hk : ∀ b ∈ own, ∀ o, s.heap.get? b = some o → s'.heap.get? b = some o)
    (hg : ∀ x, s.gens[g]? = some x → s'.gens[g]? = some x) : GenAt w hT A own a g rem s' :=
  ⟨let ⟨o, nm, qn, q, r⟩ := G.gen; ⟨o, nm, qn, ha o q, r⟩, G.apart, let ⟨gs, U, pre, q, hU, r⟩ := G.ex; ⟨gs, U, pre, hg _ q, hU, fun s'' h1 h2 => r s'' h1 fun b hb o e => h2 b hb o (hk b hb o e)⟩⟩

/-- the objects at the given places, written out -/
noncomputable def heldAt (h : Heap) (bs : List Addr) : List (Addr × Obj) := bs.filterMap fun b => (h.get? b).map fun o => (b, o)
theorem mem_heldAt {h : Heap} {bs : List Addr} {p : Addr × Obj} : p ∈ heldAt h bs ↔ p.1 ∈ bs ∧ h.get? p.1 = some p.2 := by
  unfold heldAt
  rw [List.mem_filterMap]
  constructor
  · rintro ⟨b, hb, q⟩
    obtain ⟨o, ho, rfl⟩ := Option.map_eq_some_iff.mp q
    exact ⟨hb, ho⟩
  · rintro ⟨hb, q⟩
    exact ⟨p.1, hb, by rw [q]; rfl⟩

section
variable {w : World} {hT : Heap} {A : Around} {a g : Nat} {s₀ s : Shared} {name : Str} {sc : Scope} {L fa : Addr} {cd : Value} {m : Str → Option Value} {ns : List (Addr × Obj)}

theorem forUnits {xi xv : Str} {pi pv pt : Pos} {k : Nat} {body : List Stmt} {Q : Flow → Shared → Prop} {own : List Addr} {rem : List (Nat × List Nat)}
    (J : List (Nat × List Nat) → (Str → Option Value) → List (Addr × Obj) → Prop) (JR : Value → Prop)
    (hA : A.handled = none) (hroom : A.depth < recursionLimit) (hlim : hT.NoLimit) (hk0 : ∀ b o, hT.get? b = some o → s₀.heap.get? b = some o)
    (W : At s₀ L m ns s) (G : GenAt w hT A own a g rem s) (hL : L ∉ own) (hLa : L ≠ a) (hn : ∀ p ∈ ns, p.1 ∉ own ∧ p.1 ≠ a) (h0 : ∀ b ∈ own, s₀.heap.get? b = none) (h0a : s₀.heap.get? a = none) (hg : s₀.gens.size ≤ g)
    (hJ : J rem m ns) (hJn : ∀ r m' ns', J r m' ns' → ns'.map (·.1) = ns.map (·.1))
    (turn : ∀ u r m' ns' held s₁ s₀' t t', s₀'.heap = s₀.heap → J (u :: r) m' ns' → At s₀' L (fun y => if y = xv then some (.str (S u.2) t') else if y = xi then some (.int u.1 t) else m' y) (ns' ++ held) s₁ →
      (∀ p ∈ held, p.1 ∉ ns.map (·.1)) →
      wpAny (model prg w) A (execs body (envOf name sc L fa cd)) (fun f s₂ => match f with
        | .next => ∃ m'' ns'', At s₀' L m'' (ns'' ++ held) s₂ ∧ J r m'' ns''
        | .ret v => (∃ m'' ns'', At s₀' L m'' ns'' s₂) ∧ JR v
        | _ => False) NoE s₁)
    (done : ∀ m' ns' s', J [] m' ns' → At s₀ L m' ns' s' → Q .next s')
    (ret : ∀ v m' ns' s', JR v → At s₀ L m' ns' s' → Q (.ret v) s')
    (hxi : (envOf name sc L fa cd).kindOf xi = some .local := by rfl) (hxv : (envOf name sc L fa cd).kindOf xv = some .local := by rfl) (hks : sc.kind = .function := by rfl) :
    codeAny (model prg w) A (.forLoop (.Tuple [.Name xi pi, .Name xv pv] k pt) (.ref a) body [] (envOf name sc L fa cd)) (fun r s' => match r with | .ok f => Q f s' | .error _ => False) s := by
  refine codeAny_forLoop_any (fun n s' => ∃ r own' m' ns', n = r.length ∧ At s₀ L m' ns' s' ∧ GenAt w hT A own' a g r s' ∧ L ∉ own' ∧ (∀ b ∈ own', b ∉ ns.map (·.1)) ∧ (∀ b ∈ own', s₀.heap.get? b = none) ∧ J r m' ns') ?_ rem.length
    ⟨rem, own, m, ns, rfl, W, G, hL, fun b hb q => by obtain ⟨p, hp, rfl⟩ := List.mem_map.mp q; exact (hn p hp).1 hb, h0, hJ⟩
  rintro n s' ⟨r, own', m', ns', rfl, W', G', hL', hn', h0', hJ'⟩
  have hkT : ∀ b o, hT.get? b = some o → s'.heap.get? b = some o := fun b o e => W'.fr.keep b o (hk0 b o e)
  have hns : ∀ p ∈ ns', p.1 ∈ ns.map (·.1) := fun p hp => by rw [← hJn _ _ _ hJ']; exact List.mem_map_of_mem hp
  cases r with
  | nil =>
    refine nextEnd G' hA hkT (hlim.keeps hkT) hroom fun s₁ M => wpAny_execs_nil ?_
    exact done _ _ _ hJ' (W'.moved M hL' (fun p hp q => hn' _ q (hns p hp)) h0' hg)
  | cons u r =>
    refine nextUnit G' hA hkT (hlim.keeps hkT) hroom fun s₁ T own₂ hu G₂ hown₂ M => ?_
    have W₁ := W'.moved M hL' (fun p hp q => hn' _ q (hns p hp)) h0' hg
    obtain ⟨oL, _, _, hoL, _⟩ := W'.fr.ns
    have hLs : L < s'.heap.objs.size := Heap.lt_size hoL
    have hL₂ : L ∉ own₂ := fun q => (hown₂ L q).elim hL' fun z => Nat.not_lt.mpr z hLs
    have h0₂ : ∀ b ∈ own₂, s₀.heap.get? b = none := fun b hb => (hown₂ b hb).elim (h0' b) fun z => by
      cases q : s₀.heap.get? b with
      | none => rfl
      | some o => exact absurd (Heap.lt_size (W'.fr.keep b o q)) (Nat.not_lt.mpr z)
    have hn₂ : ∀ b ∈ own₂, b ∉ ns.map (·.1) := fun b hb => (hown₂ b hb).elim (hn' b) fun z q => by
      rw [← hJn _ _ _ hJ'] at q
      obtain ⟨p, hp, rfl⟩ := List.mem_map.mp q
      exact absurd (Heap.lt_size (W'.nw p hp).1) (Nat.not_lt.mpr z)
    have hgo : wpAny (model prg w) A (letOwnedTupleGo (.Tuple [.Name xi pi, .Name xv pv] k pt) (.ref a) (.ref T)) (fun _ s₂ => s₂ = s₁) NoE s₁ := by
      obtain ⟨o, nm, qn, ho, hc, hd, _⟩ := G₂.gen
      unfold letOwnedTupleGo
      refine wpAny_bind (wpAny_load ho ?_)
      rw [hc, hd]
      exact wpAny_pure rfl
    refine wpAny_mono hgo (fun _ s₁' e => ?_) fun _ _ q => q.elim
    subst e
    obtain ⟨t, t', hu⟩ := hu
    refine wpAny_mono (E := NoE) (assignPair hA hu W₁.fr.ns hxi hxv (by show (sc.kind == .class || (sc.kind == .module && L != mainGlobals)) = false; rw [hks]; rfl) (Q := fun _ s₂ => wpAny (model prg w) A (execs body (envOf name sc L fa cd)) _ NoE s₂) fun h₂ tk hn₂' hk₂ => ?_)
      (fun _ s₂ q => wpAny_mono q (fun _ _ z => z) fun _ _ z => z.elim) fun _ _ z => z.elim
    replace hk₂ : ∀ b o, b ≠ L → s₁'.heap.get? b = some o → h₂.get? b = some o := hk₂
    replace hn₂' : h₂.Ns L (fun y => if y = xv then some (.str (S u.2) t') else if y = xi then some (.int u.1 t) else m' y) := hn₂'
    have h0L : ∀ b o, s₀.heap.get? b = some o → b ≠ L := fun b o q e => by
      subst e
      exact absurd (Nat.lt_of_lt_of_le (Heap.lt_size q) W'.fr.above) (Nat.lt_irrefl _)
    have G₃ : GenAt w hT A own₂ a g r { s₁' with heap := h₂, toks := tk } := G₂.carry (fun o q => hk₂ a o (Ne.symm hLa) q) (fun b hb o q => hk₂ b o (fun e => hL₂ (e ▸ hb)) q) fun _ q => q
    have W₃ : At (Shared.withGens s₀ s₁'.gens) L (fun y => if y = xv then some (.str (S u.2) t') else if y = xi then some (.int u.1 t) else m' y) (ns' ++ heldAt h₂ (a :: own₂)) { s₁' with heap := h₂, toks := tk } := by
      refine ⟨⟨hn₂', fun b o q => hk₂ b o (h0L b o q) (W₁.fr.keep b o q), W'.fr.above⟩, fun p hp => ?_, fun _ _ e => e, id, W₁.os⟩
      rcases List.mem_append.mp hp with hp | hp
      · exact ⟨hk₂ _ _ (W₁.nw p hp).2.1 (W₁.nw p hp).1, (W₁.nw p hp).2⟩
      · obtain ⟨hb, q⟩ := mem_heldAt.mp hp
        rcases List.mem_cons.mp hb with e | hb
        · exact ⟨q, by rw [e]; exact Ne.symm hLa, by rw [e]; exact h0a⟩
        · exact ⟨q, fun e => hL₂ (e ▸ hb), h0₂ _ hb⟩
    refine wpAny_mono (turn u r m' ns' (heldAt h₂ (a :: own₂)) _ (Shared.withGens s₀ s₁'.gens) t t' rfl hJ' W₃ fun p hp => ?_) (fun f s₄ q => ?_) fun _ _ z => z.elim
    · obtain ⟨hb, _⟩ := mem_heldAt.mp hp
      rcases List.mem_cons.mp hb with e | hb
      · rw [e]; intro q
        obtain ⟨p', hp', e'⟩ := List.mem_map.mp q
        exact (hn p' hp').2 e'
      · exact hn₂ _ hb
    cases f with
    | next =>
      obtain ⟨m'', ns'', W₄, hJ''⟩ := q
      have hh : ∀ b ∈ a :: own₂, ∀ o, h₂.get? b = some o → s₄.heap.get? b = some o := fun b hb o q => (W₄.nw (b, o) (List.mem_append_right _ (mem_heldAt.mpr ⟨hb, q⟩))).1
      have W₅ : At (Shared.withGens s₀ s₁'.gens) L m'' ns'' s₄ := ⟨W₄.fr, fun p hp => W₄.nw p (List.mem_append_left _ hp), W₄.gens, W₄.bare, W₄.os⟩
      exact ⟨r.length, Nat.lt_succ_self _, r, own₂, m'', ns'', rfl, W₅.back W₁.gens W₁.bare, G₃.carry (fun o q => hh a (List.mem_cons_self ..) o q) (fun b hb o q => hh b (List.mem_cons_of_mem _ hb) o q) (fun x q => W₄.gens g x q), hL₂, hn₂, h0₂, hJ''⟩
    | ret v =>
      obtain ⟨⟨m'', ns'', W₄⟩, hv⟩ := q
      exact ret v m'' ns'' s₄ hv (W₄.back W₁.gens W₁.bare)
    | brk => exact q.elim
    | cont => exact q.elim
end
end Mine

namespace Mine

def ListObj (o : Obj) (items : Array Value) : Prop := o.cls = .type "list" ∧ o.dict = none ∧ ∃ n, o.data = .seq items n
theorem ListObj.isList {h : Heap} {r : Addr} {o : Obj} {items : Array Value} (x : ListObj o items) (e : h.get? r = some o) : h.IsList r items := ⟨o, e, x.1, x.2.2⟩

theorem join_nil_S : ∀ ls : List (List Nat), Txt.join ("" : Str) (ls.map S) = S ls.flatten := by
  intro ls
  show Builtin.Str.glued ("" : Str) (ls.map S) = _
  rw [StrLaws.glued_eq_join]
  have e0 : ("" : Str) = S [] := by decide +kernel
  rw [e0]
  induction ls with
  | nil => rfl
  | cons a r ih =>
    cases r with
    | nil => simp [Str.join]
    | cons b r =>
      show S a ++ S [] ++ Str.join (S []) (List.map S (b :: r)) = _
      rw [ih, S_append, S_append]
      simp

theorem joinOk_small {texts : List Str} {B : Nat} (hB : ∀ y ∈ texts, y.length ≤ B) (h : texts.length * B ≤ 16777216) : JoinOk ("" : Str) texts = true := by
  unfold JoinOk
  rw [StrLaws.joinFits hB (by rw [show (("" : Str)).length = 0 from by decide +kernel]; omega)]; rfl

section
variable {w : World} {A : Around} {E : Value → Shared → Prop} {s s₀ : Shared} {L : Addr} {m : Str → Option Value} {ns : List (Addr × Obj)}

theorem xAppend {r : Addr} {o : Obj} {items : Array Value} {x : Value} {Q : Value → Shared → Prop} (W : At s₀ L m ((r, o) :: ns) s) (hr : r ∉ ns.map (·.1)) (ho : ListObj o items)
    (h : ∀ s' o', At s₀ L m ((r, o') :: ns) s' → ListObj o' (items.push x) → Q .none s') (hsz : items.size ≤ sizeLine) :
    wpAny (model prg w) A (call (.builtin "list.append") [.ref r, x]) Q E s := by
  obtain ⟨hc, hdn, n, hd⟩ := ho
  obtain ⟨n', hd'⟩ := Obj.data_mapSeq hd (·.push x)
  have hg := (W.nw (r, o) (by simp)).1
  have hl : s.heap.IsList r items := ⟨o, hg, hc, n, hd⟩
  refine wpAny_call_entry slot_list_append hl.typeIs entry_list_append ?_ (args_list_append _ _)
  show wpAny _ _ (updateSeq r (·.push x) >>= fun _ => ret .none) _ _ s
  refine wpAny_bind (wpAny_updateSeq hg hd (wpAny_pure ⟨.none, rfl, ?_⟩))
  have hsb : Heap.SameBut r s.heap (s.heap.update r (Obj.mapSeq (·.push x))) := Heap.SameBut.update ..
  have hself : (s.heap.update r (Obj.mapSeq (·.push x))).get? r = some (Obj.mapSeq (·.push x) o) := Heap.get?_update_self _ hg (Obj.isFreed_of_seq hd')
  have hrL : r ≠ L := (W.nw (r, o) (by simp)).2.1
  have hr0 : s₀.heap.get? r = none := (W.nw (r, o) (by simp)).2.2
  refine h _ (Obj.mapSeq (·.push x) o) ⟨⟨W.fr.ns.sameBut hsb (Ne.symm hrL), fun b ob q => (hsb.2 b fun e => by rw [e, hr0] at q; cases q).trans (W.fr.keep b ob q), W.fr.above⟩, fun p hp => ?_, W.gens, W.bare, W.os⟩ ⟨(Obj.cls_mapSeq ..).trans hc, ?_, n', hd'⟩
  · rcases List.mem_cons.mp hp with rfl | hp
    · exact ⟨hself, hrL, hr0⟩
    · have := W.nw p (List.mem_cons_of_mem _ hp)
      exact ⟨(hsb.2 p.1 fun e => hr (by rw [← e]; exact List.mem_map_of_mem hp)).trans this.1, this.2⟩
  · obtain ⟨c, d, dt, sl⟩ := o
    cases hd
    exact hdn

variable {env : Env} {pos : Pos}
theorem evalSlice2 {lo hi : Expr} {p : Pos} {Q : Value → Shared → Prop} (h : wpAny (model prg w) A (eval lo env) (fun i s₂ => wpAny (model prg w) A (eval hi env) (fun j s₃ => Q (.ref s₃.heap.objs.size) { s₃ with heap := s₃.heap.push { cls := .type "slice", data := .fields #[i, j, .none] } }) E s₂) E s) :
    wpAny (model prg w) A (eval (.Slice (some lo) (some hi) none p) env) Q E s := by
  rw [arm_eval_Slice]
  refine wpAny_bind (wpAny_mono h (fun i s₂ h₂ => wpAny_bind (wpAny_holding (wpAny_mono h₂ (fun j s₃ h₃ => ?_) fun _ _ q => q))) fun _ _ q => q)
  refine wpAny_bind (wpAny_holding (wpAny_pure ?_))
  exact wpAny_newObj_type h₃ (by size_fits)
theorem evalSlice1 {lo : Expr} {p : Pos} {Q : Value → Shared → Prop} (h : wpAny (model prg w) A (eval lo env) (fun i s₃ => Q (.ref s₃.heap.objs.size) { s₃ with heap := s₃.heap.push { cls := .type "slice", data := .fields #[i, .none, .none] } }) E s) :
    wpAny (model prg w) A (eval (.Slice (some lo) none none p) env) Q E s := by
  rw [arm_eval_Slice]
  refine wpAny_bind (wpAny_mono h (fun i s₂ h₂ => wpAny_bind (wpAny_holding (wpAny_pure ?_))) fun _ _ q => q)
  refine wpAny_bind (wpAny_holding (wpAny_pure ?_))
  exact wpAny_newObj_type h₂ (by size_fits)

theorem keptAt {s₀ : Shared} {L : Addr} {m : Str → Option Value} {ns : List (Addr × Obj)} : KeptH (fun h => Fr s₀.heap L h m ∧ News s₀.heap L h ns) := keptFrN

theorem xSliceSS {value lo hi : Expr} {p : Pos} {Q : Value → Shared → Prop}
    (h : wpAny (model prg w) A (eval value env) (fun o s₁ => wpAny (model prg w) A (eval lo env) (fun i s₂ => wpAny (model prg w) A (eval hi env) (fun j s₃ => ∃ x t a ua b ub, o = .str x t ∧ i = .int a ua ∧ j = .int b ub ∧ x.length ≤ sizeLine ∧ At s₀ L m ns s₃ ∧
      ∀ s' t', At s₀ L m ns s' → Q (.str (Txt.slice x (some a) (some b)) t') s') E s₂) E s₁) E s)
    (ht : ∀ o r, letTemporaryGo value o r = pure () := by intro _ _; rfl) :
    wpAny (model prg w) A (eval (.Subscript value (.Slice (some lo) (some hi) none p) pos) env) Q E s := by
  refine Subscript_Slice (wpAny_mono h (fun o s₁ h₁ => evalSlice2 (wpAny_mono h₁ (fun i s₂ h₂ => wpAny_mono h₂ (fun j s₃ h₃ => ?_) fun _ _ q => q) fun _ _ q => q)) fun _ _ q => q) ht
  obtain ⟨x, t, a, ua, b, ub, rfl, rfl, rfl, hx, W, hq⟩ := h₃
  exact SBH.sliceItem_ss keptAt ⟨W.fr, W.nw⟩ (fun h' t' k a => hq _ t' (W.to a.1 a.2)) hx
theorem xSliceSN {value lo : Expr} {p : Pos} {Q : Value → Shared → Prop}
    (h : wpAny (model prg w) A (eval value env) (fun o s₁ => wpAny (model prg w) A (eval lo env) (fun i s₃ => ∃ x t a ua, o = .str x t ∧ i = .int a ua ∧ x.length ≤ sizeLine ∧ At s₀ L m ns s₃ ∧
      ∀ s' t', At s₀ L m ns s' → Q (.str (Txt.slice x (some a) none) t') s') E s₁) E s)
    (ht : ∀ o r, letTemporaryGo value o r = pure () := by intro _ _; rfl) :
    wpAny (model prg w) A (eval (.Subscript value (.Slice (some lo) none none p) pos) env) Q E s := by
  refine Subscript_Slice (wpAny_mono h (fun o s₁ h₁ => evalSlice1 (wpAny_mono h₁ (fun i s₂ h₂ => ?_) fun _ _ q => q)) fun _ _ q => q) ht
  obtain ⟨x, t, a, ua, rfl, rfl, hx, W, hq⟩ := h₂
  exact SBH.sliceItem_sn keptAt ⟨W.fr, W.nw⟩ (fun h' t' k a => hq _ t' (W.to a.1 a.2)) hx

/-- a statement that calls a list's append, its argument one expression -/
theorem xAppendStmt {name : Str} {sc : Scope} {fa : Addr} {cd : Value} {rn : Str} {e : Expr} {apos cpos np spos : Pos} {r : Addr} {o : Obj} {items : Array Value} {Q : Flow → Shared → Prop}
    (W : At s₀ L m ((r, o) :: ns) s) (hm : m rn = some (.ref r)) (ho : ListObj o items)
    (h : wpAny (model prg w) A (eval e (envOf name sc L fa cd)) (fun x s₁ => At s₀ L m ((r, o) :: ns) s₁ ∧ r ∉ ns.map (·.1) ∧ items.size ≤ sizeLine ∧ ∀ s' o', At s₀ L m ((r, o') :: ns) s' → ListObj o' (items.push x) → Q .next s') E s)
    (hs : starEach [e] (envOf name sc L fa cd) = [(false, eval e (envOf name sc L fa cd))] := by rfl) (hline : (apos.endLine == cpos.line) = true := by rfl)
    (hbase : attributeBase (.Name rn np) "append" (envOf name sc L fa cd) (eval (.Name rn np) (envOf name sc L fa cd)) = eval (.Name rn np) (envOf name sc L fa cd) := by rfl)
    (hsw : swapsWith (.Call (.Attribute (.Name rn np) "append" apos) [e] [] cpos) none spos.line (envOf name sc L fa cd) = pure false := by rfl)
    (hk : sc.kind = .function := by rfl) (hl : (envOf name sc L fa cd).kindOf rn = some .local := by rfl) (hd : (rn == ("__debug__" : Str)) = false := by decide) :
    wpAny (model prg w) A (exec (.Expr (.Call (.Attribute (.Name rn np) "append" apos) [e] [] cpos) spos) (envOf name sc L fa cd)) Q E s := by
  refine wpAny_Expr (Call_method1 hbase hs hline (xLd W hm ?_ hk hl hd)) (by show interactive _ = false; unfold interactive; rw [show (envOf name sc L fa cd).scope = sc from rfl, hk]; rfl) hsw
  have hg := (W.nw (r, o) (by simp)).1
  refine ⟨"list", "list.append", F.plainAttrs_list, F.slot_list_append, F.type_list_append, ⟨o, hg, ho.1⟩, fun b e => ⟨o, by injection e with e; rw [← e]; exact hg, ho.2.1⟩, ?_⟩
  refine Calls.callWith_builtin rfl (Calls.evalArgs_plain (Calls.spliced_cons (wpAny_mono h (fun x s₁ h₁ => Calls.spliced_nil ?_) fun _ _ q => q)))
  obtain ⟨W₁, hr, hsz, hq⟩ := h₁
  exact xAppend W₁ hr ho (fun s' o' W' ho' => hq s' o' W' ho') hsz
end
end Mine

namespace Mine

noncomputable def sl2 (x : List Nat) (a b : Int) : List Nat := (Txt.slice (S x) (some a) (some b)).cps.toList
noncomputable def sl1 (x : List Nat) (a : Int) : List Nat := (Txt.slice (S x) (some a) none).cps.toList
theorem S_sl2 (x : List Nat) (a b : Int) : Txt.slice (S x) (some a) (some b) = S (sl2 x a b) := S_of _
theorem S_sl1 (x : List Nat) (a : Int) : Txt.slice (S x) (some a) none = S (sl1 x a) := S_of _
theorem sl2_le (x : List Nat) (a b : Int) : (sl2 x a b).length ≤ x.length := by
  have := Txt.slice_le (S x) (some a) (some b)
  rw [S_sl2, S_length, S_length] at this; exact this
theorem sl1_le (x : List Nat) (a : Int) : (sl1 x a).length ≤ x.length := by
  have := Txt.slice_le (S x) (some a) none
  rw [S_sl1, S_length, S_length] at this; exact this

noncomputable def stepQ (x : List Nat) (a : Int × Option Int × List (List Nat)) (u : Nat × List Nat) : Int × Option Int × List (List Nat) :=
  if u.2 = [34] then match a.2.1 with
    | none => (a.1, some u.1, a.2.2)
    | some q => ((u.1 : Int) + 1, none, if a.1 = q then a.2.2 else a.2.2 ++ [sl2 x a.1 q])
  else a
noncomputable def stripR (x : List Nat) : Int × Option Int × List (List Nat) := (unitsE false 0 x).foldl (stepQ x) (0, none, [])
noncomputable def stripP (x : List Nat) : List Nat := if 34 ∈ x then (if (stripR x).1 < x.length then (stripR x).2.2 ++ [sl1 x (stripR x).1] else (stripR x).2.2).flatten else x

theorem units_len : ∀ (l : List Nat) (i : Nat), (unitsE false i l).length ≤ l.length ∧ (unitsE true i l).length ≤ l.length + 1
  | [], i => by simp [unitsE]
  | c :: r, i => by
    have h1 := units_len r (i + 1)
    constructor
    · by_cases hc : c = 92
      · have : unitsE false i (c :: r) = unitsE true (i + 1) r := by simp [unitsE, hc]
        rw [this]; simp only [List.length_cons]; omega
      · have : unitsE false i (c :: r) = (i, [c]) :: unitsE false (i + 1) r := by simp [unitsE, hc]
        rw [this]; simp only [List.length_cons]; omega
    · have : unitsE true i (c :: r) = (i, [92, c]) :: unitsE false (i + 1) r := by simp [unitsE]
      rw [this]; simp only [List.length_cons]; omega

theorem beqS (u : List Nat) (y : Str) (v : List Nat) (hy : y = S v) : (S u == y) = decide (u = v) := by
  rw [hy, Bool.eq_iff_iff, beq_iff_eq, decide_eq_true_eq, S_inj]
theorem q34 : ("\"" : Str) = S [34] := by decide +kernel
theorem q40 : ("(" : Str) = S [40] := by decide +kernel
theorem q41 : (")" : Str) = S [41] := by decide +kernel

def forCheck' : { p : Expr × List Stmt // p = forOf tCheck.body 2 } := by refine ⟨?v, ?p⟩; case p => conv => rhs; whnf

noncomputable def chk : Int → List (Nat × List Nat) → Bool
  | n, [] => n == 0
  | n, u :: r => if u.2 = [40] then chk (n + 1) r else if u.2 = [41] then (if n - 1 < 0 then false else chk (n - 1) r) else chk n r
noncomputable def checkP (x : List Nat) : Bool := chk 0 (unitsE false 0 (stripP x))

end Mine

namespace Mine

theorem Kp.size_le {s s' : Shared} (K : Kp s s') : s.gens.size ≤ s'.gens.size := by
  rcases Nat.lt_or_ge s'.gens.size s.gens.size with h | h
  · have h1 := K.gens _ _ (Array.getElem?_eq_getElem h)
    rw [Array.getElem?_eq_none (Nat.le_refl _)] at h1
    cases h1
  · exact h

def optV : Option Int → Tok → Value
  | none, _ => .none
  | some q, u => .int q u

structure StripSt (x : List Nat) (t : Tok) (r : Addr) (st : Int) (op : Option Int) (res : List (List Nat)) (m : Str → Option Value) (o : Obj) : Prop where
  addr : m "addr" = some (.str (S x) t)
  result : m "result" = some (.ref r)
  start : ∃ u, m "start" = some (.int st u)
  opn : ∃ u, m "open_pos" = some (optV op u)
  obj : ∃ l : List (Str × Tok), ListObj o (strValues l).toArray ∧ l.map (·.1) = res.map S
  le : ∀ y ∈ res, y.length ≤ x.length

theorem S_toList (x : List Nat) : (S x).cps.toList = x := by simp [S]
theorem notin34 (x : List Nat) : (!(!(Builtin.Str.occurrences (S x) ("\"" : Str) 0 (S x).length 1).isEmpty)) = !decide (34 ∈ x) := by
  rw [q34, show (S [34]) = ⟨#[34]⟩ from rfl, StrLaws.found_one, S_toList]
theorem strValues_size (l : List (Str × Tok)) : (strValues l).toArray.size = l.length := by simp [strValues]
theorem strValues_push (l : List (Str × Tok)) (y : Str) (t : Tok) : (strValues l).toArray.push (.str y t) = (strValues (l ++ [(y, t)])).toArray := by
  simp [strValues]

def ifsOf (l : List Stmt) : List Stmt × List Stmt := match l with
  | .If _ b o _ :: _ => (b, o)
  | _ => ([], [])
def elseQ' : { l : List Stmt // l = (ifsOf (ifsOf (forOf tStrip.body 4).2).1).2 } := by refine ⟨?v, ?p⟩; case p => conv => rhs; whnf
abbrev elseQ := elseQ'.1

section
variable {w : World} {A : Around} {s : Shared} {mg mb : Str → Option Value} {Q : Value → Shared → Prop}

set_option maxHeartbeats 4000000 in
theorem do_strip (T : Top0 w mg mb s.heap) (R : Room A 6) (x : List Nat) (t : Tok) (hx : x.length ≤ 1000) (h : ∀ s' t', Kp s s' → Q (.str (S (stripP x)) t') s') :
    wpAny (model prg w) A (call (.ref 28) [.str (S x) t]) Q NoE s := by
  have hxl : (S x).length ≤ sizeLine := by rw [S_length, sizeLine_eq]; omega
  refine xEnter T.fStrip T.lim R.lt (x := "addr") (fun _ _ _ => by rfl) (fun cd s₁ W => ?_)
  refine wpAny_execs_cons (wpAny_If (wpAny_isTrue_Compare1 (Calls.Constant_str (xLd (W.tok _) (by rfl) (notIn_str (wpAny_truthy_bool ?_))))))
  rw [notin34]
  by_cases hq : 34 ∈ x
  · have hd : decide (34 ∈ x) = true := decide_eq_true hq
    rw [hd]
    refine wpAny_execs_nil ?_
    refine wpAny_execs_cons (wpAny_Assign_Name (wpAny_Constant_int (xSt ((W.tok _).tok _) fun s₂ W₂ => ?_)))
    refine wpAny_execs_cons (wpAny_Assign_Name (constNone (xSt W₂ fun s₃ W₃ => ?_)))
    refine wpAny_execs_cons (wpAny_Assign_Name (List_ (Calls.spliced_nil (newList_N W₃.fr W₃.nw fun h₄ F₄ N₄ => ?_))))
    refine xSt (W₃.to (tk := s₃.toks) F₄ N₄) fun s₅ W₅ => ?_
    have hr : s₃.heap.objs.size ∉ ([] : List (Addr × Obj)).map (·.1) := by simp
    generalize s₃.heap.objs.size = r at W₅ hr
    refine wpAny_execs_cons (wpAny_For ?_)
    refine xCallFn W₅ T.g T.gIter T.fIter (xLd W₅ (by rfl) ⟨W₅.kp, ?_⟩)
    have R' := R.deeper (envOf "_strip_quoted_realnames" tStrip.scope s.heap.objs.size 28 (.ref cd))
    refine makeGen T W₅.kp.heap R'.lt fun s₆ a g own G hown ha K hg hg' => ?_
    refine wpAny_pyIter_gen (G _ R'.hh).gen ?_
    have hL₅ : s.heap.objs.size < s₅.heap.objs.size := W₅.fr.ns.lt
    have hr₅ : r < s₅.heap.objs.size := Heap.lt_size (W₅.nw (r, { cls := .type "list", data := .seq #[] }) (List.mem_singleton.mpr rfl)).1
    have hno : ∀ b, s₅.heap.objs.size ≤ b → s.heap.get? b = none := fun b hb => by
      cases q : s.heap.get? b with
      | none => rfl
      | some o => exact absurd (Heap.lt_size (W₅.kp.heap b o q)) (Nat.not_lt.mpr hb)
    have hul := (units_len x 0).1
    refine codeAny_mono (forUnits (J := fun rem m' ns' => ∃ st op res o, StripSt x t r st op res m' o ∧ ns' = [(r, o)] ∧ rem.foldl (stepQ x) (st, op, res) = stripR x ∧ res.length + rem.length ≤ x.length) (JR := fun _ => False)
      (Q := fun f s' => wpAny (model prg w) (A.deeper (envOf "_strip_quoted_realnames" tStrip.scope s.heap.objs.size 28 (.ref cd))) (execs (tStrip.body.drop 5) (envOf "_strip_quoted_realnames" tStrip.scope s.heap.objs.size 28 (.ref cd)))
        (fun fl s' => Q (match fl with | .ret v => v | _ => .none) s') NoE s' ∧ f = .next)
      R'.hh R'.lt T.lim (fun _ _ e => e) (W₅.on K) (G _ R'.hh) (fun q => absurd (hown _ q).1 (Nat.not_le.mpr hL₅)) (fun q => absurd ha (q ▸ Nat.not_le.mpr hL₅)) ?_ (fun b hb => hno b (hown b hb).1) (hno a ha) (hg ▸ W₅.kp.size_le) ?_ ?_ ?_ ?_ ?_) ?_
    · intro p hp
      rw [List.mem_singleton.mp hp]
      exact ⟨fun q => absurd (hown _ q).1 (Nat.not_le.mpr hr₅), fun q => absurd ha (q ▸ Nat.not_le.mpr hr₅)⟩
    · exact ⟨0, none, [], _, ⟨by rfl, by rfl, ⟨_, by rfl⟩, ⟨0, by rfl⟩, ⟨[], ⟨rfl, rfl, 0, rfl⟩, rfl⟩, fun y hy => nomatch hy⟩, rfl, rfl, by simpa using hul⟩
    · rintro r' m' ns' ⟨st, op, res, o, _, rfl, _⟩; rfl
    · intro u rem m' ns' held s₁' s₀' tk tk' hs₀ hJ W' hheld
      obtain ⟨st, op, res, o, X, rfl, hfold, hlen⟩ := hJ
      obtain ⟨us, hst⟩ := X.start
      obtain ⟨uo, hop⟩ := X.opn
      obtain ⟨l, hlo, hl⟩ := X.obj
      have hrh : r ∉ held.map (·.1) := fun q => by
        obtain ⟨p, hp, e⟩ := List.mem_map.mp q
        exact hheld p hp (by rw [e]; simp)
      refine wpAny_execs_cons (wpAny_If (wpAny_isTrue_Compare1 (xLd W' (by rfl) (Calls.Constant_str (eq_str (wpAny_truthy_bool ?_))))))
      rw [beqS _ _ _ q34]
      have W₁' := W'.tok (s₁'.toks + 1)
      by_cases hu : u.2 = [34]
      · rw [decide_eq_true hu]
        cases op with
        | none =>
          refine wpAny_execs_cons (wpAny_If (wpAny_isTrue_Compare1 (xLd W₁' (v := .none) hop (constNone (is_none (wpAny_truthy_bool ?_))))))
          refine wpAny_execs_cons (wpAny_Assign_Name (xLd W₁' (by rfl) (xSt W₁' fun s₂' W₂' => ?_)))
          refine wpAny_execs_nil (wpAny_execs_nil (wpAny_execs_nil ⟨_, _, W₂', st, some u.1, res, o, ⟨X.addr, X.result, ⟨us, hst⟩, ⟨tk, by rfl⟩, ⟨l, hlo, hl⟩, X.le⟩, rfl, ?_, by simp only [List.length_cons] at hlen; omega⟩))
          rw [← hfold]
          simp [stepQ, hu]
        | some q =>
          refine wpAny_execs_cons (wpAny_If (wpAny_isTrue_Compare1 (xLd W₁' (v := .int q uo) hop (constNone (is_none (wpAny_truthy_bool ?_))))))
          have rest : ∀ (P : Flow → Shared → Prop) (res' : List (List Nat)) (o' : Obj) (s₂' : Shared), At s₀' s.heap.objs.size (fun y => if y = ("ch" : Str) then some (.str (S u.2) tk') else if y = ("pos" : Str) then some (.int u.1 tk) else m' y) ((r, o') :: held) s₂' →
              (∃ l : List (Str × Tok), ListObj o' (strValues l).toArray ∧ l.map (·.1) = res'.map S) → (∀ y ∈ res', y.length ≤ x.length) → res' = (if st = q then res else res ++ [sl2 x st q]) →
              (∀ s₂, (∃ m'' ns'', At s₀' s.heap.objs.size m'' (ns'' ++ held) s₂ ∧ ∃ st op res o, StripSt x t r st op res m'' o ∧ ns'' = [(r, o)] ∧ rem.foldl (stepQ x) (st, op, res) = stripR x ∧ res.length + rem.length ≤ x.length) → P .next s₂) →
              wpAny (model prg w) (A.deeper (envOf "_strip_quoted_realnames" tStrip.scope s.heap.objs.size 28 (.ref cd))) (execs (elseQ.drop 1) (envOf "_strip_quoted_realnames" tStrip.scope s.heap.objs.size 28 (.ref cd))) P NoE s₂' := by
            intro P res' o' s₂' W₂' hl' hle' hres hP
            refine wpAny_execs_cons (wpAny_Assign_Name (wpAny_BinOp (xLd W₂' (by rfl) (wpAny_Constant_int (add_int (xSt ((W₂'.tok _).tok _) fun s₃' W₃' => ?_))))))
            refine wpAny_execs_cons (wpAny_Assign_Name (constNone (xSt W₃' fun s₄' W₄' => wpAny_execs_nil (hP _ ?_))))
            refine ⟨_, [(r, o')], W₄', (u.1 : Int) + 1, none, res', o', ⟨X.addr, X.result, ⟨_, by rfl⟩, ⟨0, by rfl⟩, hl', hle'⟩, rfl, ?_, ?_⟩
            · rw [← hfold, hres]
              simp [stepQ, hu]
            · rw [hres]
              simp only [List.length_cons] at hlen
              split
              · omega
              · rw [List.length_append, List.length_singleton]; omega
          refine wpAny_execs_cons (wpAny_If (wpAny_isTrue_Compare1 (xLd W₁' hst (xLd W₁' hop (ne_int (wpAny_truthy_bool ?_))))))
          by_cases hsq : st = q
          · rw [show (st != q) = false from by simp [hsq]]
            refine wpAny_execs_nil (rest _ res o _ W₁' ⟨l, hlo, hl⟩ X.le (by rw [if_pos hsq]) fun s₂ hh => wpAny_execs_nil (wpAny_execs_nil hh))
          · rw [show (st != q) = true from by simp [hsq]]
            refine wpAny_execs_cons (xAppendStmt W₁' X.result hlo (xSliceSS (xLd W₁' (by exact X.addr) (xLd W₁' hst (xLd W₁' hop ⟨S x, t, st, us, q, uo, rfl, rfl, rfl, hxl, W₁', fun s₂' t₂ W₂' => ⟨W₂', hrh, ?_, fun s₃' o' W₃' ho' => wpAny_execs_nil ?_⟩⟩)))))
            · have e := congrArg List.length hl
              rw [List.length_map, List.length_map] at e
              rw [strValues_size, e, sizeLine_eq]; simp only [List.length_cons] at hlen; omega
            · rw [strValues_push, S_sl2] at ho'
              refine rest _ (res ++ [sl2 x st q]) o' _ W₃' ⟨l ++ [(S (sl2 x st q), t₂)], ho', by rw [List.map_append, List.map_append, hl]; rfl⟩ ?_ (by rw [if_neg hsq]) fun s₂ hh => wpAny_execs_nil (wpAny_execs_nil hh)
              intro y hy
              rcases List.mem_append.mp hy with hy | hy
              · exact X.le y hy
              · rw [List.mem_singleton.mp hy]; exact sl2_le x st q
      · rw [decide_eq_false hu]
        refine wpAny_execs_nil (wpAny_execs_nil ⟨_, _, W₁', st, op, res, o, ⟨X.addr, X.result, ⟨us, hst⟩, ⟨uo, hop⟩, ⟨l, hlo, hl⟩, X.le⟩, rfl, ?_, by simp only [List.length_cons] at hlen; omega⟩)
        rw [← hfold]
        simp [stepQ, hu]
    · intro m' ns' s' hJ W'
      obtain ⟨st, op, res, o, X, rfl, hfold, hlen⟩ := hJ
      refine ⟨?_, rfl⟩
      obtain ⟨us, hst⟩ := X.start
      obtain ⟨l, hlo, hl⟩ := X.obj
      have hll : l.length = res.length := by
        have e := congrArg List.length hl
        rwa [List.length_map, List.length_map] at e
      have hF : (st, op, res) = stripR x := hfold
      have fin : ∀ (res' : List (List Nat)) (l' : List (Str × Tok)) (o' : Obj) (s' : Shared), At s s.heap.objs.size m' [(r, o')] s' → ListObj o' (strValues l').toArray → l'.map (·.1) = res'.map S → (∀ y ∈ res', y.length ≤ x.length) → res'.length ≤ x.length + 1 → stripP x = res'.flatten →
          wpAny (model prg w) (A.deeper (envOf "_strip_quoted_realnames" tStrip.scope s.heap.objs.size 28 (.ref cd))) (execs (tStrip.body.drop 6) (envOf "_strip_quoted_realnames" tStrip.scope s.heap.objs.size 28 (.ref cd)))
            (fun fl s' => Q (match fl with | .ret v => v | _ => .none) s') NoE s' := by
        intro res' l' o' s' W' ho' hl' hle' hn' hP
        refine wpAny_execs_cons (wpAny_Return_some ?_)
        refine Call_method1 (by rfl) (by rfl) (by rfl) (Calls.Constant_str (SB.join (xLd (W'.tok _) X.result ⟨r, l', rfl, ho'.isList (W'.nw (r, o') (by simp)).1, res'.map S, hl', ?_, fun t' k => ?_⟩)))
        · refine joinOk_small (B := x.length) (fun y hy => ?_) ?_
          · obtain ⟨z, hz, rfl⟩ := List.mem_map.mp hy
            rw [S_length]; exact hle' z hz
          · rw [List.length_map]
            calc res'.length * x.length ≤ 1001 * 1000 := Nat.mul_le_mul (by omega) hx
              _ ≤ 16777216 := by decide
        · rw [join_nil_S, ← hP]
          exact h _ _ ((W'.tok _).tok k).kp
      refine wpAny_execs_cons (wpAny_If (wpAny_isTrue_Compare1 (xLd W' hst (xCallB W' T.g T.nLen T.b ((T.bi _ (by decide)).trans bLen) (xLd W' (by exact X.addr) (len_str ?_ (lt_int (wpAny_truthy_bool ?_))))))))
      · rw [S_length]; omega
      rw [S_length]
      have W₂' := (W'.tok (s'.toks + 1)).tok (s'.toks + 1 + 1)
      by_cases hlt : st < (x.length : Int)
      · rw [decide_eq_true hlt]
        refine wpAny_execs_cons (xAppendStmt W₂' X.result hlo (xSliceSN (xLd W₂' (by exact X.addr) (xLd W₂' hst ⟨S x, t, st, us, rfl, rfl, hxl, W₂', fun s₂' t₂ W₃' => ⟨W₃', by simp, ?_, fun s₃' o' W₄' ho' => wpAny_execs_nil ?_⟩⟩))))
        · rw [strValues_size, hll, sizeLine_eq]; simp only [List.length_nil] at hlen; omega
        · rw [strValues_push, S_sl1] at ho'
          refine fin (res ++ [sl1 x st]) _ o' _ W₄' ho' (by rw [List.map_append, List.map_append, hl]; rfl) ?_ ?_ ?_
          · intro y hy
            rcases List.mem_append.mp hy with hy | hy
            · exact X.le y hy
            · rw [List.mem_singleton.mp hy]; exact sl1_le x st
          · rw [List.length_append, List.length_singleton]; simp only [List.length_nil] at hlen; omega
          · unfold stripP; rw [if_pos hq, ← hF, if_pos hlt]
      · rw [decide_eq_false hlt]
        refine wpAny_execs_nil (fin res l o _ W₂' hlo hl X.le (by simp only [List.length_nil] at hlen; omega) ?_)
        unfold stripP; rw [if_pos hq, ← hF, if_neg hlt]
    · intro _ _ _ _ hf; exact hf.elim
    · intro rr s' hq'
      cases rr with
      | ok f =>
        obtain ⟨hq', rfl⟩ := hq'
        exact hq'
      | error e => exact hq'.elim
  · have hd : decide (34 ∈ x) = false := decide_eq_false hq
    rw [hd]
    refine wpAny_execs_cons (wpAny_Return_some (xLd ((W.tok _)) (by rfl) ?_))
    have : stripP x = x := by unfold stripP; rw [if_neg hq]
    rw [this] at h
    exact h _ _ (W.tok _).kp
end
end Mine

namespace Mine

section
variable {w : World} {A : Around} {s : Shared} {mg mb : Str → Option Value} {Q : Value → Shared → Prop}

set_option maxHeartbeats 4000000 in
theorem do_check (T : Top0 w mg mb s.heap) (R : Room A 8) (x : List Nat) (t : Tok) (hx : x.length ≤ 1000) (h : ∀ s', Kp s s' → Q (.bool (checkP x)) s') :
    wpAny (model prg w) A (call (.ref 35) [.str (S x) t]) Q NoE s := by
  refine xEnter T.fCheck T.lim R.lt (x := "addr") (fun _ _ _ => by rfl) (fun cd s₁ W => ?_)
  have R' := R.deeper (envOf "_check_parenthesis" tCheck.scope s.heap.objs.size 35 (.ref cd))
  refine wpAny_execs_cons (wpAny_Assign_Name (xCallFn W T.g T.gStrip T.fStrip (xLd W (by rfl) ⟨W.kp, do_strip (T.keeps W.kp.heap) (R'.le (by omega)) x t hx fun s₂ t₂ K₂ => ?_⟩)))
  refine xSt (W.on K₂) fun s₃ W₃ => ?_
  refine wpAny_execs_cons (wpAny_Assign_Name (wpAny_Constant_int (xSt (W₃.tok _) fun s₅ W₅ => ?_)))
  refine wpAny_execs_cons (wpAny_For ?_)
  refine xCallFn W₅ T.g T.gIter T.fIter (xLd W₅ (by rfl) ⟨W₅.kp, ?_⟩)
  refine makeGen T W₅.kp.heap R'.lt fun s₆ a g own G hown ha K hg hg' => ?_
  refine wpAny_pyIter_gen (G _ R'.hh).gen ?_
  have hL₅ : s.heap.objs.size < s₅.heap.objs.size := W₅.fr.ns.lt
  have hno : ∀ b, s₅.heap.objs.size ≤ b → s.heap.get? b = none := fun b hb => by
    cases q : s.heap.get? b with
    | none => rfl
    | some o => exact absurd (Heap.lt_size (W₅.kp.heap b o q)) (Nat.not_lt.mpr hb)
  refine codeAny_mono (forUnits (J := fun rem m' ns' => ∃ n : Int, chk n rem = checkP x ∧ (∃ u, m' "opens" = some (.int n u)) ∧ ns' = []) (JR := fun v => v = .bool (checkP x))
    (Q := fun f s' => match f with
      | .next => wpAny (model prg w) (A.deeper (envOf "_check_parenthesis" tCheck.scope s.heap.objs.size 35 (.ref cd))) (execs (tCheck.body.drop 3) (envOf "_check_parenthesis" tCheck.scope s.heap.objs.size 35 (.ref cd)))
        (fun fl s' => Q (match fl with | .ret v => v | _ => .none) s') NoE s'
      | .ret v => Q v s'
      | _ => False)
    R'.hh R'.lt T.lim (fun _ _ e => e) (W₅.on K) (G _ R'.hh) (fun q => absurd (hown _ q).1 (Nat.not_le.mpr hL₅)) (fun q => absurd ha (q ▸ Nat.not_le.mpr hL₅)) (fun p hp => nomatch hp) (fun b hb => hno b (hown b hb).1) (hno a ha) (hg ▸ W₅.kp.size_le) ?_ ?_ ?_ ?_ ?_) ?_
  · exact ⟨0, rfl, ⟨_, by rfl⟩, rfl⟩
  · rintro r' m' ns' ⟨n, _, _, rfl⟩; rfl
  · intro u rem m' ns' held s₁' s₀' tk tk' hs₀ hJ W' hheld
    obtain ⟨n, hn, ⟨uo, ho⟩, rfl⟩ := hJ
    refine wpAny_execs_cons (wpAny_If (wpAny_isTrue_Compare1 (xLd W' (by rfl) (Calls.Constant_str (eq_str (wpAny_truthy_bool ?_))))))
    rw [beqS _ _ _ q40]
    have W₁' := W'.tok (s₁'.toks + 1)
    by_cases h40 : u.2 = [40]
    · rw [decide_eq_true h40]
      refine wpAny_execs_cons (wpAny_AugAssign_Name (ldn W₁'.fr (by exact ho) (wpAny_Constant_int (iadd_int (xSt ((W₁'.tok _).tok _) fun s₂' W₂' => ?_)))))
      refine wpAny_execs_nil (wpAny_execs_nil ⟨_, [], W₂', n + 1, ?_, ⟨_, by rfl⟩, rfl⟩)
      rw [← hn]; simp [chk, h40]
    · rw [decide_eq_false h40]
      refine wpAny_execs_cons (wpAny_If (wpAny_isTrue_Compare1 (xLd W₁' (by rfl) (Calls.Constant_str (eq_str (wpAny_truthy_bool ?_))))))
      rw [beqS _ _ _ q41]
      have W₂' := W₁'.tok (s₁'.toks + 1 + 1)
      by_cases h41 : u.2 = [41]
      · rw [decide_eq_true h41]
        refine wpAny_execs_cons (wpAny_AugAssign_Name (ldn W₂'.fr (by exact ho) (wpAny_Constant_int (isub_int (xSt ((W₂'.tok _).tok _) fun s₃' W₃' => ?_)))))
        refine wpAny_execs_cons (wpAny_If (wpAny_isTrue_Compare1 (xLd W₃' (by rfl) (wpAny_Constant_int (lt_int (wpAny_truthy_bool ?_))))))
        by_cases hneg : n - 1 < 0
        · rw [decide_eq_true hneg]
          refine wpAny_execs_cons (wpAny_Return_some (constBool ⟨⟨_, _, W₃'.tok _⟩, ?_⟩))
          rw [← hn]; simp [chk, h41, hneg]
        · rw [decide_eq_false hneg]
          refine wpAny_execs_nil (wpAny_execs_nil (wpAny_execs_nil (wpAny_execs_nil ⟨_, [], W₃'.tok _, n - 1, ?_, ⟨_, by rfl⟩, rfl⟩)))
          rw [← hn]; simp [chk, h41, hneg]
      · rw [decide_eq_false h41]
        refine wpAny_execs_nil (wpAny_execs_nil (wpAny_execs_nil ⟨_, [], W₂', n, ?_, ⟨uo, ho⟩, rfl⟩))
        rw [← hn]; simp [chk, h40, h41]
  · intro m' ns' s' hJ W'
    obtain ⟨n, hn, ⟨uo, ho⟩, rfl⟩ := hJ
    refine wpAny_execs_cons (wpAny_Return_some (wpAny_Compare1 (xLd W' ho (wpAny_Constant_int (eq_int ?_)))))
    have : (n == 0) = checkP x := by rw [← hn]; rfl
    rw [this]
    exact h _ (W'.tok _).kp
  · rintro v m' ns' s' rfl W'
    exact h _ W'.kp
  · intro rr s' hq'
    cases rr with
    | ok f =>
      cases f with
      | next => exact hq'
      | ret v => exact hq'
      | brk => exact hq'.elim
      | cont => exact hq'.elim
    | error e => exact hq'.elim
end
end Mine

namespace Mine

section
variable {w : World} {A : Around} {E : Value → Shared → Prop} {s s₀ : Shared} {L : Addr} {m : Str → Option Value} {ns : List (Addr × Obj)} {env : Env} {pos : Pos} {k : Nat} {Q : Value → Shared → Prop}
theorem xInt {i : Int} (W : At s₀ L m ns s) (h : ∀ s' t, At s₀ L m ns s' → Q (.int i t) s') : wpAny (model prg w) A (eval (.Constant (.int i) k pos) env) Q E s := wpAny_Constant_int (h _ _ (W.tok _))
theorem xStr {y : Str} (W : At s₀ L m ns s) (h : ∀ s' t, At s₀ L m ns s' → Q (.str y t) s') : wpAny (model prg w) A (eval (.Constant (.str y) k pos) env) Q E s := Calls.Constant_str (h _ _ (W.tok _))
theorem xAddI {a b : Int} {t u : Tok} (W : At s₀ L m ns s) (h : ∀ s' t, At s₀ L m ns s' → Q (.int (a + b) t) s') : wpAny (model prg w) A (binaryOp .Add (.int a t) (.int b u)) Q E s := add_int (h _ _ (W.tok _))
theorem xSubI {a b : Int} {t u : Tok} (W : At s₀ L m ns s) (h : ∀ s' t, At s₀ L m ns s' → Q (.int (a - b) t) s') : wpAny (model prg w) A (binaryOp .Sub (.int a t) (.int b u)) Q E s := sub_int (h _ _ (W.tok _))
theorem xModI {a b : Int} {t u : Tok} (W : At s₀ L m ns s) (hb : b ≠ 0) (h : ∀ s' t, At s₀ L m ns s' → Q (.int (a.fmod b) t) s') : wpAny (model prg w) A (binaryOp .Mod (.int a t) (.int b u)) Q E s := mod_int hb (h _ _ (W.tok _))
theorem xDivI {a b : Int} {t u : Tok} (W : At s₀ L m ns s) (hb : b ≠ 0) (h : ∀ s' t, At s₀ L m ns s' → Q (.int (a.fdiv b) t) s') (hp : Builtin.divisionGoesByPylong a b = false := by exact PyProof.noPylong_of_log2 (by decide +kernel)) : wpAny (model prg w) A (binaryOp .FloorDiv (.int a t) (.int b u)) Q E s := floordiv_int hb (h _ _ (W.tok _)) (.inl hp)
theorem xAddS {x y : Str} {t u : Tok} (W : At s₀ L m ns s) (hsz : x.length + y.length ≤ sizeLine) (h : ∀ s' t, At s₀ L m ns s' → Q (.str (x ++ y) t) s') : wpAny (model prg w) A (binaryOp .Add (.str x t) (.str y u)) Q E s := add_str (fun _ _ => h _ _ (W.tok _)) hsz
theorem xChr {i : Int} {t : Tok} (W : At s₀ L m ns s) (h0 : 0 ≤ i) (h1 : i ≤ 0x10FFFF) (h : ∀ s' t, At s₀ L m ns s' → Q (.str (S [i.toNat]) t) s') : wpAny (model prg w) A (call (.builtin "chr") [.int i t]) Q E s :=
  P.chr_of_int (by rw [Bool.or_eq_false_iff]; exact ⟨decide_eq_false (by omega), decide_eq_false (by omega)⟩) (h _ _ (W.tok _))

theorem mul_S (l : List Nat) (n : Int) : Txt.mul (S l) n = S (List.replicate n.toNat l).flatten := by
  unfold Txt.mul
  by_cases h1 : n < 1
  · rw [if_pos h1]
    have : n.toNat = 0 := by omega
    rw [this]; rfl
  · rw [if_neg h1]
    have hf : ∀ (k : Nat) (acc : Array Nat), (List.replicate k l.toArray).foldl (· ++ ·) acc = acc ++ (List.replicate k l).flatten.toArray := by
      intro k
      induction k with
      | zero => intro acc; simp
      | succ k ih => intro acc; rw [List.replicate_succ, List.foldl_cons, ih, List.replicate_succ, List.flatten_cons]; simp
    by_cases h2 : (n == 1 || (S l).length == 0) = true
    · rw [if_pos h2]
      rw [Bool.or_eq_true, beq_iff_eq, beq_iff_eq] at h2
      rcases h2 with rfl | h2
      · simp
      · have : l = [] := by rw [S_length] at h2; exact List.eq_nil_of_length_eq_zero h2
        subst this
        have : ∀ k, (List.replicate k ([] : List Nat)).flatten = [] := by intro k; induction k <;> simp_all
        rw [this]
    · rw [if_neg h2]
      show (⟨(List.replicate n.toNat l.toArray).foldl (· ++ ·) #[]⟩ : Str) = _
      rw [hf]; simp [S]
theorem xMulS {l : List Nat} {n : Int} {t u : Tok} (W : At s₀ L m ns s) (hl : l.length ≤ 1000) (hn : n ≤ 1000) (hn0 : -1000 ≤ n) (h : ∀ s' t, At s₀ L m ns s' → Q (.str (S (List.replicate n.toNat l).flatten) t) s') :
    wpAny (model prg w) A (binaryOp .Mult (.str (S l) t) (.int n u)) Q E s := by
  refine SB.mul ⟨?_, fun h1 _ => ?_, fun _ _ => ?_⟩ fun t' k => ?_
  · rw [Bool.or_eq_false_iff]; exact ⟨decide_eq_false (by omega), decide_eq_false (by omega)⟩
  · rw [S_length]
    have : (1000 : Int) ≤ (2 ^ 63 - 1) / n := by
      rw [Int.le_ediv_iff_mul_le (by omega)]; omega
    omega
  · rw [S_length]
    have : l.length * n.toNat ≤ 1000 * 1000 := Nat.mul_le_mul hl (by omega)
    unfold Builtin.Str.tooLong
    exact decide_eq_false (by rw [sizeLine_eq]; omega)
  · rw [mul_S]; exact h _ _ (W.tok _)
end
end Mine

namespace Mine

def earlyL : List Int := [173, 847, 6150, 6155, 6156, 6157, 8203, 8204, 8205, 8288, 65279]
def unseenN (n : Int) : Nat := if n.fmod 27 < 11 then (earlyL.getD (n.fmod 27).toNat 0).toNat else (65013 + n.fmod 27).toNat

theorem fmod_range (n b : Int) (hb : 0 < b) : 0 ≤ n.fmod b ∧ n.fmod b < b := by
  rw [Int.fmod_eq_emod_of_nonneg n (Int.le_of_lt hb)]
  exact ⟨Int.emod_nonneg n (Int.ne_of_gt hb), Int.emod_lt_of_pos n hb⟩

theorem early_at {i : Int} (h0 : 0 ≤ i) (h1 : i < 11) : 0 ≤ earlyL.getD i.toNat 0 ∧ earlyL.getD i.toNat 0 ≤ 0x10FFFF := by
  have : i = 0 ∨ i = 1 ∨ i = 2 ∨ i = 3 ∨ i = 4 ∨ i = 5 ∨ i = 6 ∨ i = 7 ∨ i = 8 ∨ i = 9 ∨ i = 10 := by omega
  rcases this with rfl | rfl | rfl | rfl | rfl | rfl | rfl | rfl | rfl | rfl | rfl <;> decide

theorem early_get {i : Int} {t0 t1 t2 t3 t4 t5 t6 t7 t8 t9 t10 : Tok} (h0 : 0 ≤ i) (h1 : i < 11) :
    ∃ t, (#[Value.int 173 t0, .int 847 t1, .int 6150 t2, .int 6155 t3, .int 6156 t4, .int 6157 t5, .int 8203 t6, .int 8204 t7, .int 8205 t8, .int 8288 t9, .int 65279 t10] : Array Value)[i.toNat]? = some (.int (earlyL.getD i.toNat 0) t) := by
  have : i = 0 ∨ i = 1 ∨ i = 2 ∨ i = 3 ∨ i = 4 ∨ i = 5 ∨ i = 6 ∨ i = 7 ∨ i = 8 ∨ i = 9 ∨ i = 10 := by omega
  rcases this with rfl | rfl | rfl | rfl | rfl | rfl | rfl | rfl | rfl | rfl | rfl <;> exact ⟨_, rfl⟩

section
variable {w : World} {A : Around} {s : Shared} {mg mb : Str → Option Value} {Q : Value → Shared → Prop}

set_option maxHeartbeats 4000000 in
theorem do_unseen (T : Top0 w mg mb s.heap) (R : Room A 3) (n : Int) (t : Tok) (h : ∀ s' t', Kp s s' → Q (.str (S [unseenN n]) t') s') :
    wpAny (model prg w) A (call (.ref 106) [.int n t]) Q NoE s := by
  obtain ⟨h0, h1⟩ := fmod_range n 27 (by decide)
  refine xEnter T.fUnseen T.lim R.lt (x := "number") (fun _ _ _ => by rfl) (fun cd s₁ W => ?_)
  refine wpAny_execs_cons ?_
  refine wpAny_Assign_Name ?_
  refine List_ ?_
  refine spliced_more (xInt W fun s₁ t0 W => ?_)
  refine spliced_more (xInt W fun s₁ t1 W => ?_)
  refine spliced_more (xInt W fun s₁ t2 W => ?_)
  refine spliced_more (xInt W fun s₁ t3 W => ?_)
  refine spliced_more (xInt W fun s₁ t4 W => ?_)
  refine spliced_more (xInt W fun s₁ t5 W => ?_)
  refine spliced_more (xInt W fun s₁ t6 W => ?_)
  refine spliced_more (xInt W fun s₁ t7 W => ?_)
  refine spliced_more (xInt W fun s₁ t8 W => ?_)
  refine spliced_more (xInt W fun s₁ t9 W => ?_)
  refine spliced_more (xInt W fun s₁ t10 W => ?_)
  refine spliced_none ?_
  refine newList_N W.fr W.nw fun h₂ F₂ N₂ => ?_
  refine xSt (W.to (tk := s₁.toks) F₂ N₂) fun s₃ W₃ => ?_
  have hl := (W₃.nw _ (List.mem_singleton.mpr rfl)).1
  generalize s₁.heap.objs.size = r at W₃ hl
  refine wpAny_execs_cons ?_
  refine wpAny_Return_some ?_
  refine xCallB W₃ T.g T.nChr T.b ((T.bi _ (by decide)).trans bChr) ?_
  refine wpAny_IfExp ?_
  refine wpAny_isTrue_Compare1 (wpAny_BinOp (xLd W₃ (by rfl) (xInt W₃ fun s₄ u W₄ => xModI W₄ (by decide) fun s₅ u W₅ => xInt W₅ fun s₆ u W₆ => ?_)))
  refine lt_int (wpAny_truthy_bool ?_)
  by_cases hc : n.fmod 27 < 11
  · rw [decide_eq_true hc]
    refine Subscript_BinOp (xLd W₆ (by rfl) (wpAny_BinOp (xLd W₆ (by rfl) (xInt W₆ fun s₇ u W₇ => xModI W₇ (by decide) fun s₈ u W₈ => ?_))))
    have hl₈ : s₈.heap.IsList r _ := ⟨_, (W₈.nw _ (List.mem_singleton.mpr rfl)).1, rfl, 0, rfl⟩
    obtain ⟨tv, hv⟩ := early_get (t0 := t0) (t1 := t1) (t2 := t2) (t3 := t3) (t4 := t4) (t5 := t5) (t6 := t6) (t7 := t7) (t8 := t8) (t9 := t9) (t10 := t10) h0 hc
    refine ⟨"list", _, slot_list_getitem.lookup, hl₈.typeIs, wpAny_getItem_list hl₈ h0 (by omega) hv ?_⟩
    refine xChr W₈ (early_at h0 hc).1 (early_at h0 hc).2 fun s₉ u W₉ => ?_
    have : unseenN n = (earlyL.getD (n.fmod 27).toNat 0).toNat := by unfold unseenN; rw [if_pos hc]
    rw [this] at h
    exact h _ _ W₉.kp
  · rw [decide_eq_false hc]
    refine wpAny_BinOp (xInt W₆ fun s₇ u W₇ => wpAny_BinOp (xLd W₇ (by rfl) (xInt W₇ fun s₈ u W₈ => xModI W₈ (by decide) fun s₉ u W₉ => xAddI W₉ fun s₁₀ u W₁₀ => ?_)))
    refine xChr W₁₀ (by omega) (by omega) fun s₁₁ u W₁₁ => ?_
    have : unseenN n = (65013 + n.fmod 27).toNat := by unfold unseenN; rw [if_neg hc]
    rw [this] at h
    exact h _ _ W₁₁.kp
end
end Mine

namespace Mine

section
variable {w : World} {A : Around} {E : Value → Shared → Prop} {s s₀ : Shared} {L : Addr} {m : Str → Option Value} {ns : List (Addr × Obj)} {pos : Pos} {env : Env} {Q : Value → Shared → Prop}

theorem yLd {x : Str} {v : Value} (W : At s₀ L m ns s) (hv : m x = some v) (h : Q v s) (hL : env.locals = L := by rfl)
    (hk : env.scope.kind = .function := by rfl) (hl : env.kindOf x = some .local := by rfl) (hd : (x == ("__debug__" : Str)) = false := by decide) :
    wpAny (model prg w) A (eval (.Name x pos) env) Q E s := wpAny_Name (wpAny_loadName_local hk hl (hL ▸ W.fr.ns) hv h) hd
theorem yGlob {x : Str} {v : Value} {mg : Str → Option Value} (W : At s₀ L m ns s) (hg : s₀.heap.Ns mainGlobals mg) (hv : mg x = some v) (h : Q v s) (hG : env.globals = mainGlobals := by rfl)
    (hk : env.scope.kind = .function := by rfl) (hl : env.kindOf x = some .globalImplicit := by rfl) (hd : (x == ("__debug__" : Str)) = false := by decide) :
    wpAny (model prg w) A (eval (.Name x pos) env) Q E s := Calls.Name_function_global hk hl (Calls.loadGlobal_global (hG ▸ hg.keeps W.fr.keep) hv h) hd
theorem yBuilt {x : Str} {v : Value} {mg mb : Str → Option Value} (W : At s₀ L m ns s) (hg : s₀.heap.Ns mainGlobals mg) (hmiss : mg x = none) (hb : s₀.heap.Ns builtinsNs mb) (hv : mb x = some v) (h : Q v s) (hG : env.globals = mainGlobals := by rfl) (hB : env.builtins = builtinsNs := by rfl)
    (hk : env.scope.kind = .function := by rfl) (hl : env.kindOf x = some .globalImplicit := by rfl) (hd : (x == ("__debug__" : Str)) = false := by decide) :
    wpAny (model prg w) A (eval (.Name x pos) env) Q E s := Calls.Name_function_global hk hl (Calls.loadGlobal_builtin (hG ▸ hg.keeps W.fr.keep) hmiss (hB ▸ hb.keeps W.fr.keep) hv h) hd

theorem yCallFn {f : Addr} {fn : Str} {np : Pos} {e : Expr} {mg : Str → Option Value} {nm : Str} {t : FnText} (W : At s₀ L m ns s) (hg : s₀.heap.Ns mainGlobals mg) (hm : mg fn = some (.ref f)) (hf : FnAt s₀.heap f nm t)
    (h : wpAny (model prg w) A (eval e env) (fun v s₁ => Kp s₀ s₁ ∧ wpAny (model prg w) A (call (.ref f) [v]) Q E s₁) E s)
    (hs : starEach [e] env = [(false, eval e env)] := by rfl) (hG : env.globals = mainGlobals := by rfl)
    (hk : env.scope.kind = .function := by rfl) (hx : env.kindOf fn = some .globalImplicit := by rfl) (hd : (fn == ("__debug__" : Str)) = false := by decide) :
    wpAny (model prg w) A (eval (.Call (.Name fn np) [e] [] pos) env) Q E s := by
  obtain ⟨o, pm, c, doc, ho, hdt, hcr⟩ := hf
  refine Call_name1 hs (yGlob W hg hm ?_ hG hk hx hd)
  refine callWith_function (o := o) (fd := docDef nm t.params t.body t.scope pm (.ref c) doc) (Calls.evalArgs_plain (Calls.spliced_cons (wpAny_mono h (fun v s₁ h₁ => Calls.spliced_nil ?_) fun _ _ e => e)))
  exact ⟨⟨h₁.1.heap _ _ ho, hdt⟩, h₁.2⟩
theorem yCallB {id : String} {fn : Str} {np : Pos} {e : Expr} {mg mb : Str → Option Value} (W : At s₀ L m ns s) (hg : s₀.heap.Ns mainGlobals mg) (hmiss : mg fn = none) (hb : s₀.heap.Ns builtinsNs mb) (hm : mb fn = some (.builtin id))
    (h : wpAny (model prg w) A (eval e env) (fun v s₁ => wpAny (model prg w) A (call (.builtin id) [v]) Q E s₁) E s)
    (hs : starEach [e] env = [(false, eval e env)] := by rfl) (hG : env.globals = mainGlobals := by rfl) (hB : env.builtins = builtinsNs := by rfl)
    (hk : env.scope.kind = .function := by rfl) (hx : env.kindOf fn = some .globalImplicit := by rfl) (hd : (fn == ("__debug__" : Str)) = false := by decide) :
    wpAny (model prg w) A (eval (.Call (.Name fn np) [e] [] pos) env) Q E s :=
  Call_name1 hs (yBuilt W hg hmiss hb hm (callWith_builtin1 h) hG hB hk hx hd)
theorem yCallT {T : String} {fn : Str} {np : Pos} {e : Expr} {mg mb : Str → Option Value} (W : At s₀ L m ns s) (hg : s₀.heap.Ns mainGlobals mg) (hmiss : mg fn = none) (hb : s₀.heap.Ns builtinsNs mb) (hm : mb fn = some (.type T))
    (h : wpAny (model prg w) A (eval e env) (fun v s₁ => wpAny (model prg w) A (call (.type T) [v]) Q E s₁) E s)
    (hs : starEach [e] env = [(false, eval e env)] := by rfl) (hG : env.globals = mainGlobals := by rfl) (hB : env.builtins = builtinsNs := by rfl)
    (hk : env.scope.kind = .function := by rfl) (hx : env.kindOf fn = some .globalImplicit := by rfl) (hd : (fn == ("__debug__" : Str)) = false := by decide) :
    wpAny (model prg w) A (eval (.Call (.Name fn np) [e] [] pos) env) Q E s :=
  Call_name1 hs (yBuilt W hg hmiss hb hm (callWith_type1 h) hG hB hk hx hd)

theorem ySt {x : Str} {v : Value} {Q : Unit → Shared → Prop} (W : At s₀ L m ns s) (h : ∀ s', At s₀ L (fun y => if y = x then some v else m y) ns s' → Q () s') (hL : env.locals = L := by rfl)
    (hk : env.scope.kind = .function := by rfl) (hl : env.kindOf x = some .local := by rfl) :
    wpAny (model prg w) A (storeName env x v) Q E s := by
  subst hL
  exact wpAny_storeName_local hl W.fr.ns (fun h' hn hs => h _ (W.to (tk := s.toks + 1) (W.fr.set hn hs) fun p hp => ⟨(hs.2 _ (W.nw p hp).2.1).trans (W.nw p hp).1, (W.nw p hp).2⟩))
    (by rw [hk]; rfl)
end

theorem ySt_raw {w : World} {A : Around} {E : Value → Shared → Prop} {s s₀ : Shared} {L : Addr} {m : Str → Option Value} {ns : List (Addr × Obj)} {env : Env} {x : Str} {v : Value} {Q : Unit → Shared → Prop} (W : At s₀ L m ns s) (hL : env.locals = L)
    (hk : env.scope.kind = .function) (hl : env.kindOf x = some .local) (h : ∀ h' tk, At s₀ L (fun y => if y = x then some v else m y) ns { s with heap := h', toks := tk } → Heap.SameBut L s.heap h' → Q () { s with heap := h', toks := tk }) :
    wpAny (model prg w) A (storeName env x v) Q E s := by
  subst hL
  exact wpAny_storeName_local hl W.fr.ns (fun h' hn hs => h _ _ (W.to (tk := s.toks + 1) (W.fr.set hn hs) fun p hp => ⟨(hs.2 _ (W.nw p hp).2.1).trans (W.nw p hp).1, (W.nw p hp).2⟩) hs)
    (by rw [hk]; rfl)

theorem yAppend {w : World} {A : Around} {E : Value → Shared → Prop} {s s₀ : Shared} {L : Addr} {m : Str → Option Value} {ns : List (Addr × Obj)} {r : Addr} {o : Obj} {items : Array Value} {x : Value} {Q : Value → Shared → Prop} (W : At s₀ L m ((r, o) :: ns) s) (hr : r ∉ ns.map (·.1)) (ho : ListObj o items)
    (h : ∀ h' tk o', At s₀ L m ((r, o') :: ns) { s with heap := h', toks := tk } → Heap.SameBut r s.heap h' → ListObj o' (items.push x) → Q .none { s with heap := h', toks := tk }) (hsz : items.size ≤ sizeLine) :
    wpAny (model prg w) A (call (.builtin "list.append") [.ref r, x]) Q E s := by
  obtain ⟨hc, hdn, n, hd⟩ := ho
  obtain ⟨n', hd'⟩ := Obj.data_mapSeq hd (·.push x)
  have hg := (W.nw (r, o) (by simp)).1
  have hl : s.heap.IsList r items := ⟨o, hg, hc, n, hd⟩
  refine wpAny_call_entry slot_list_append hl.typeIs entry_list_append ?_ (args_list_append _ _)
  show wpAny _ _ (updateSeq r (·.push x) >>= fun _ => ret .none) _ _ s
  refine wpAny_bind (wpAny_updateSeq hg hd (wpAny_pure ⟨.none, rfl, ?_⟩))
  have hsb : Heap.SameBut r s.heap (s.heap.update r (Obj.mapSeq (·.push x))) := Heap.SameBut.update ..
  have hself : (s.heap.update r (Obj.mapSeq (·.push x))).get? r = some (Obj.mapSeq (·.push x) o) := Heap.get?_update_self _ hg (Obj.isFreed_of_seq hd')
  have hrL : r ≠ L := (W.nw (r, o) (by simp)).2.1
  have hr0 : s₀.heap.get? r = none := (W.nw (r, o) (by simp)).2.2
  refine h _ s.toks (Obj.mapSeq (·.push x) o) ⟨⟨W.fr.ns.sameBut hsb (Ne.symm hrL), fun b ob q => (hsb.2 b fun e => by rw [e, hr0] at q; cases q).trans (W.fr.keep b ob q), W.fr.above⟩, fun p hp => ?_, W.gens, W.bare, W.os⟩ hsb ⟨(Obj.cls_mapSeq ..).trans hc, ?_, n', hd'⟩
  · rcases List.mem_cons.mp hp with rfl | hp
    · exact ⟨hself, hrL, hr0⟩
    · have := W.nw p (List.mem_cons_of_mem _ hp)
      exact ⟨(hsb.2 p.1 fun e => hr (by rw [← e]; exact List.mem_map_of_mem hp)).trans this.1, this.2⟩
  · obtain ⟨c, d, dt, sl⟩ := o
    cases hd
    exact hdn

theorem At.drop {s₀ s : Shared} {L m n₁ n₂} (W : At s₀ L m (n₁ ++ n₂) s) : At s₀ L m n₂ s := ⟨W.fr, fun p hp => W.nw p (List.mem_append_right _ hp), W.gens, W.bare, W.os⟩
theorem At.dropR {s₀ s : Shared} {L m n₁ n₂} (W : At s₀ L m (n₁ ++ n₂) s) : At s₀ L m n₁ s := ⟨W.fr, fun p hp => W.nw p (List.mem_append_left _ hp), W.gens, W.bare, W.os⟩
theorem At.more {s₀ s : Shared} {L m ns} {D : Addr} {o : Obj} (W : At s₀ L m ns s) (h : s.heap.get? D = some o) (h0 : s₀.heap.get? D = none) (hL : D ≠ L) : At s₀ L m ((D, o) :: ns) s :=
  ⟨W.fr, fun p hp => by
    rcases List.mem_cons.mp hp with rfl | hp
    · exact ⟨h, hL, h0⟩
    · exact W.nw p hp, W.gens, W.bare, W.os⟩
/-- one object of no account changes -/
theorem At.but {s₀ s : Shared} {L m ns} {C : Addr} {h' : Heap} {tk : Nat} (W : At s₀ L m ns s) (hs : Heap.SameBut C s.heap h') (hC : C ≠ L) (h0 : s₀.heap.get? C = none) (hn : C ∉ ns.map (·.1)) : At s₀ L m ns { s with heap := h', toks := tk } :=
  ⟨⟨W.fr.ns.sameBut hs (Ne.symm hC), fun b o e => hs.extBut b o (fun q => by rw [q, h0] at e; cases e) (W.fr.keep b o e), W.fr.above⟩,
    fun p hp => ⟨hs.extBut _ _ (fun q => hn (q ▸ List.mem_map_of_mem hp)) (W.nw p hp).1, (W.nw p hp).2⟩, W.gens, W.bare, W.os⟩

theorem fresh_of {h : Heap} {a : Addr} (ha : h.objs.size ≤ a) : h.get? a = none := by
  cases e : h.get? a with
  | none => rfl
  | some o => exact absurd (Heap.lt_size e) (Nat.not_lt.mpr ha)
theorem Kp.absent {s s' : Shared} (K : Kp s s') {a : Addr} (h : s'.heap.get? a = none) : s.heap.get? a = none := by
  cases e : s.heap.get? a with
  | none => rfl
  | some o => rw [K.heap _ _ e] at h; cases h

def footV : Value → List Addr
  | .ref a => [a]
  | _ => []

/-- what a comprehension's test and element do, in its own frame -/
structure Quiet {α : Type} (w : World) (A : Around) (cenv : Addr → Env) (x : Str) (ifs : List Expr) (elt : Expr) (its : List α) (PA : α → Value → Prop) (p : α → Bool) (F : α → Value → Heap → Prop) (s₀ : Shared) : Prop where
  mono : ∀ a v h h', F a v h → (∀ b ∈ footV v, ∀ o, h.get? b = some o → h'.get? b = some o) → F a v h'
  tests : ∀ C a v m ns s, a ∈ its → PA a v → At s₀ C m ns s → m x = some v →
    wpAny (model prg w) A (forIn ifs true fun c r => if r = true then do let ok ← isTrue c (cenv C) (eval c (cenv C)); pure (ForInStep.yield ok) else pure (ForInStep.yield r)) (fun ok s' => ok = p a ∧ Kp s s') NoE s
  elt : ∀ C a v m ns s, a ∈ its → p a = true → PA a v → At s₀ C m ns s → m x = some v →
    wpAny (model prg w) A (eval elt (cenv C)) (fun y s' => F a y s'.heap ∧ (∀ b ∈ footV y, C < b) ∧ Kp s s') NoE s

theorem Paired.mono {α β : Type} {F G : α → β → Prop} (h : ∀ a b, F a b → G a b) : ∀ {l₁ : List α} {l₂ : List β}, Paired F l₁ l₂ → Paired G l₁ l₂
  | _, _, .nil => .nil
  | _, _, .cons x t => .cons (h _ _ x) (Paired.mono h t)

section
variable {w : World} {A : Around} {E : Value → Shared → Prop} {env : Env}

set_option maxHeartbeats 2000000 in
theorem comp_loop {α : Type} {elt iter : Expr} {x : Str} {px : Pos} {ifs : List Expr} {scope : Scope} {pos : Pos} {I D C : Addr} {fp wr : List Addr} {n : Nat} {P : Nat → Value → Prop} {St : Nat → Heap → Prop}
    {cenv : Env} {m : Str → Option Value} {o : Obj} {s₀ s : Shared} {R : Result → Shared → Prop} {its : List α} {PA : α → Value → Prop} {p : α → Bool} {F : α → Value → Heap → Prop} {cE : Addr → Env}
    (W : Walks prg w A I fp wr n P St) (hn : n = its.length) (hP : ∀ i v, P i v → ∃ a, its[i]? = some a ∧ PA a v) (q : Quiet w A cE x ifs elt its PA p F s₀) (hcE : cE C = cenv) (hC : cenv.locals = C)
    (hx : cenv.kindOf x = some .local) (hk : cenv.scope.kind = .function) (hsz : its.length ≤ sizeLine)
    (hwr : ∀ b ∈ wr, s₀.heap.get? b = none ∧ b < D) (hDC : D < C) (hfp : ∀ b ∈ fp, b ∈ wr ∨ ∃ o, s₀.heap.get? b = some o)
    (hst : St 0 s.heap) (hA : At s₀ C m [(D, o)] s) (ho : ListObj o #[])
    (hR : ∀ m' ys o' s', At s₀ C m' [(D, o')] s' → ListObj o' ys → Paired (fun a y => F a y s'.heap ∧ ∀ b ∈ footV y, C < b) (its.filter p) ys.toList → R (.ok .next) s') :
    codeAny (model prg w) A (.compLoop (.ListComp elt [⟨.Name x px, iter, ifs, 0⟩] scope pos) 0 (.ref I) (.ref D) cenv) R s := by
  subst hcE
  have hD0 : s₀.heap.get? D = none := (hA.nw (D, o) (List.mem_singleton.mpr rfl)).2.2
  have hC0 : s₀.heap.get? C = none := fresh_of hA.fr.above
  have hwC : ∀ b ∈ wr, b ≠ C := fun b hb => Nat.ne_of_lt (Nat.lt_trans (hwr b hb).2 hDC)
  have hwD : ∀ b ∈ wr, b ≠ D := fun b hb => Nat.ne_of_lt (hwr b hb).2
  refine codeAny_compLoop_tests (fun k s' => ∃ i m' o' ys, k = n + 1 - i ∧ i ≤ n ∧ At s₀ C m' [(D, o')] s' ∧ ListObj o' ys ∧ St i s'.heap ∧ Paired (fun a y => F a y s'.heap ∧ ∀ b ∈ footV y, C < b) ((its.take i).filter p) ys.toList) ?_ (n + 1)
    ⟨0, m, o, #[], rfl, Nat.zero_le _, hA, ho, hst, by simpa using Paired.nil⟩
  rintro k s' ⟨i, m', o', ys, rfl, hi, W', ho', hst', hF⟩
  have hkeep : ∀ (h' : Heap) (tk : Nat), (∀ b o, b ∉ wr → s'.heap.get? b = some o → h'.get? b = some o) → At s₀ C m' [(D, o')] { s' with heap := h', toks := tk } := fun h' tk hk' =>
    ⟨⟨W'.fr.ns.at' fun o e => hk' _ o (fun hb => hwC _ hb rfl) e, fun b o e => hk' b o (fun hb => by rw [(hwr _ hb).1] at e; cases e) (W'.fr.keep b o e), W'.fr.above⟩,
      fun z hz => ⟨hk' _ _ (fun hb => hwD _ hb (by rw [List.mem_singleton.mp hz])) (W'.nw z hz).1, (W'.nw z hz).2⟩, W'.gens, W'.bare, W'.os⟩
  have hup : ∀ {h h' : Heap} {l : List α} {ys : List Value}, Paired (fun a y => F a y h ∧ ∀ b ∈ footV y, C < b) l ys → (∀ b o, C < b → h.get? b = some o → h'.get? b = some o) → Paired (fun a y => F a y h' ∧ ∀ b ∈ footV y, C < b) l ys :=
    fun hF hk => Paired.mono (fun a y z => ⟨q.mono a y _ _ z.1 fun b hb o e => hk b o (z.2 b hb) e, z.2⟩) hF
  have hgw : ∀ b, C < b → b ∉ wr := fun b hb hm => Nat.lt_asymm hb (Nat.lt_trans (hwr b hm).2 hDC)
  by_cases hlt : i < n
  · refine W.item i _ _ _ hlt hst' fun v h₁ tk₁ hPv hst₁ hk₁ => ?_
    obtain ⟨a, hia, hPa⟩ := hP i v hPv
    have hmem : a ∈ its := List.mem_of_getElem? hia
    have W₁ := hkeep h₁ tk₁ hk₁
    have hF₁ := hup hF fun b o hb e => hk₁ b o (hgw b hb) e
    have W₁' : At s₀ C m' ((D, o') :: heldAt h₁ wr) { s' with heap := h₁, toks := tk₁ } := by
      refine ⟨W₁.fr, fun z hz => ?_, W₁.gens, W₁.bare, W₁.os⟩
      rcases List.mem_cons.mp hz with rfl | hz
      · exact W₁.nw _ (List.mem_singleton.mpr rfl)
      · obtain ⟨hb, e⟩ := mem_heldAt.mp hz
        exact ⟨e, hwC _ hb, (hwr _ hb).1⟩
    refine wpAny_assign_Name (ySt_raw W₁' hC hk hx fun h₂ tk₂ W₂ hs₂ => ?_)
    have hF₂ := hup hF₁ fun b o hb e => hs₂.extBut b o (Ne.symm (Nat.ne_of_lt hb)) e
    refine wpAny_mono (q.tests C a v _ _ _ hmem hPa W₂ (by simp)) (fun ok s₃ h₃ => ?_) fun _ _ e => e.elim
    obtain ⟨rfl, K₃⟩ := h₃
    have W₃ := W₂.on K₃
    have hF₃ := hup hF₂ fun b o _ e => K₃.heap b o e
    have hDn : D ∉ (heldAt h₁ wr).map (·.1) := fun hm => by
      obtain ⟨z, hz, e⟩ := List.mem_map.mp hm
      exact hwD _ (mem_heldAt.mp hz).1 e
    have hst_of : ∀ s'' : Shared, ∀ m'' o'', At s₀ C m'' ((D, o'') :: heldAt h₁ wr) s'' → St (i + 1) s''.heap := fun s'' m'' o'' W'' => W.frame _ _ _ hst₁ fun b hb o e => by
      rcases hfp b hb with hb' | ⟨o₀, e₀⟩
      · exact (W''.nw (b, o) (List.mem_cons_of_mem _ (mem_heldAt.mpr ⟨hb', e⟩))).1
      · have e₁ := W₁.fr.keep b o₀ e₀
        rw [show ({ s' with heap := h₁, toks := tk₁ } : Shared).heap = h₁ from rfl, e] at e₁
        rw [Option.some.inj e₁]
        exact W''.fr.keep b o₀ e₀
    cases hpa : p a with
    | false =>
      simp only [Bool.false_eq_true, if_false]
      refine ⟨n + 1 - (i + 1), by omega, i + 1, _, o', ys, rfl, hlt, (show At s₀ C _ ([(D, o')] ++ heldAt h₁ wr) s₃ from W₃).dropR, ho', hst_of _ _ _ W₃, ?_⟩
      rw [take_succ_filter p _ i a hia, hpa]; simpa using hF₃
    | true =>
      simp only [if_true]
      refine wpAny_mono (q.elt C a v _ _ _ hmem hpa hPa W₃ (by simp)) (fun y s₄ h₄ => ?_) fun _ _ e => e.elim
      obtain ⟨hFy, hfy, K₄⟩ := h₄
      have W₄ := W₃.on K₄
      have hF₄ := hup hF₃ fun b o _ e => K₄.heap b o e
      have hys : ys.size ≤ sizeLine := by
        have e1 := hF.length
        have e2 : ((its.take i).filter p).length ≤ (its.take i).length := List.length_filter_le _ _
        have e3 : (its.take i).length ≤ its.length := by rw [List.length_take]; omega
        have e4 : ys.toList.length = ys.size := by simp
        omega
      refine yAppend W₄ hDn ho' (fun h₅ tk₅ o₅ W₅ hs₅ ho₅ => ?_) hys
      have hF₅ := hup hF₄ fun b o hb e => hs₅.extBut b o (Ne.symm (Nat.ne_of_lt (Nat.lt_trans hDC hb))) e
      refine ⟨n + 1 - (i + 1), by omega, i + 1, _, o₅, ys.push y, rfl, hlt, (show At s₀ C _ ([(D, o₅)] ++ heldAt h₁ wr) _ from W₅).dropR, ho₅, hst_of _ _ _ W₅, ?_⟩
      rw [take_succ_filter p _ i a hia, hpa]
      have hFy' : F a y h₅ := q.mono a y _ _ hFy fun b hb o e => hs₅.extBut b o (Ne.symm (Nat.ne_of_lt (Nat.lt_trans hDC (hfy b hb)))) e
      simpa using Paired.snoc hF₅ ⟨hFy', hfy⟩
  · have hin : i = n := by omega
    subst hin
    refine W.done _ _ _ hst' fun h₁ tk₁ hk₁ => ?_
    refine hR m' ys o' _ (hkeep h₁ tk₁ hk₁) ho' ?_
    have := hup hF fun b o hb e => hk₁ b o (hgw b hb) e
    rwa [List.take_of_length_le (by omega)] at this
end
end Mine

namespace Mine

theorem At.gone {s₀ s : Shared} {L m ns} {C : Addr} {h' : Heap} (W : At s₀ L m ns s) (hs : Heap.SameBut C s.heap h') (hC : C ≠ L) (h0 : s₀.heap.get? C = none) (hn : C ∉ ns.map (·.1)) : At s₀ L m ns { s with heap := h' } :=
  W.but (tk := s.toks) hs hC h0 hn
theorem Kp.gone {s s' : Shared} {C : Addr} {h' : Heap} (K : Kp s s') (hs : Heap.SameBut C s'.heap h') (h0 : s.heap.get? C = none) : Kp s { s' with heap := h' } :=
  ⟨fun b o e => hs.extBut b o (fun q => by rw [q, h0] at e; cases e) (K.heap b o e), K.gens, K.bare, K.os⟩

section
variable {w : World} {A : Around} {E : Value → Shared → Prop} {env : Env}

structure Given {α : Type} (w : World) (A : Around) (I : Addr) (its : List α) (PA : α → Value → Prop) (s₀ s₂ : Shared) : Prop where
  small : its.length ≤ sizeLine
  ge : s₀.heap.objs.size ≤ s₂.heap.objs.size
  kp : Kp s₀ s₂
  ex : ∃ fp wr n P St, Walks prg w A I fp wr n P St ∧ n = its.length ∧ (∀ i v, P i v → ∃ a, its[i]? = some a ∧ PA a v) ∧ St 0 s₂.heap ∧ (∀ b ∈ wr, s₀.heap.get? b = none ∧ b < s₂.heap.objs.size) ∧ (∀ b ∈ fp, b ∈ wr ∨ ∃ o, s₀.heap.get? b = some o)

set_option maxHeartbeats 2000000 in
theorem comp_block {α : Type} {elt iter : Expr} {x : Str} {px : Pos} {ifs : List Expr} {scope : Scope} {cl : List (Str × Addr)} {pos : Pos} {s₀ s₂ : Shared} {I : Addr}
    {its : List α} {PA : α → Value → Prop} {p : α → Bool} {F : α → Value → Heap → Prop} {RR : Value → Addr → Result → Shared → Prop}
    (G : Given w A I its PA s₀ s₂) (q : Quiet w A (fun C => compEnvC scope cl C env) x ifs elt its PA p F s₀)
    (hcell : ∀ y ∈ scope.names, y.2 ≠ .cell) (hkind : scope.kind = .function) (hx : scope.names.lookup x = some .local)
    (hRR : ∀ D C m' ys o' s', D < C → s₀.heap.objs.size ≤ D → At s₀ C m' [(D, o')] s' → ListObj o' ys → Paired (fun a y => F a y s'.heap ∧ ∀ b ∈ footV y, C < b) (its.filter p) ys.toList → RR (.ref D) C (.ok .next) s') :
    wpAny (model prg w) A (newList []) (fun acc s₃ => wpAny (model prg w) A (newFunctionEnv scope env.globals cl [] env.qual none .none (some env)) (fun cenv s₄ =>
      codeAny (model prg w) A (.compStart (.ListComp elt [⟨.Name x px, iter, ifs, 0⟩] scope pos) 0 (.ref I) acc { cenv with scope := relabel scope env }) (RR acc cenv.locals) s₄) E s₃) E s₂ := by
  obtain ⟨hsz, hsz0, K, fp, wr, n, P, St, W, hn, hP, hst, hwr, hfp⟩ := G
  refine wpAny_newObj_type (wpAny_newFunctionEnv hcell (by intro y hy; simp at hy) (fun h₁ hns₁ hsb₁ => ?_) hkind)
  dsimp only at hns₁ hsb₁ ⊢
  generalize hH2 : s₂.heap.push { cls := .type "list", dict := none, data := .seq ([] : List Value).toArray } = H2 at hns₁ hsb₁ ⊢
  have hC : H2.objs.size = s₂.heap.objs.size + 1 := by rw [← hH2, Heap.size_push]
  have hDC : s₂.heap.objs.size < H2.objs.size := by rw [hC]; exact Nat.lt_succ_self _
  have old : ∀ b o, s₂.heap.get? b = some o → h₁.get? b = some o := fun b o e =>
    hsb₁.extBut b o (Nat.ne_of_lt (Nat.lt_trans (Heap.lt_size e) hDC)) (Heap.get?_push_of_some _ (hH2 ▸ Heap.get?_push_of_some _ e))
  have hacc : h₁.get? s₂.heap.objs.size = some { cls := .type "list", dict := none, data := .seq ([] : List Value).toArray } := hsb₁.extBut _ _ (Nat.ne_of_lt hDC) (Heap.get?_push_of_some _ (hH2 ▸ Heap.get?_push_size _ rfl))
  have hst₁ : St 0 h₁ := W.frame _ _ _ hst fun b _ o e => old b o e
  have loop : ∀ s₃ : Shared, s₃ = { s₂ with heap := h₁, toks := s₂.toks + ([] : List (Str × Value)).length } →
      codeAny (model prg w) A (.compLoop (.ListComp elt [⟨.Name x px, iter, ifs, 0⟩] scope pos) 0 (.ref I) (.ref s₂.heap.objs.size) (compEnvC scope cl H2.objs.size env))
        (RR (.ref s₂.heap.objs.size) H2.objs.size) s₃ := by
    rintro s₃ rfl
    refine comp_loop (cE := fun C => compEnvC scope cl C env) (C := H2.objs.size) (m := fun x => ([] : List (Str × Value)).reverse.lookup x) (o := { cls := .type "list", dict := none, data := .seq ([] : List Value).toArray }) (s₀ := s₀) (cenv := compEnvC scope cl H2.objs.size env) W hn hP q rfl rfl (lookup_relabel_local hx) (by show (relabel scope env).kind = .function; exact hkind) hsz
      (fun b hb => hwr b hb) hDC hfp hst₁ ⟨⟨hns₁, fun b o e => old b o (K.heap b o e), Nat.le_trans hsz0 (Nat.le_of_lt hDC)⟩, ?_, K.gens, K.bare, K.os⟩ ⟨rfl, rfl, 0, rfl⟩ fun m' ys o' s' W' ho' hF => hRR _ _ m' ys o' s' hDC hsz0 W' ho' hF
    intro z hz
    rw [List.mem_singleton.mp hz]
    exact ⟨hacc, Nat.ne_of_lt hDC, fresh_of hsz0⟩
  exact codeAny_compStart_list (loop _ rfl) (W.self 0 _ _ _ hst₁ (loop _ rfl))

theorem xComp {α : Type} {elt iter : Expr} {x : Str} {px : Pos} {ifs : List Expr} {scope : Scope} {cl : List (Str × Addr)} {pos : Pos} {s : Shared} {Q : Value → Shared → Prop}
    (its : List α) (PA : α → Value → Prop) (p : α → Bool) (F : α → Value → Heap → Prop)
    (hclos : closureFor scope env = pure cl)
    (h : wpAny (model prg w) A (eval iter env) (fun xv s₁ => wpAny (model prg w) A (pyIter xv) (fun it s₂ => ∃ I s₀, it = .ref I ∧ Given w A I its PA s₀ s₂ ∧ Quiet w A (fun C => compEnvC scope cl C env) x ifs elt its PA p F s₀ ∧
      (∀ D o ys s', Kp s₀ s' → s'.heap.get? D = some o → s₀.heap.objs.size ≤ D → ListObj o ys → Paired (fun a y => F a y s'.heap ∧ ∀ b ∈ footV y, D < b) (its.filter p) ys.toList → Q (.ref D) s')) E s₁) E s)
    (hcell : ∀ y ∈ scope.names, y.2 ≠ .cell := by decide) (hkind : scope.kind = .function := by rfl)
    (hnames : ∀ y ∈ scope.names, y.2 = .local → scope.names.lookup y.1 = some .local := by decide) (hx : scope.names.lookup x = some .local := by rfl)
    (hs : ∀ x, foldedSetIterable iter env x = pure x := by intro _; rfl) :
    wpAny (model prg w) A (eval (.ListComp elt [⟨.Name x px, iter, ifs, 0⟩] scope pos) env) Q E s := by
  rw [eval_ListComp]
  refine wpAny_comprehension_free (use := none) rfl hs hclos hkind hnames (wpAny_mono h (fun xv s₁ h₁ => wpAny_mono h₁ (fun it s₂ h₂ => ?_) fun _ _ e => e) fun _ _ e => e)
  obtain ⟨I, s₀, rfl, G, q, hQ⟩ := h₂
  refine comp_block (RR := fun acc C => compPost (model prg w) A E none Q acc C) G q hcell hkind hx ?_
  intro D C m' ys o' s' hDC hD W ho hF
  refine ⟨m', W.fr.ns, fun h' hs' => hQ D o' ys _ (W.kp.gone hs' (fresh_of W.fr.above)) (hs'.extBut _ _ (Nat.ne_of_lt hDC) (W.nw (D, o') (List.mem_singleton.mpr rfl)).1) hD ho ?_⟩
  exact Paired.mono (fun a y z => ⟨q.mono a y _ _ z.1 fun b hb o e => hs'.extBut b o (Ne.symm (Nat.ne_of_lt (z.2 b hb))) e, fun b hb => Nat.lt_trans hDC (z.2 b hb)⟩) hF

/-- a comprehension whose list goes straight into a local -/
theorem xCompTo {α : Type} {elt iter : Expr} {x y : Str} {px py : Pos} {ifs : List Expr} {scope : Scope} {cl : List (Str × Addr)} {pos spos : Pos} {s s₀ : Shared} {L : Addr} {m : Str → Option Value} {ns : List (Addr × Obj)} {Q : Flow → Shared → Prop}
    (its : List α) (PA : α → Value → Prop) (p : α → Bool) (F : α → Value → Heap → Prop)
    (hclos : closureFor scope env = pure cl)
    (h : wpAny (model prg w) A (eval iter env) (fun xv s₁ => wpAny (model prg w) A (pyIter xv) (fun it s₂ => ∃ I s₃, it = .ref I ∧ Given w A I its PA s₃ s₂ ∧ Quiet w A (fun C => compEnvC scope cl C env) x ifs elt its PA p F s₃ ∧ At s₀ L m ns s₃ ∧
      (∀ D o ys s', At s₀ L (fun z => if z = y then some (.ref D) else m z) ((D, o) :: ns) s' → s₃.heap.objs.size ≤ D → ListObj o ys → Paired (fun a y => F a y s'.heap ∧ ∀ b ∈ footV y, D < b) (its.filter p) ys.toList → Q .next s')) E s₁) E s)
    (hsw : swapsWith (.ListComp elt [⟨.Name x px, iter, ifs, 0⟩] scope pos) (some (.Name y py)) spos.line env = pure true := by rfl)
    (hL : env.locals = L := by rfl) (hek : env.scope.kind = .function := by rfl) (hy : env.kindOf y = some .local := by rfl)
    (hcell : ∀ y ∈ scope.names, y.2 ≠ .cell := by decide) (hkind : scope.kind = .function := by rfl)
    (hnames : ∀ y ∈ scope.names, y.2 = .local → scope.names.lookup y.1 = some .local := by decide) (hx : scope.names.lookup x = some .local := by rfl)
    (hs : ∀ x, foldedSetIterable iter env x = pure x := by intro _; rfl) :
    wpAny (model prg w) A (exec (.Assign [.Name y py] (.ListComp elt [⟨.Name x px, iter, ifs, 0⟩] scope pos) spos) env) Q E s := by
  rw [exec_Assign_Name_used _ _ _ _ hsw]
  refine wpAny_bind (wpAny_standAt (wpAny_bind ?_))
  show wpAny _ A (do let _ ← comprehension (.ListComp elt [⟨.Name x px, iter, ifs, 0⟩] scope pos) scope env _ (newList []) false (eval iter env) (some (assign (.Name y py) env))) _ _ s
  refine wpAny_bind (wpAny_mono (wpAny_comprehension_free (use := some (assign (.Name y py) env)) (Q := fun _ s' => Q .next s') rfl hs hclos hkind hnames
    (wpAny_mono h (fun xv s₁ h₁ => wpAny_mono h₁ (fun it s₂ h₂ => ?_) fun _ _ e => e) fun _ _ e => e)) (fun _ s' hq => wpAny_pure (wpAny_pure hq)) fun _ _ e => e)
  obtain ⟨I, s₃, rfl, G, q, W, hQ⟩ := h₂
  refine comp_block (RR := fun acc C => compPost (model prg w) A E (some (assign (.Name y py) env)) (fun _ s' => Q .next s') acc C) G q hcell hkind hx ?_
  intro D C m' ys o' s' hDC hD W' ho hF
  have hLs : L < s₃.heap.objs.size := W.fr.ns.lt
  have hLD : L < D := Nat.lt_of_lt_of_le hLs hD
  have hLC : L < C := Nat.lt_trans hLD hDC
  have h0 : ∀ b, s₃.heap.objs.size ≤ b → s₀.heap.get? b = none := fun b hb => W.kp.absent (fresh_of hb)
  show wpAny _ A (assign (.Name y py) env (.ref D)) _ _ _
  obtain ⟨oC, hoC⟩ : ∃ o, s'.heap.get? C = some o := let ⟨o, _, _, e, _⟩ := W'.fr.ns; ⟨o, e⟩
  have W₁ : At s₀ L m ((D, o') :: ns) s' := (W.on W'.kp).more (W'.nw (D, o') (List.mem_singleton.mpr rfl)).1 (h0 D hD) (Ne.symm (Nat.ne_of_lt hLD))
  refine wpAny_assign_Name (ySt_raw W₁ hL hek hy fun h₂ tk W₂ hs₂ => ?_)
  have hnC : C ∉ ((D, o') :: ns).map (·.1) := by
    intro hm
    rcases List.mem_cons.mp hm with e | hm
    · exact absurd hDC (by rw [show C = D from e]; exact Nat.lt_irrefl _)
    · obtain ⟨z, hz, e⟩ := List.mem_map.mp hm
      have := Heap.lt_size (W.nw z hz).1
      rw [e] at this
      exact absurd (Nat.lt_of_lt_of_le (Nat.lt_trans this (Nat.lt_of_le_of_lt hD hDC)) (Nat.le_refl _)) (Nat.lt_irrefl _)
  refine ⟨m', W'.fr.ns.sameBut hs₂ (Ne.symm (Nat.ne_of_lt hLC)), fun h₃ hs₃ => ?_⟩
  refine hQ D o' ys _ (W₂.gone hs₃ (Ne.symm (Nat.ne_of_lt hLC)) (h0 C (Nat.le_trans hD (Nat.le_of_lt hDC))) hnC) hD ho ?_
  exact Paired.mono (fun a y z => ⟨q.mono a y _ _ z.1 fun b hb o e => hs₃.extBut b o (Ne.symm (Nat.ne_of_lt (z.2 b hb))) (hs₂.extBut b o (Ne.symm (Nat.ne_of_lt (Nat.lt_trans hLC (z.2 b hb)))) e), fun b hb => Nat.lt_trans hDC (z.2 b hb)⟩) hF
end
end Mine

namespace Mine

section
variable {w : World} {A : Around} {E : Value → Shared → Prop} {s : Shared} {Q : Value → Shared → Prop}

structure Given1 {α : Type} (w : World) (A : Around) (I : Addr) (its : List α) (PA : α → Value → Prop) (s₀ s₂ : Shared) : Prop where
  small : its.length ≤ sizeLine
  ge : s₀.heap.objs.size ≤ s₂.heap.objs.size
  kp : Kp s₀ s₂
  ex : ∃ n P St, Walks prg w A I [I] [I] n P St ∧ n = its.length ∧ (∀ i v, P i v → ∃ a, its[i]? = some a ∧ PA a v) ∧ St 0 s₂.heap ∧ s₀.heap.get? I = none ∧ I < s₂.heap.objs.size
theorem Given1.given {α : Type} {w : World} {A : Around} {I : Addr} {its : List α} {PA : α → Value → Prop} {s₀ s₂ : Shared} (G : Given1 w A I its PA s₀ s₂) : Given w A I its PA s₀ s₂ :=
  let ⟨n, P, St, W, hn, hP, hst, h0, h1⟩ := G.ex
  ⟨G.small, G.ge, G.kp, [I], [I], n, P, St, W, hn, hP, hst, fun b hb => by rw [List.mem_singleton.mp hb]; exact ⟨h0, h1⟩, fun b hb => .inl hb⟩

theorem kp_push (s : Shared) (o : Obj) (tk : Nat) : Kp s { s with heap := s.heap.push o, toks := tk } := ⟨fun _ _ e => Heap.get?_push_of_some _ e, fun _ _ e => e, id, rfl⟩
theorem kp_push' (s : Shared) (o : Obj) : Kp s { s with heap := s.heap.push o } := kp_push s o s.toks

theorem iterList {α : Type} {its : List α} {PA : α → Value → Prop} {ax : Addr} {items : Array Value} (hl : s.heap.IsList ax items) (hh : A.handled = none) (hn : items.size = its.length) (hP : ∀ (i : Nat) v, items[i]? = some v → ∃ a, its[i]? = some a ∧ PA a v) (hsz : its.length ≤ sizeLine)
    (h : ∀ I s', Given w A I its PA s s' → Q (.ref I) s') : wpAny (model prg w) A (pyIter (.ref ax)) Q E s := by
  obtain ⟨o, ho, _⟩ := id hl
  refine wpAny_pyIter_list hl (h _ _ ⟨hsz, ?_, kp_push' s _, _, _, _, _, _, Walks.list hh s.heap.objs.size ax (Nat.ne_of_lt (Heap.lt_size ho)) items, hn, hP, ⟨⟨_, Heap.get?_push_size _ rfl, rfl, rfl⟩, hl.push _⟩, fun b hb => ?_, fun b hb => ?_⟩)
  · show _ ≤ (s.heap.push _).objs.size; rw [Heap.size_push]; exact Nat.le_succ _
  · rw [List.mem_singleton.mp hb]; refine ⟨fresh_of (Nat.le_refl _), ?_⟩
    show _ < (s.heap.push _).objs.size; rw [Heap.size_push]; exact Nat.lt_succ_self _
  · rcases List.mem_cons.mp hb with rfl | hb
    · exact .inl (List.mem_singleton.mpr rfl)
    · rw [List.mem_singleton.mp hb]; exact .inr ⟨o, ho⟩

theorem iterStr {l : List Nat} {t : Tok} (hh : A.handled = none) (hsz : l.length ≤ sizeLine)
    (h : ∀ I s', Given w A I l (fun c v => ∃ u, v = .str (S [c]) u) s s' → Q (.ref I) s') : wpAny (model prg w) A (pyIter (.str (S l) t)) Q E s := by
  refine wpAny_pyIter_str fun o St W hst => h _ _ ⟨hsz, ?_, kp_push' s _, _, _, _, _, _, W A hh, by simp [S], fun i v hv => ?_, hst, fun b hb => ?_, fun b hb => .inl hb⟩
  · show _ ≤ (s.heap.push _).objs.size; rw [Heap.size_push]; exact Nat.le_succ _
  · obtain ⟨c, u, hc, rfl⟩ := hv
    exact ⟨c, by simpa [S] using hc, u, rfl⟩
  · rw [List.mem_singleton.mp hb]; refine ⟨fresh_of (Nat.le_refl _), ?_⟩
    show _ < (s.heap.push _).objs.size; rw [Heap.size_push]; exact Nat.lt_succ_self _

theorem iterRange {n : Nat} {t : Tok} (hh : A.handled = none) (hn : n ≤ 1000)
    (h : ∀ I s₁ s', Kp s s₁ → Given1 w A I (List.range n) (fun i v => ∃ u, v = .int (i : Int) u) s₁ s' → Q (.ref I) s') :
    wpAny (model prg w) A (call (.type "range") [.int n t]) (fun xv s₁ => wpAny (model prg w) A (pyIter xv) Q E s₁) E s := by
  refine call_range_1 ?_
  have hrs : Builtin.Range.rangeSize 0 (n : Int) 1 = (n : Int) := by rw [rangeSize_one]; split <;> omega
  have K := kp_push s { cls := .type "range", data := .fields #[.int 0 s.toks, .int n t, .int 1 (s.toks + 1)] } (s.toks + 1 + 1)
  have hr := IsRange.new s.heap 0 n 1 s.toks t (s.toks + 1)
  generalize s.heap.push { cls := .type "range", data := .fields #[.int 0 s.toks, .int n t, .int 1 (s.toks + 1)] } = h₁ at K hr
  refine wpAny_pyIter_range hr (small_one (by decide) (by decide) (by omega) (by omega)) ?_
  refine h _ _ _ K ⟨by rw [List.length_range, sizeLine_eq]; omega, ?_, kp_push' _ _, _, _, _, (Walks.range hh _ 0 1 n).bound, by simp, fun i v hv => ?_, ?_, fresh_of (Nat.le_refl _), ?_⟩
  · show _ ≤ (Heap.push _ _).objs.size; rw [Heap.size_push]; exact Nat.le_succ _
  · obtain ⟨hi, t, rfl⟩ := hv
    exact ⟨i, by simp [hi], t, by simp⟩
  · rw [hrs]; show IsRangeIter _ _ _ _ _; simpa using Heap.get?_push_size _ rfl
  · show _ < (Heap.push _ _).objs.size; rw [Heap.size_push]; exact Nat.lt_succ_self _
end

section
variable {w : World} {A : Around} {s₀ s₁ s : Shared} {env : Env} {L : Addr} {m : Str → Option Value} {ns : List (Addr × Obj)}

set_option maxHeartbeats 2000000 in
theorem forWalk {α : Type} {x : Str} {px : Pos} {body : List Stmt} {Q : Flow → Shared → Prop} {I : Addr} {its : List α} {PA : α → Value → Prop}
    (J : List α → (Str → Option Value) → Prop) (JR : Value → Prop)
    (G : Given1 w A I its PA s₁ s) (W : At s₀ L m ns s₁) (hJ : J its m)
    (turn : ∀ a r m' held s₂ v, J (a :: r) m' → PA a v → At s₀ L (fun y => if y = x then some v else m' y) (ns ++ held) s₂ → (∀ p ∈ held, p.1 ∉ ns.map (·.1)) →
      wpAny (model prg w) A (execs body env) (fun f s₃ => match f with
        | .next => ∃ m'', At s₀ L m'' (ns ++ held) s₃ ∧ J r m''
        | .ret v => (∃ m'' ns'', At s₀ L m'' ns'' s₃) ∧ JR v
        | _ => False) NoE s₂)
    (done : ∀ m' s', J [] m' → At s₀ L m' ns s' → Q .next s')
    (ret : ∀ v m' ns' s', JR v → At s₀ L m' ns' s' → Q (.ret v) s')
    (hL : env.locals = L := by rfl) (hks : env.scope.kind = .function := by rfl) (hx : env.kindOf x = some .local := by rfl) :
    codeAny (model prg w) A (.forLoop (.Name x px) (.ref I) body [] env) (fun r s' => match r with | .ok f => Q f s' | .error _ => False) s := by
  obtain ⟨hsz, hge, K, n, P, St, Wk, hn, hP, hst, hI1, hIs⟩ := G
  have hIL : I ≠ L := fun e => by
    obtain ⟨o, _, _, ho, _⟩ := W.fr.ns
    rw [← e, hI1] at ho; cases ho
  have hI0 : s₀.heap.get? I = none := W.kp.absent hI1
  have hIn : I ∉ ns.map (·.1) := fun hm => by
    obtain ⟨z, hz, e⟩ := List.mem_map.mp hm
    have := (W.nw z hz).1
    rw [e, hI1] at this; cases this
  refine codeAny_forLoop_any (fun k s' => ∃ i m', k = n - i ∧ i ≤ n ∧ At s₀ L m' ns s' ∧ St i s'.heap ∧ J (its.drop i) m') ?_ n
    ⟨0, m, rfl, Nat.zero_le _, W.on K, hst, by simpa using hJ⟩
  rintro k s' ⟨i, m', rfl, hi, W', hst', hJ'⟩
  have hkeep : ∀ (h' : Heap) (tk : Nat), (∀ b o, b ∉ [I] → s'.heap.get? b = some o → h'.get? b = some o) → At s₀ L m' ns { s' with heap := h', toks := tk } := fun h' tk hk' =>
    ⟨⟨W'.fr.ns.at' fun o e => hk' _ o (fun hb => hIL (List.mem_singleton.mp hb).symm) e, fun b o e => hk' b o (fun hb => by rw [List.mem_singleton.mp hb, hI0] at e; cases e) (W'.fr.keep b o e), W'.fr.above⟩,
      fun z hz => ⟨hk' _ _ (fun hb => hIn (by rw [← List.mem_singleton.mp hb]; exact List.mem_map_of_mem hz)) (W'.nw z hz).1, (W'.nw z hz).2⟩, W'.gens, W'.bare, W'.os⟩
  by_cases hlt : i < n
  · refine Wk.item i _ _ _ hlt hst' fun v h₁ tk₁ hPv hst₁ hk₁ => ?_
    obtain ⟨a, hia, hPa⟩ := hP i v hPv
    have hdrop : its.drop i = a :: its.drop (i + 1) := by
      obtain ⟨hi', rfl⟩ := List.getElem?_eq_some_iff.mp hia
      exact List.drop_eq_getElem_cons hi'
    have W₁ := hkeep h₁ tk₁ hk₁
    have W₁' : At s₀ L m' (ns ++ heldAt h₁ [I]) { s' with heap := h₁, toks := tk₁ } := by
      refine ⟨W₁.fr, fun z hz => ?_, W₁.gens, W₁.bare, W₁.os⟩
      rcases List.mem_append.mp hz with hz | hz
      · exact W₁.nw _ hz
      · obtain ⟨hb, e⟩ := mem_heldAt.mp hz
        rw [List.mem_singleton.mp hb] at e ⊢
        exact ⟨e, hIL, hI0⟩
    refine wpAny_pure ?_
    refine wpAny_assign_Name (ySt_raw W₁' hL hks hx fun h₂ tk₂ W₂ hs₂ => ?_)
    rw [hdrop] at hJ'
    refine wpAny_mono (turn a _ m' _ _ v hJ' hPa W₂ fun z hz => ?_) (fun f s₃ h₃ => ?_) fun _ _ e => e.elim
    · rw [List.mem_singleton.mp (mem_heldAt.mp hz).1]; exact hIn
    · cases f with
      | next =>
        obtain ⟨m'', W₃, hJ₃⟩ := h₃
        refine ⟨n - (i + 1), by omega, i + 1, m'', rfl, hlt, W₃.dropR, Wk.frame _ _ _ hst₁ fun b hb o e => ?_, hJ₃⟩
        exact (W₃.nw (b, o) (List.mem_append_right _ (mem_heldAt.mpr ⟨hb, e⟩))).1
      | ret v =>
        obtain ⟨⟨m'', ns'', W₃⟩, hv⟩ := h₃
        exact ret v m'' ns'' s₃ hv W₃
      | brk => exact h₃.elim
      | cont => exact h₃.elim
  · have hin : i = n := by omega
    subst hin
    refine Wk.done _ _ _ hst' fun h₁ tk₁ hk₁ => ?_
    refine wpAny_execs_nil (done m' _ ?_ (hkeep h₁ tk₁ hk₁))
    rwa [List.drop_eq_nil_of_le (by omega)] at hJ'
end
end Mine

namespace Mine

section
variable {w : World} {A : Around} {E : Value → Shared → Prop} {s : Shared} {env : Env} {pos : Pos} {k : Nat} {Q : Value → Shared → Prop}
theorem kInt {i : Int} (h : ∀ s' t, Kp s s' → Q (.int i t) s') : wpAny (model prg w) A (eval (.Constant (.int i) k pos) env) Q E s := wpAny_Constant_int (h _ _ (Kp.toks s _))
theorem kStr {y : Str} (h : ∀ s' t, Kp s s' → Q (.str y t) s') : wpAny (model prg w) A (eval (.Constant (.str y) k pos) env) Q E s := Calls.Constant_str (h _ _ (Kp.toks s _))
theorem kAddI {a b : Int} {t u : Tok} (h : ∀ s' t, Kp s s' → Q (.int (a + b) t) s') : wpAny (model prg w) A (binaryOp .Add (.int a t) (.int b u)) Q E s := add_int (h _ _ (Kp.toks s _))
theorem kModI {a b : Int} {t u : Tok} (hb : b ≠ 0) (h : ∀ s' t, Kp s s' → Q (.int (a.fmod b) t) s') : wpAny (model prg w) A (binaryOp .Mod (.int a t) (.int b u)) Q E s := mod_int hb (h _ _ (Kp.toks s _))
theorem kAddS {x y : Str} {t u : Tok} (hsz : x.length + y.length ≤ sizeLine) (h : ∀ s' t, Kp s s' → Q (.str (x ++ y) t) s') : wpAny (model prg w) A (binaryOp .Add (.str x t) (.str y u)) Q E s := add_str (fun _ _ => h _ _ (Kp.toks s _)) hsz
theorem kMulS {l : List Nat} {n : Int} {t u : Tok} (hl : l.length ≤ 1000) (hn : n ≤ 1000) (hn0 : -1000 ≤ n) (h : ∀ s' t, Kp s s' → Q (.str (S (List.replicate n.toNat l).flatten) t) s') :
    wpAny (model prg w) A (binaryOp .Mult (.str (S l) t) (.int n u)) Q E s := by
  refine SB.mul ⟨?_, fun h1 _ => ?_, fun _ _ => ?_⟩ fun t' k => ?_
  · rw [Bool.or_eq_false_iff]; exact ⟨decide_eq_false (by omega), decide_eq_false (by omega)⟩
  · rw [S_length]
    have : (1000 : Int) ≤ (2 ^ 63 - 1) / n := by
      rw [Int.le_ediv_iff_mul_le (by omega)]; omega
    omega
  · rw [S_length]
    have : l.length * n.toNat ≤ 1000 * 1000 := Nat.mul_le_mul hl (by omega)
    unfold Builtin.Str.tooLong
    exact decide_eq_false (by rw [sizeLine_eq]; omega)
  · rw [mul_S]; exact h _ _ (Kp.toks s k)
end

def StrItems (ys : Array Value) (ls : List (List Nat)) : Prop := ∃ l : List (Str × Tok), ys = (strValues l).toArray ∧ l.map (·.1) = ls.map S
theorem StrItems.of_paired {α : Type} {F : α → Value → Prop} {f : α → List Nat} (hF : ∀ a v, F a v → ∃ t, v = .str (S (f a)) t) : ∀ {its : List α} {ys : List Value}, Paired F its ys → ∃ l : List (Str × Tok), ys = strValues l ∧ l.map (·.1) = (its.map f).map S
  | _, _, .nil => ⟨[], rfl, rfl⟩
  | _, _, .cons h t => by
    obtain ⟨u, rfl⟩ := hF _ _ h
    obtain ⟨l, rfl, e⟩ := of_paired hF t
    exact ⟨(S _, u) :: l, rfl, by simp [e]⟩
theorem StrItems.paired {α : Type} {F : α → Value → Prop} {f : α → List Nat} {its : List α} {ys : Array Value} (hF : ∀ a v, F a v → ∃ t, v = .str (S (f a)) t) (h : Paired F its ys.toList) : StrItems ys (its.map f) := by
  obtain ⟨l, e, e'⟩ := StrItems.of_paired hF h
  exact ⟨l, by rw [← e], e'⟩

section
variable {w : World} {A : Around} {E : Value → Shared → Prop} {s s₀ : Shared} {L : Addr} {m : Str → Option Value} {ns : List (Addr × Obj)} {env : Env} {pos : Pos} {Q : Value → Shared → Prop}

/-- "".join of what an expression gives -/
theorem xJoin {e : Expr} {apos : Pos} {k : Nat} {cp : Pos} (W : At s₀ L m ns s)
    (h : ∀ s₁, At s₀ L m ns s₁ → wpAny (model prg w) A (eval e env) (fun v s₂ => ∃ r o ys ls B, v = .ref r ∧ s₂.heap.get? r = some o ∧ ListObj o ys ∧ StrItems ys ls ∧ (∀ y ∈ ls, y.length ≤ B) ∧ ls.length * B ≤ 16777216 ∧
      ∀ s' t, Kp s₂ s' → Q (.str (S ls.flatten) t) s') E s₁)
    (hbase : attributeBase (.Constant (.str "") k cp) "join" env (eval (.Constant (.str "") k cp) env) = eval (.Constant (.str "") k cp) env := by rfl) (hs : starEach [e] env = [(false, eval e env)] := by rfl) (hline : (apos.endLine == pos.line) = true := by rfl) :
    wpAny (model prg w) A (eval (.Call (.Attribute (.Constant (.str "") k cp) "join" apos) [e] [] pos) env) Q E s := by
  refine Call_method1 hbase hs hline (Calls.Constant_str (SB.join (wpAny_mono (h _ (W.tok _)) (fun v s₂ h₂ => ?_) fun _ _ q => q)))
  obtain ⟨r, o, ys, ls, B, rfl, ho, hl, ⟨l, rfl, hm⟩, hB, hsz, hq⟩ := h₂
  refine ⟨r, l, rfl, hl.isList ho, ls.map S, hm, joinOk_small (B := B) (fun y hy => ?_) ?_, fun t' k => ?_⟩
  · obtain ⟨z, hz, rfl⟩ := List.mem_map.mp hy
    rw [S_length]; exact hB z hz
  · rw [List.length_map]; exact hsz
  · rw [join_nil_S]; exact hq _ _ (Kp.toks s₂ k)

theorem xSplit {a : Sem Value} {x : List Nat} {y : Str} {t : Tok} (hy : (y.length == 0) = false) (hx : x.length ≤ 1000)
    (h : wpAny (model prg w) A a (fun v s₁ => ∃ u, v = .str y u ∧ At s₀ L m ns s₁ ∧ ∀ D o l s', At s₀ L m ((D, o) :: ns) s' → ListObj o (strValues l).toArray → l.map (·.1) = Txt.split (S x) y → D ∉ ns.map (·.1) → Q (.ref D) s') E s) :
    MethodOnS prg w A E "split" (.str (S x) t) pos [(false, a)] Q s := by
  refine ⟨"str", _, F.plainAttrs_str, F.slot_str_split, F.type_str_split, typeIs_str _ _ _, (fun _ e => nomatch e), Calls.callWith_builtin rfl (Calls.evalArgs_plain (Calls.spliced_cons (wpAny_mono h (fun v s₁ h₁ => Calls.spliced_nil ?_) fun _ _ q => q)))⟩
  obtain ⟨u, rfl, W, hq⟩ := h₁
  refine splitN1 W.fr W.nw hy (fun l h' k hl F' N' => hq _ _ l _ (W.to (tk := k) F' N') ⟨rfl, rfl, 0, rfl⟩ hl fun hm => ?_) (by rw [S_length, sizeLine_eq]; omega)
  obtain ⟨z, hz, e⟩ := List.mem_map.mp hm
  exact absurd (Heap.lt_size (W.nw z hz).1) (e ▸ Nat.lt_irrefl _)

theorem testOne {env : Env} {c : Expr} {Q : Bool → Shared → Prop} (h : wpAny (model prg w) A (isTrue c env (eval c env)) Q E s) :
    wpAny (model prg w) A (forIn [c] true fun c r => if r = true then do let ok ← isTrue c env (eval c env); pure (ForInStep.yield ok) else pure (ForInStep.yield r)) Q E s := wpAny_tests_one h
end

theorem contains_one (x : List Nat) (c : Nat) : Txt.contains (S x) (S [c]) = decide (c ∈ x) := by
  unfold Txt.contains
  rw [show (S [c]) = ⟨#[c]⟩ from rfl, StrLaws.found_one, S_toList]

theorem q4041 : ("()" : Str) = S [40, 41] := by decide +kernel
theorem flatten_single : ∀ l : List Nat, (l.map fun c => [c]).flatten = l
  | [] => rfl
  | a :: r => by simp [flatten_single r]
noncomputable def rm (l : List Nat) : List Nat := ((Txt.split (S l) (S [40, 41])).map (·.cps.toList)).flatten
noncomputable def rmN : Nat → List Nat → List Nat
  | 0, l => l
  | k + 1, l => rmN k (rm l)
noncomputable def struckP (l : List Nat) : Bool := decide (rmN l.length (l.filter fun c => decide (c ∈ [40, 41])) = [])
theorem rm_le (l : List Nat) : (rm l).length ≤ l.length := by
  have h := split_weight (S l) (S [40, 41]) (by decide)
  have e : (rm l).length = ((Txt.split (S l) (S [40, 41])).map (·.length)).sum := by
    unfold rm
    rw [List.length_flatten, List.map_map]
    rfl
  rw [S_length] at h
  have hp := split_pos (S l) (S [40, 41])
  omega

section
variable {w : World} {A : Around} {s : Shared} {mg mb : Str → Option Value} {Q : Value → Shared → Prop}

theorem split_items {l : List (Str × Tok)} {x y : Str} (h : l.map (·.1) = Txt.split x y) : StrItems (strValues l).toArray ((Txt.split x y).map (·.cps.toList)) :=
  ⟨l, rfl, by rw [h, List.map_map]; conv => lhs; rw [← List.map_id (Txt.split x y)]
              exact List.map_congr_left fun a _ => S_of a⟩

set_option maxHeartbeats 4000000 in
theorem do_struck (T : Top0 w mg mb s.heap) (R : Room A 3) (x : List Nat) (t : Tok) (hx : x.length ≤ 1000) (h : ∀ s', Kp s s' → Q (.bool (struckP x)) s') :
    wpAny (model prg w) A (call (.ref 128) [.str (S x) t]) Q NoE s := by
  refine xEnter T.fStruck T.lim R.lt (x := "row") (fun _ _ _ => by rfl) (fun cd s₁ W => ?_)
  have R' := R.deeper (envOf "_law_struck_out" tStruck.scope s.heap.objs.size 128 (.ref cd))
  generalize hA : A.deeper (envOf "_law_struck_out" tStruck.scope s.heap.objs.size 128 (.ref cd)) = A' at R' ⊢
  refine wpAny_execs_cons ?_
  refine wpAny_Assign_Name ?_
  refine xJoin W fun s₂ W₂ => ?_
  refine xComp (cl := []) x (fun c v => ∃ u, v = .str (S [c]) u) (fun c => decide (c ∈ [40, 41])) (fun c v _ => ∃ u, v = .str (S [c]) u) (by rfl) ?_
  refine xLd W₂ (by rfl) ?_
  refine iterStr R'.hh (by rw [sizeLine_eq]; omega) fun I s₃ G => ?_
  refine ⟨I, s₂, rfl, G, ⟨fun _ _ _ _ h _ => h, ?_, ?_⟩, ?_⟩
  · rintro C c v m ns s' _ ⟨u, rfl⟩ W' hm
    refine testOne (wpAny_isTrue_Compare1 (yLd W' hm (kStr fun s'' u' K'' => ?_)))
    refine SB.contains (wpAny_truthy_bool ?_)
    rw [q4041]
    exact ⟨contains_one _ _, K''⟩
  · rintro C c v m ns s' _ _ ⟨u, rfl⟩ W' hm
    exact yLd W' hm ⟨⟨u, rfl⟩, fun b hb => absurd hb List.not_mem_nil, Kp.refl _⟩
  · intro D o ys s' K ho _ hl hF
    refine ⟨D, o, ys, _, 1, rfl, ho, hl, StrItems.paired (f := fun c => [c]) (fun a v h => h.1) hF, fun y hy => ?_, ?_, ?_⟩
    · obtain ⟨c, _, rfl⟩ := List.mem_map.mp hy
      exact Nat.le_refl _
    · rw [List.length_map]
      have := List.length_filter_le (fun c => decide (c ∈ [40, 41])) x
      omega
    · intro s₄ t₄ K₄
      rw [flatten_single]
      refine xSt (W₂.on (K.trans K₄)) fun s₅ W₅ => ?_
      refine wpAny_execs_cons (wpAny_For ?_)
      refine xCallT W₅ T.g T.nRange T.b ((T.bi _ (by decide)).trans bRange) ?_
      refine xCallB W₅ T.g T.nLen T.b ((T.bi _ (by decide)).trans bLen) (xLd W₅ (by rfl) (len_str ?_ ?_))
      · rw [S_length]; omega
      rw [S_length]
      refine iterRange R'.hh hx fun I₂ s₆ s₇ K₆ G₆ => ?_
      have W₆ := (W₅.tok (s₅.toks + 1 + 1)).on K₆
      refine codeAny_mono (forWalk (J := fun r m' => ∃ l : List Nat, rmN r.length l = rmN x.length (x.filter fun c => decide (c ∈ [40, 41])) ∧ l.length ≤ x.length ∧ ∃ u, m' "brackets" = some (.str (S l) u)) (JR := fun _ => False)
        (Q := fun f s' => match f with
          | .next => wpAny (model prg w) A' (execs (tStruck.body.drop 2) (envOf "_law_struck_out" tStruck.scope s.heap.objs.size 128 (.ref cd))) (fun fl s' => Q (match fl with | .ret v => v | _ => .none) s') NoE s'
          | _ => False) G₆ W₆ ?_ ?_ ?_ ?_) ?_
      · exact ⟨_, by rw [List.length_range], List.length_filter_le _ _, _, by rfl⟩
      · rintro i r m' held s₈ v ⟨l, hl, hlx, u, hm⟩ ⟨iu, rfl⟩ W₈ _
        refine wpAny_execs_cons ?_
        refine wpAny_Assign_Name ?_
        refine xJoin W₈ fun s₉ W₉ => ?_
        refine Call_method1 (by rfl) (by rfl) (by rfl) ?_
        refine xLd W₉ (by exact hm) ?_
        refine xSplit (ns := [] ++ held) (by decide) (by omega) (xStr W₉ fun s₁₀ u₁₀ W₁₀ => ⟨u₁₀, rfl, W₁₀, fun D o l' s₁₁ W₁₁ ho hl' _ => ?_⟩)
        refine ⟨D, o, _, _, 1000, rfl, (W₁₁.nw (D, o) (List.mem_cons_self ..)).1, ho, split_items hl', fun y hy => ?_, ?_, fun s₁₂ t₁₂ K₁₂ => ?_⟩
        · obtain ⟨z, hz, rfl⟩ := List.mem_map.mp hy
          have := part_short hz
          rw [S_length] at this
          exact Nat.le_trans this (by omega)
        · have := split_le (S l) ("()" : Str)
          rw [S_length] at this
          rw [List.length_map]
          calc _ ≤ 1002 * 1000 := Nat.mul_le_mul (by omega) (Nat.le_refl _)
            _ ≤ 16777216 := by decide
        · refine xSt (W₁₁.on K₁₂) fun s₁₃ W₁₃ => wpAny_execs_nil ⟨_, (show At s _ _ ([(D, o)] ++ ([] ++ held)) s₁₃ from W₁₃).drop, rm l, hl, Nat.le_trans (rm_le l) hlx, t₁₂, ?_⟩
          unfold rm
          rw [q4041]; rfl
      · rintro m' s' ⟨l, hl, _, u, hm⟩ W'
        refine wpAny_execs_cons (wpAny_Return_some (wpAny_Compare1 (xLd W' (by exact hm) (xStr W' fun s'' u' W'' => eq_str ?_))))
        rw [beqS l _ [] (by decide +kernel)]
        have : decide (l = []) = struckP x := by
          unfold struckP; rw [← hl]; rfl
        rw [this]
        exact h _ (W''.tok _).kp
      · intro _ _ _ _ hf; exact hf.elim
      · intro rr s' hq'
        cases rr with
        | ok f =>
          cases f with
          | next => exact hq'
          | ret v => exact hq'.elim
          | brk => exact hq'.elim
          | cont => exact hq'.elim
        | error e => exact hq'.elim
end
end Mine

namespace Mine

section
variable {w : World} {A : Around} {E : Value → Shared → Prop} {s s₀ : Shared} {L : Addr} {m : Str → Option Value} {ns : List (Addr × Obj)} {env : Env} {pos : Pos} {Q : Value → Shared → Prop}

theorem xSub {value slice : Expr} (h : wpAny (model prg w) A (eval value env) (fun o s₁ => wpAny (model prg w) A (eval slice env) (fun i s₂ => ItemOn (model prg w) A E o i Q s₂ ∧ ∃ ops, subscripted slice false o i = operate ops (getItem o i)) E s₁) E s) :
    wpAny (model prg w) A (eval (.Subscript value slice pos) env) Q E s := by
  refine Subscript_ (wpAny_mono h (fun o s₁ h₁ => wpAny_mono h₁ (fun i s₂ h₂ => ?_) fun _ _ e => e) fun _ _ e => e)
  obtain ⟨⟨T, id, hl, hT, hg⟩, ops, hs⟩ := h₂
  unfold subscriptTail
  refine wpAny_bind ?_
  rw [getitemInPython_of_ne hT.not_modules]
  refine wpAny_bind (wpAny_specialOf hT hl ?_)
  have fin : wpAny (model prg w) A (subscripted slice false o i) (fun r s₃ => wpAny (model prg w) A (letTemporaryGo value o r >>= fun _ => pure r) Q E s₃) E s₂ := by
    rw [hs]
    exact wpAny_operating (wpAny_mono hg (fun r s₃ h₃ => wpAny_bind (wpAny_letTemporaryGo (wpAny_pure h₃))) fun _ _ x => x)
  first
    | exact wpAny_pure (wpAny_bind fin)
    | exact wpAny_bind (wpAny_pure (wpAny_bind fin))
    | exact wpAny_bind fin

/-- an item of a list by a number -/
theorem xItem {value slice : Expr} (h : wpAny (model prg w) A (eval value env) (fun o s₁ => wpAny (model prg w) A (eval slice env) (fun i s₂ => ∃ r items k u, ∃ j : Nat, ∃ x, o = .ref r ∧ i = .int k u ∧ s₂.heap.IsList r items ∧ items[j]? = some x ∧ (k = j ∨ k = (j : Int) - items.size) ∧ items.size ≤ 100000 ∧ Q x s₂) E s₁) E s)
    (hs : ∀ r k u, ∃ ops, subscripted slice false (.ref r) (.int k u) = operate ops (getItem (.ref r) (.int k u)) := by intro _ _ _; exact ⟨_, by with_unfolding_all rfl⟩) :
    wpAny (model prg w) A (eval (.Subscript value slice pos) env) Q E s := by
  refine xSub (wpAny_mono h (fun o s₁ h₁ => wpAny_mono h₁ (fun i s₂ h₂ => ?_) fun _ _ e => e) fun _ _ e => e)
  obtain ⟨r, items, k, u, j, x, rfl, rfl, hl, hx, hk, hsz, hq⟩ := h₂
  have hj : j < items.size := (Array.getElem?_eq_some_iff.mp hx).1
  refine ⟨⟨"list", _, slot_list_getitem.lookup, hl.typeIs, ?_⟩, hs r k u⟩
  rcases hk with rfl | rfl
  · exact wpAny_getItem_list hl (by omega) (by omega) (by simpa using hx) hq
  · exact wpAny_getItem_list_neg hl (by omega) (by omega) (by omega) (by rw [show ((j : Int) - items.size + items.size).toNat = j by omega]; exact hx) hq

/-- an item of a tuple by a number -/
theorem xItemT {value slice : Expr} (h : wpAny (model prg w) A (eval value env) (fun o s₁ => wpAny (model prg w) A (eval slice env) (fun i s₂ => ∃ r items u, ∃ j : Nat, ∃ x, o = .ref r ∧ i = .int j u ∧ IsTup s₂.heap r items ∧ items[j]? = some x ∧ items.size ≤ 100000 ∧ Q x s₂) E s₁) E s)
    (hs : ∀ r k u, ∃ ops, subscripted slice false (.ref r) (.int k u) = operate ops (getItem (.ref r) (.int k u)) := by intro _ _ _; exact ⟨_, by with_unfolding_all rfl⟩) :
    wpAny (model prg w) A (eval (.Subscript value slice pos) env) Q E s := by
  refine xSub (wpAny_mono h (fun o s₁ h₁ => wpAny_mono h₁ (fun i s₂ h₂ => ?_) fun _ _ e => e) fun _ _ e => e)
  obtain ⟨r, items, u, j, x, rfl, rfl, hl, hx, hsz, hq⟩ := h₂
  have hj : j < items.size := (Array.getElem?_eq_some_iff.mp hx).1
  refine ⟨⟨"tuple", _, slot_tuple_getitem.lookup, hl.typeIs, getItem_tuple hl (by omega) (by omega) (j := j) ?_ hx hq⟩, hs r j u⟩
  unfold seqIndex?
  have h1 : ¬ ((j : Int) < 0) := by omega
  simp [h1, hj]

/-- a slice of a list; the parts are given -/
theorem xSliceL {value : Expr} {lower upper step : Option Expr} {p : Pos} (_W : At s₀ L m ns s)
    (h : wpAny (model prg w) A (eval value env) (fun o s₁ => wpAny (model prg w) A (eval (.Slice lower upper step p) env) (fun i s₂ => ∃ r sl items vl vu vs lo hi st, o = .ref r ∧ i = .ref sl ∧ s₂.heap.IsList r items ∧ s₂.heap.IsSliceOf sl vl vu vs ∧ IsPart vl lo ∧ IsPart vu hi ∧ IsPart vs st ∧ st ≠ some 0 ∧ items.size ≤ 100000 ∧
      At s₀ L m ns s₂ ∧ ∀ D o s', At s₀ L m ((D, o) :: ns) s' → ListObj o (slicePick items lo hi st) → D ∉ ns.map (·.1) → Q (.ref D) s') E s₁) E s)
    (hs : ∀ r sl, ∃ ops, subscripted (.Slice lower upper step p) false (.ref r) (.ref sl) = operate ops (getItem (.ref r) (.ref sl)) := by intro _ _; exact ⟨_, by with_unfolding_all rfl⟩) :
    wpAny (model prg w) A (eval (.Subscript value (.Slice lower upper step p) pos) env) Q E s := by
  refine xSub (wpAny_mono h (fun o s₁ h₁ => wpAny_mono h₁ (fun i s₂ h₂ => ?_) fun _ _ e => e) fun _ _ e => e)
  obtain ⟨r, sl, items, vl, vu, vs, lo, hi, st, rfl, rfl, hl, hsl, pl, pu, ps, h0, hsz, W, hq⟩ := h₂
  refine ⟨⟨"list", _, slot_list_getitem.lookup, hl.typeIs, ?_⟩, hs r sl⟩
  refine wpAny_getItem_list_slice hl hsl pl pu ps h0 (hq _ { cls := .type "list", data := .seq (slicePick items lo hi st) } _ ⟨W.fr.keeps fun _ _ e => Heap.get?_push_of_some _ e, fun z hz => ?_, W.gens, W.bare, W.os⟩ ⟨rfl, rfl, 0, rfl⟩ fun hm => ?_) (by rw [sizeLine_eq]; omega)
  · rcases List.mem_cons.mp hz with rfl | hz
    · exact ⟨Heap.get?_push_size _ rfl, Ne.symm (Nat.ne_of_lt W.fr.ns.lt), W.kp.absent (fresh_of (Nat.le_refl _))⟩
    · exact ⟨Heap.get?_push_of_some _ (W.nw z hz).1, (W.nw z hz).2⟩
  · obtain ⟨z, hz, e⟩ := List.mem_map.mp hm
    exact absurd (Heap.lt_size (W.nw z hz).1) (e ▸ Nat.lt_irrefl _)
end
end Mine

namespace Mine

section
variable {w : World} {A : Around} {E : Value → Shared → Prop} {s s₀ : Shared} {L : Addr} {m : Str → Option Value} {ns : List (Addr × Obj)} {env : Env} {pos : Pos} {Q : Value → Shared → Prop}

theorem sliceStep {st : Expr} {p : Pos} (h : wpAny (model prg w) A (eval st env) (fun i s₃ => ∀ s' sl, Kp s₃ s' → s'.heap.IsSliceOf sl .none .none i → Q (.ref sl) s') E s) :
    wpAny (model prg w) A (eval (.Slice none none (some st) p) env) Q E s := by
  rw [arm_eval_Slice]
  refine wpAny_bind (wpAny_pure (wpAny_bind (wpAny_holding (wpAny_pure ?_))))
  refine wpAny_bind (wpAny_holding (wpAny_mono h (fun i s₃ h₃ => ?_) fun _ _ q => q))
  exact wpAny_newObj_type (h₃ _ _ (kp_push' s₃ _) (Heap.IsSliceOf.new ..)) (by size_fits)
theorem sliceTo {hi : Expr} {p : Pos} (h : wpAny (model prg w) A (eval hi env) (fun i s₃ => ∀ s' sl, Kp s₃ s' → s'.heap.IsSliceOf sl .none i .none → Q (.ref sl) s') E s) :
    wpAny (model prg w) A (eval (.Slice none (some hi) none p) env) Q E s := by
  rw [arm_eval_Slice]
  refine wpAny_bind (wpAny_pure (wpAny_bind (wpAny_holding (wpAny_mono h (fun i s₃ h₃ => ?_) fun _ _ q => q))))
  refine wpAny_bind (wpAny_holding (wpAny_pure ?_))
  exact wpAny_newObj_type (h₃ _ _ (kp_push' s₃ _) (Heap.IsSliceOf.new ..)) (by size_fits)
theorem sliceFrom {lo : Expr} {p : Pos} (h : wpAny (model prg w) A (eval lo env) (fun i s₃ => ∀ s' sl, Kp s₃ s' → s'.heap.IsSliceOf sl i .none .none → Q (.ref sl) s') E s) :
    wpAny (model prg w) A (eval (.Slice (some lo) none none p) env) Q E s := by
  rw [arm_eval_Slice]
  refine wpAny_bind (wpAny_mono h (fun i s₃ h₃ => wpAny_bind (wpAny_holding (wpAny_pure ?_))) fun _ _ q => q)
  refine wpAny_bind (wpAny_holding (wpAny_pure ?_))
  exact wpAny_newObj_type (h₃ _ _ (kp_push' s₃ _) (Heap.IsSliceOf.new ..)) (by size_fits)
end

def idxOf (n : Nat) (lo hi st : Option Int) : List Nat := sliceRange (sliceBounds lo hi st n).1 (sliceBounds lo hi st n).2.1 (sliceBounds lo hi st n).2.2
def pickL {β : Type} (l : List β) (lo hi st : Option Int) : List β := (idxOf l.length lo hi st).filterMap (l[·]?)
theorem pickL_map {β γ : Type} (f : β → γ) (l : List β) (lo hi st : Option Int) : pickL (l.map f) lo hi st = (pickL l lo hi st).map f := by
  unfold pickL
  rw [List.length_map, List.map_filterMap]
  congr 1
  funext i
  simp
theorem slicePick_L (l : List Value) (lo hi st : Option Int) : slicePick l.toArray lo hi st = (pickL l lo hi st).toArray := by
  unfold slicePick pickL idxOf
  simp
theorem pickL_mem {β : Type} {l : List β} {lo hi st : Option Int} {a : β} (h : a ∈ pickL l lo hi st) : a ∈ l := by
  obtain ⟨i, _, h⟩ := List.mem_filterMap.mp h
  exact List.mem_of_getElem? h
theorem pickL_len {β : Type} (l : List β) (lo hi st : Option Int) : (pickL l lo hi st).length ≤ l.length := by
  have h := slicePick_size_le (l.map fun _ => Value.none).toArray lo hi st
  rw [slicePick_L, pickL_map] at h
  simpa using h
theorem StrItems.pick {ys : Array Value} {ls : List (List Nat)} (h : StrItems ys ls) (lo hi st : Option Int) : StrItems (slicePick ys lo hi st) (pickL ls lo hi st) := by
  obtain ⟨l, rfl, e⟩ := h
  refine ⟨pickL l lo hi st, ?_, ?_⟩
  · unfold strValues; rw [slicePick_L, pickL_map]
  · rw [← pickL_map, e, pickL_map]

theorem StrItems.get {ys : Array Value} {ls : List (List Nat)} (h : StrItems ys ls) {i : Nat} {x : List Nat} (hx : ls[i]? = some x) : ∃ t, ys[i]? = some (.str (S x) t) := by
  obtain ⟨l, rfl, e⟩ := h
  have : (l.map (·.1))[i]? = some (S x) := by rw [e, List.getElem?_map, hx]; rfl
  rw [List.getElem?_map] at this
  obtain ⟨p, hp, hp'⟩ := Option.map_eq_some_iff.mp this
  exact ⟨p.2, by simp [strValues, hp, ← hp']⟩
theorem StrItems.size {ys : Array Value} {ls : List (List Nat)} (h : StrItems ys ls) : ys.size = ls.length := by
  obtain ⟨l, rfl, e⟩ := h
  rw [strValues_size]
  have := congrArg List.length e
  simpa using this

noncomputable def partsOf (x : List Nat) : List (List Nat) := (Txt.split (S x) (S [34])).map (·.cps.toList)
noncomputable def outsideP (x : List Nat) : List Nat :=
  if (partsOf x).length % 2 = 1 then (pickL (partsOf x) none none (some 2)).flatten else (pickL (partsOf x) none none (some 2)).flatten ++ [34] ++ (partsOf x).getLastD []

theorem partsOf_len (x : List Nat) : 1 ≤ (partsOf x).length ∧ (partsOf x).length ≤ x.length + 2 := by
  have h1 := split_pos (S x) (S [34]); have h2 := split_le (S x) (S [34])
  rw [S_length] at h2
  unfold partsOf; rw [List.length_map]; exact ⟨h1, h2⟩
theorem partsOf_short {x p : List Nat} (h : p ∈ partsOf x) : p.length ≤ x.length := by
  obtain ⟨z, hz, rfl⟩ := List.mem_map.mp h
  have := part_short hz
  rw [S_length] at this; exact this
theorem last_get {l : List (List Nat)} (h : 1 ≤ l.length) : l[l.length - 1]? = some (l.getLastD []) := by
  rw [List.getLastD_eq_getLast?, List.getLast?_eq_getElem?, List.getElem?_eq_getElem (by omega)]; rfl
theorem flatten_le {B : Nat} : ∀ {ls : List (List Nat)}, (∀ y ∈ ls, y.length ≤ B) → ls.flatten.length ≤ ls.length * B
  | [], _ => by simp
  | a :: r, h => by
    have h1 := h a (List.mem_cons_self ..)
    have h2 := flatten_le (ls := r) fun y hy => h y (List.mem_cons_of_mem _ hy)
    rw [List.flatten_cons, List.length_append, List.length_cons, Nat.succ_mul]; omega

section
variable {w : World} {A : Around} {s : Shared} {mg mb : Str → Option Value} {Q : Value → Shared → Prop}

set_option maxHeartbeats 4000000 in
theorem do_outside (T : Top0 w mg mb s.heap) (R : Room A 3) (x : List Nat) (t : Tok) (hx : x.length ≤ 1000) (h : ∀ s' t', Kp s s' → Q (.str (S (outsideP x)) t') s') :
    wpAny (model prg w) A (call (.ref 123) [.str (S x) t]) Q NoE s := by
  refine xEnter T.fOutside T.lim R.lt (x := "row") (fun _ _ _ => by rfl) (fun cd s₁ W => ?_)
  have R' := R.deeper (envOf "_law_outside" tOutside.scope s.heap.objs.size 123 (.ref cd))
  generalize hA : A.deeper (envOf "_law_outside" tOutside.scope s.heap.objs.size 123 (.ref cd)) = A' at R' ⊢
  obtain ⟨hp1, hp2⟩ := partsOf_len x
  refine wpAny_execs_cons ?_
  refine wpAny_Assign_Name ?_
  refine Call_method1 (by rfl) (by rfl) (by rfl) ?_
  refine xLd W (by rfl) ?_
  refine xSplit (by decide +kernel) hx (xStr W fun s₂ u₂ W₂ => ⟨u₂, rfl, W₂, fun D o l s₃ W₃ ho hl hD => ?_⟩)
  rw [q34] at hl
  have hi : StrItems (strValues l).toArray (partsOf x) := split_items hl
  have hsz : (strValues l).toArray.size = (partsOf x).length := hi.size
  refine xSt W₃ fun s₄ W₄ => ?_
  refine wpAny_execs_cons ?_
  refine wpAny_Assign_Name ?_
  refine xJoin W₄ fun s₅ W₅ => ?_
  refine xSliceL W₅ ?_
  refine xLd W₅ (by rfl) (sliceStep (kInt fun s₆ t₆ K₆ s₇ sl K₇ hsl => ?_))
  have W₇ := W₅.on (K₆.trans K₇)
  refine ⟨D, sl, _, _, _, _, none, none, some 2, rfl, rfl, ho.isList (W₇.nw (D, o) (List.mem_singleton.mpr rfl)).1, hsl, .none, .none, .int _ _, by decide, by rw [hsz]; omega, W₇, fun D₂ o₂ s₈ W₈ ho₂ hD₂ => ?_⟩
  refine ⟨D₂, o₂, _, _, 1000, rfl, (W₈.nw (D₂, o₂) (List.mem_cons_self ..)).1, ho₂, hi.pick _ _ _, fun y hy => Nat.le_trans (partsOf_short (pickL_mem hy)) hx, ?_, fun s₉ t₉ K₉ => ?_⟩
  · have := pickL_len (partsOf x) none none (some 2)
    calc _ ≤ 1002 * 1000 := Nat.mul_le_mul (by omega) (Nat.le_refl _)
      _ ≤ 16777216 := by decide
  refine xSt ((show At s _ _ ([(D₂, o₂)] ++ [(D, o)]) s₈ from W₈).drop.on K₉) fun s₁₀ W₁₀ => ?_
  refine wpAny_execs_cons ?_
  refine wpAny_Return_some ?_
  refine wpAny_IfExp ?_
  have hDl : ∀ s' : Shared, ∀ m', At s s.heap.objs.size m' [(D, o)] s' → s'.heap.IsList D (strValues l).toArray := fun s' m' W' => ho.isList (W'.nw (D, o) (List.mem_singleton.mpr rfl)).1
  refine wpAny_isTrue_Compare1 (wpAny_BinOp ?_)
  refine xCallB W₁₀ T.g T.nLen T.b ((T.bi _ (by decide)).trans bLen) (xLd W₁₀ (by rfl) (len_list (hDl _ _ W₁₀) (by rw [hsz]; omega) ?_))
  have W₁₁ := W₁₀.tok (s₁₀.toks + 1 + 1)
  refine xInt W₁₁ fun s₁₂ t₁₂ W₁₂ => xModI W₁₂ (by decide) fun s₁₃ t₁₃ W₁₃ => xInt W₁₃ fun s₁₄ t₁₄ W₁₄ => eq_int (wpAny_truthy_bool ?_)
  rw [hsz]
  have hm : (((partsOf x).length : Int).fmod 2 == 1) = decide ((partsOf x).length % 2 = 1) := by
    rw [Int.fmod_eq_emod_of_nonneg _ (by decide), Bool.eq_iff_iff, beq_iff_eq, decide_eq_true_eq]; omega
  rw [hm]
  by_cases hodd : (partsOf x).length % 2 = 1
  · rw [decide_eq_true hodd]
    refine xLd W₁₄ (by rfl) ?_
    have : outsideP x = (pickL (partsOf x) none none (some 2)).flatten := by unfold outsideP; rw [if_pos hodd]
    rw [this] at h
    exact h _ _ W₁₄.kp
  · rw [decide_eq_false hodd]
    have hlast := last_get hp1
    obtain ⟨tl, hl'⟩ := hi.get hlast
    have hf := flatten_le (B := 1000) (ls := pickL (partsOf x) none none (some 2)) fun y hy => Nat.le_trans (partsOf_short (pickL_mem hy)) hx
    have hpl := pickL_len (partsOf x) none none (some 2)
    have hll : ((partsOf x).getLastD []).length ≤ 1000 := Nat.le_trans (partsOf_short (List.mem_of_getElem? hlast)) hx
    refine wpAny_BinOp (wpAny_BinOp (xLd W₁₄ (by rfl) (xStr W₁₄ fun s₁₅ t₁₅ W₁₅ => xAddS W₁₅ ?_ fun s₁₆ t₁₆ W₁₆ => ?_)))
    · rw [S_length, q34, S_length, sizeLine_eq]; simp only [List.length_singleton]; omega
    refine xItem (xLd W₁₆ (by rfl) (wpAny_UnaryOp (xInt W₁₆ fun s₁₇ t₁₇ W₁₇ => neg_int ?_)))
    have W₁₈ := W₁₇.tok (s₁₇.toks + 1)
    refine ⟨D, _, _, _, (partsOf x).length - 1, _, rfl, rfl, hDl _ _ W₁₈, hl', .inr (by rw [hsz]; omega), by rw [hsz]; omega, ?_⟩
    refine xAddS W₁₈ ?_ fun s₁₉ t₁₉ W₁₉ => ?_
    · rw [q34, S_append, S_length, S_length, List.length_append, sizeLine_eq]; simp only [List.length_singleton]; omega
    rw [q34, S_append, S_append]
    have : outsideP x = (pickL (partsOf x) none none (some 2)).flatten ++ [34] ++ (partsOf x).getLastD [] := by unfold outsideP; rw [if_neg hodd]
    rw [this] at h
    exact h _ _ W₁₉.kp
end
end Mine

namespace Mine

section
variable {w : World} {hT : Heap} {A : Around} {a g : Nat} {s₀ s : Shared} {L : Addr} {m : Str → Option Value}

set_option maxHeartbeats 4000000 in
/-- [xv for xi, xv in generator] -/
theorem compUnits {iter : Expr} {xi xv : Str} {pi pv pt pe : Pos} {k : Nat} {scope : Scope} {pos : Pos} {D C : Addr} {cenv : Env} {o : Obj} {R : Result → Shared → Prop} {own : List Addr} {rem : List (Nat × List Nat)}
    (hA : A.handled = none) (hroom : A.depth < recursionLimit) (hlim : hT.NoLimit) (hk0 : ∀ b o, hT.get? b = some o → s₀.heap.get? b = some o)
    (W : At s₀ C m [(D, o)] s) (G : GenAt w hT A own a g rem s) (hC : C ∉ own ∧ C ≠ a) (hD : D ∉ own ∧ D ≠ a) (h0 : ∀ b ∈ own, s₀.heap.get? b = none) (h0a : s₀.heap.get? a = none) (hg : s₀.gens.size ≤ g)
    (hsz : rem.length ≤ sizeLine) (ho : ListObj o #[]) (hL : cenv.locals = C) (hks : cenv.scope.kind = .function) (hxi : cenv.kindOf xi = some .local) (hxv : cenv.kindOf xv = some .local) (hd : (xv == ("__debug__" : Str)) = false)
    (hR : ∀ m' ys o' s', At s₀ C m' [(D, o')] s' → ListObj o' ys → StrItems ys (rem.map (·.2)) → R (.ok .next) s') :
    codeAny (model prg w) A (.compLoop (.ListComp (.Name xv pe) [⟨.Tuple [.Name xi pi, .Name xv pv] k pt, iter, [], 0⟩] scope pos) 0 (.ref a) (.ref D) cenv) R s := by
  subst hL
  refine kcp_loop (fun n s' => ∃ pre r own' m' o' ys, n = r.length ∧ rem = pre ++ r ∧ At s₀ cenv.locals m' [(D, o')] s' ∧ GenAt w hT A own' a g r s' ∧ cenv.locals ∉ own' ∧ D ∉ own' ∧ (∀ b ∈ own', s₀.heap.get? b = none) ∧ ListObj o' ys ∧ StrItems ys (pre.map (·.2))) ?_ rem.length
    ⟨[], rem, own, m, o, #[], rfl, rfl, W, G, hC.1, hD.1, h0, ho, [], rfl, rfl⟩
  rintro n s' ⟨pre, r, own', m', o', ys, rfl, hpre, W', G', hC', hD', h0', ho', hi'⟩
  have hkT : ∀ b o, hT.get? b = some o → s'.heap.get? b = some o := fun b o e => W'.fr.keep b o (hk0 b o e)
  have hnD : ∀ own'' : List Addr, D ∉ own'' → ∀ p ∈ [(D, o')], p.1 ∉ own'' := fun own'' h p hp => by rw [List.mem_singleton.mp hp]; exact h
  cases r with
  | nil =>
    refine nextEnd G' hA hkT (hlim.keeps hkT) hroom fun s₁ M => ?_
    refine hR m' ys o' _ (W'.moved M hC' (hnD _ hD') h0' hg) ho' ?_
    rw [hpre, List.append_nil]; exact hi'
  | cons u r =>
    refine nextUnit G' hA hkT (hlim.keeps hkT) hroom fun s₁ T own₂ hu G₂ hown₂ M => ?_
    have W₁ := W'.moved M hC' (hnD _ hD') h0' hg
    obtain ⟨oL, _, _, hoL, _⟩ := W'.fr.ns
    have hLs : cenv.locals < s'.heap.objs.size := Heap.lt_size hoL
    have hDs : D < s'.heap.objs.size := Heap.lt_size (W'.nw (D, o') (List.mem_singleton.mpr rfl)).1
    have hC₂ : cenv.locals ∉ own₂ := fun q => (hown₂ _ q).elim hC' fun z => Nat.not_lt.mpr z hLs
    have hD₂ : D ∉ own₂ := fun q => (hown₂ _ q).elim hD' fun z => Nat.not_lt.mpr z hDs
    have h0₂ : ∀ b ∈ own₂, s₀.heap.get? b = none := fun b hb => (hown₂ b hb).elim (h0' b) fun z => W'.kp.absent (fresh_of z)
    have hgo : wpAny (model prg w) A (letOwnedTupleGo (.Tuple [.Name xi pi, .Name xv pv] k pt) (.ref a) (.ref T)) (fun _ s₂ => s₂ = s₁) NoE s₁ := by
      obtain ⟨o, nm, qn, ho, hc, hd, _⟩ := G₂.gen
      unfold letOwnedTupleGo
      refine wpAny_bind (wpAny_load ho ?_)
      rw [hc, hd]
      exact wpAny_pure rfl
    refine wpAny_mono hgo (fun _ s₁' e => ?_) fun _ _ q => q.elim
    subst e
    obtain ⟨t, t', hu⟩ := hu
    refine assignPair hA hu W₁.fr.ns hxi hxv (by rw [hks]; rfl) fun h₂ tk hn₂' hk₂ => ?_
    have h0L : ∀ b o, s₀.heap.get? b = some o → b ≠ cenv.locals := fun b o q e => by
      subst e
      exact absurd (Nat.lt_of_lt_of_le (Heap.lt_size q) W'.fr.above) (Nat.lt_irrefl _)
    have G₃ : GenAt w hT A own₂ a g r { s₁' with heap := h₂, toks := tk } := G₂.carry (fun o q => hk₂ a o (Ne.symm hC.2) q) (fun b hb o q => hk₂ b o (fun e => hC₂ (e ▸ hb)) q) fun _ q => q
    have W₃ : At s₀ cenv.locals (fun y => if y = xv then some (.str (S u.2) t') else if y = xi then some (.int u.1 t) else m' y) [(D, o')] { s₁' with heap := h₂, toks := tk } :=
      ⟨⟨hn₂', fun b o q => hk₂ b o (h0L b o q) (W₁.fr.keep b o q), W'.fr.above⟩, fun p hp => ⟨hk₂ _ _ (W₁.nw p hp).2.1 (W₁.nw p hp).1, (W₁.nw p hp).2⟩, W₁.gens, W₁.bare, W₁.os⟩
    refine wpAny_Name (wpAny_loadName_local hks hxv W₃.fr.ns (v := .str (S u.2) t') (by simp) ?_) hd
    refine yAppend W₃ (by simp) ho' (fun h₅ tk₅ o₅ W₅ hs₅ ho₅ => ?_) ?_
    · refine ⟨r.length, Nat.lt_succ_self _, pre ++ [u], r, own₂, _, o₅, _, rfl, by rw [hpre]; simp, W₅, G₃.carry (fun o q => hs₅.extBut a o (Ne.symm hD.2) q) (fun b hb o q => hs₅.extBut b o (fun e => hD₂ (e ▸ hb)) q) (fun _ q => q), hC₂, hD₂, h0₂, ho₅, ?_⟩
      obtain ⟨l, rfl, e⟩ := hi'
      exact ⟨l ++ [(S u.2, t')], strValues_push l _ _, by rw [List.map_append, List.map_append, List.map_append, e]; rfl⟩
    · rw [hi'.size, List.length_map]
      have := congrArg List.length hpre
      rw [List.length_append] at this; omega
end
end Mine

namespace Mine

section
variable {w : World} {A : Around} {E : Value → Shared → Prop} {env : Env}

theorem post_use {y : Str} {py : Pos} {s₀ s₃ s' : Shared} {L C D : Addr} {m m' : Str → Option Value} {ns : List (Addr × Obj)} {o' : Obj} {Q : Flow → Shared → Prop}
    (W : At s₀ L m ns s₃) (W' : At s₃ C m' [(D, o')] s') (hD : s₃.heap.objs.size ≤ D) (hDC : D < C)
    (hQ : ∀ s'', At s₀ L (fun z => if z = y then some (.ref D) else m z) ((D, o') :: ns) s'' → (∀ b o, C < b → s'.heap.get? b = some o → s''.heap.get? b = some o) → Q .next s'')
    (hL : env.locals = L := by rfl) (hek : env.scope.kind = .function := by rfl) (hy : env.kindOf y = some .local := by rfl) :
    compPost (model prg w) A E (some (assign (.Name y py) env)) (fun _ s' => Q .next s') (.ref D) C (.ok .next) s' := by
  have hLs : L < s₃.heap.objs.size := W.fr.ns.lt
  have hLD : L < D := Nat.lt_of_lt_of_le hLs hD
  have hLC : L < C := Nat.lt_trans hLD hDC
  have h0 : ∀ b, s₃.heap.objs.size ≤ b → s₀.heap.get? b = none := fun b hb => W.kp.absent (fresh_of hb)
  show wpAny _ A (assign (.Name y py) env (.ref D)) _ _ _
  have W₁ : At s₀ L m ((D, o') :: ns) s' := (W.on W'.kp).more (W'.nw (D, o') (List.mem_singleton.mpr rfl)).1 (h0 D hD) (Ne.symm (Nat.ne_of_lt hLD))
  refine wpAny_assign_Name (ySt_raw W₁ hL hek hy fun h₂ tk W₂ hs₂ => ?_)
  have hnC : C ∉ ((D, o') :: ns).map (·.1) := by
    intro hm
    rcases List.mem_cons.mp hm with e | hm
    · exact absurd hDC (by rw [show C = D from e]; exact Nat.lt_irrefl _)
    · obtain ⟨z, hz, e⟩ := List.mem_map.mp hm
      have := Heap.lt_size (W.nw z hz).1
      rw [e] at this
      exact absurd (Nat.lt_of_lt_of_le (Nat.lt_trans this (Nat.lt_of_le_of_lt hD hDC)) (Nat.le_refl _)) (Nat.lt_irrefl _)
  refine ⟨m', W'.fr.ns.sameBut hs₂ (Ne.symm (Nat.ne_of_lt hLC)), fun h₃ hs₃ => ?_⟩
  exact hQ _ (W₂.gone hs₃ (Ne.symm (Nat.ne_of_lt hLC)) (h0 C (Nat.le_trans hD (Nat.le_of_lt hDC))) hnC) fun b o hb e => hs₃.extBut b o (Ne.symm (Nat.ne_of_lt hb)) (hs₂.extBut b o (Ne.symm (Nat.ne_of_lt (Nat.lt_trans hLC hb))) e)

theorem At.ofFr {s₀ s : Shared} {L : Addr} {m : Str → Option Value} {ns : List (Addr × Obj)} {h' : Heap} {tk : Nat} (K : Kp s₀ s) (F : Fr s₀.heap L h' m) (N : News s₀.heap L h' ns) : At s₀ L m ns { s with heap := h', toks := tk } :=
  ⟨F, N, K.gens, K.bare, K.os⟩

set_option maxHeartbeats 4000000 in
/-- y = [xv for xi, xv in _iter_escaped_chars(...)] -/
theorem unitsTo {mg mb : Str → Option Value} {iter : Expr} {xi xv y : Str} {pi pv pt pe py : Pos} {k : Nat} {scope : Scope} {pos spos : Pos} {s s₀ : Shared} {L : Addr} {m : Str → Option Value} {ns : List (Addr × Obj)} {Q : Flow → Shared → Prop} {x : List Nat} {cl : List (Str × Addr)}
    (_W : At s₀ L m ns s) (T : Top0 w mg mb s₀.heap) (hA : A.handled = none) (hroom : A.depth < recursionLimit) (hx : x.length ≤ 1000) (hclos : closureFor scope env = pure cl)
    (h : wpAny (model prg w) A (eval iter env) (fun v s₁ => ∃ own a g s₃, v = .ref a ∧ At s₀ L m ns s₃ ∧ GenAt w s₀.heap A own a g (unitsE false 0 x) s₁ ∧ (∀ b ∈ own, s₃.heap.objs.size ≤ b ∧ b < s₁.heap.objs.size) ∧ s₃.heap.objs.size ≤ a ∧ Kp s₃ s₁ ∧ s₃.gens.size = g) E s)
    (hQ : ∀ D o ys s', At s₀ L (fun z => if z = y then some (.ref D) else m z) ((D, o) :: ns) s' → ListObj o ys → StrItems ys ((unitsE false 0 x).map (·.2)) → Q .next s')
    (hsw : swapsWith (.ListComp (.Name xv pe) [⟨.Tuple [.Name xi pi, .Name xv pv] k pt, iter, [], 0⟩] scope pos) (some (.Name y py)) spos.line env = pure true := by rfl)
    (hL : env.locals = L := by rfl) (hek : env.scope.kind = .function := by rfl) (hy : env.kindOf y = some .local := by rfl)
    (hcell : ∀ y ∈ scope.names, y.2 ≠ .cell := by decide) (hkind : scope.kind = .function := by rfl)
    (hnames : ∀ y ∈ scope.names, y.2 = .local → scope.names.lookup y.1 = some .local := by decide) (hxi : scope.names.lookup xi = some .local := by rfl) (hxv : scope.names.lookup xv = some .local := by rfl) (hd : (xv == ("__debug__" : Str)) = false := by decide)
    (hs : ∀ x, foldedSetIterable iter env x = pure x := by intro _; rfl) :
    wpAny (model prg w) A (exec (.Assign [.Name y py] (.ListComp (.Name xv pe) [⟨.Tuple [.Name xi pi, .Name xv pv] k pt, iter, [], 0⟩] scope pos) spos) env) Q E s := by
  rw [exec_Assign_Name_used _ _ _ _ hsw]
  refine wpAny_bind (wpAny_standAt (wpAny_bind ?_))
  show wpAny _ A (do let _ ← comprehension (.ListComp (.Name xv pe) [⟨.Tuple [.Name xi pi, .Name xv pv] k pt, iter, [], 0⟩] scope pos) scope env _ (newList []) false (eval iter env) (some (assign (.Name y py) env))) _ _ s
  refine wpAny_bind (wpAny_mono (wpAny_comprehension_free (use := some (assign (.Name y py) env)) (Q := fun _ s' => Q .next s') rfl hs hclos hkind hnames
    (wpAny_mono h (fun xv s₁ h₁ => ?_) fun _ _ e => e)) (fun _ s' hq => wpAny_pure (wpAny_pure hq)) fun _ _ e => e)
  obtain ⟨own, a, g, s₃, rfl, W, G, hown, ha, K, hg⟩ := h₁
  refine wpAny_pyIter_gen G.gen ?_
  have haS : a < s₁.heap.objs.size := let ⟨o, _, _, q, _⟩ := G.gen; Heap.lt_size q
  have hsz0 : s₃.heap.objs.size ≤ s₁.heap.objs.size := Nat.le_of_lt (Nat.lt_of_le_of_lt ha haS)
  refine wpAny_newObj_type (wpAny_newFunctionEnv hcell (by intro y hy; simp at hy) (fun h₁ hns₁ hsb₁ => ?_) hkind)
  dsimp only at hns₁ hsb₁ ⊢
  generalize hH2 : s₁.heap.push { cls := .type "list", dict := none, data := .seq ([] : List Value).toArray } = H2 at hns₁ hsb₁ ⊢
  have hC : H2.objs.size = s₁.heap.objs.size + 1 := by rw [← hH2, Heap.size_push]
  have hDC : s₁.heap.objs.size < H2.objs.size := by rw [hC]; exact Nat.lt_succ_self _
  have old : ∀ b o, s₁.heap.get? b = some o → h₁.get? b = some o := fun b o e =>
    hsb₁.extBut b o (Nat.ne_of_lt (Nat.lt_trans (Heap.lt_size e) hDC)) (Heap.get?_push_of_some _ (hH2 ▸ Heap.get?_push_of_some _ e))
  have hacc : h₁.get? s₁.heap.objs.size = some { cls := .type "list", dict := none, data := .seq ([] : List Value).toArray } := hsb₁.extBut _ _ (Nat.ne_of_lt hDC) (Heap.get?_push_of_some _ (hH2 ▸ Heap.get?_push_size _ rfl))
  have h0 : ∀ b, s₃.heap.objs.size ≤ b → s₃.heap.get? b = none := fun b hb => fresh_of hb
  have loop : ∀ s₄ : Shared, s₄ = { s₁ with heap := h₁, toks := s₁.toks + ([] : List (Str × Value)).length } →
      codeAny (model prg w) A (.compLoop (.ListComp (.Name xv pe) [⟨.Tuple [.Name xi pi, .Name xv pv] k pt, iter, [], 0⟩] scope pos) 0 (.ref a) (.ref s₁.heap.objs.size) (compEnvC scope cl H2.objs.size env))
        (compPost (model prg w) A E (some (assign (.Name y py) env)) (fun _ s' => Q .next s') (.ref s₁.heap.objs.size) H2.objs.size) s₄ := by
    rintro s₄ rfl
    have G' : GenAt w s₀.heap A own a g (unitsE false 0 x) { s₁ with heap := h₁, toks := s₁.toks + ([] : List (Str × Value)).length } := G.carry (fun o q => old _ o q) (fun b hb o q => old b o q) fun _ q => q
    refine compUnits (s₀ := s₃) (C := H2.objs.size) (D := s₁.heap.objs.size) (m := fun x => ([] : List (Str × Value)).reverse.lookup x) (o := { cls := .type "list", dict := none, data := .seq ([] : List Value).toArray }) hA hroom T.lim (fun b o e => W.fr.keep b o e)
      ⟨⟨hns₁, fun b o e => old b o (K.heap b o e), Nat.le_trans hsz0 (Nat.le_of_lt hDC)⟩, ?_, K.gens, K.bare, K.os⟩ G' ⟨?_, Ne.symm (Nat.ne_of_lt (Nat.lt_trans haS hDC))⟩ ⟨?_, Ne.symm (Nat.ne_of_lt haS)⟩ (fun b hb => h0 b (hown b hb).1) (h0 a ha) (Nat.le_of_eq hg)
      (by have := (units_len x 0).1; rw [sizeLine_eq]; omega) ⟨rfl, rfl, 0, rfl⟩ rfl (by show (relabel scope env).kind = .function; exact hkind) (lookup_relabel_local hxi) (lookup_relabel_local hxv) hd fun m' ys o' s' W' ho' hi => ?_
    · intro z hz
      rw [List.mem_singleton.mp hz]
      exact ⟨hacc, Nat.ne_of_lt hDC, fresh_of hsz0⟩
    · intro q; exact absurd (hown _ q).2 (Nat.not_lt.mpr (Nat.le_of_lt hDC))
    · intro q; exact absurd (hown _ q).2 (Nat.lt_irrefl _)
    · exact post_use W W' hsz0 hDC (fun s'' W'' _ => hQ _ _ _ _ W'' ho' hi) hL hek hy
  exact codeAny_compStart_list (loop _ rfl) (wpAny_pyIter_gen (let ⟨o, nm, qn, q, r⟩ := G.gen; ⟨o, nm, qn, old _ _ q, r⟩) (loop _ rfl))
end
end Mine

namespace Mine

theorem StrItems.at {ys : Array Value} {ls : List (List Nat)} (h : StrItems ys ls) (i : Nat) (v : Value) (hv : ys[i]? = some v) : ∃ a, ls[i]? = some a ∧ ∃ t, v = .str (S a) t := by
  have hi : i < ls.length := by rw [← h.size]; exact (Array.getElem?_eq_some_iff.mp hv).1
  obtain ⟨t, ht⟩ := h.get (List.getElem?_eq_getElem hi)
  rw [hv] at ht
  exact ⟨ls[i], List.getElem?_eq_getElem hi, t, Option.some.inj ht⟩

def seenU (u : List Nat) : Bool := match u with
  | [c] => !isB1 c
  | _ => false
noncomputable def aloneP (x : List Nat) : List Nat := (((unitsE false 0 x).map (·.2)).filter seenU).flatten

theorem seenU_long {u : List Nat} (h : u.length ≠ 1) : seenU u = false := by
  unfold seenU
  split
  · simp at h
  · rfl
theorem units_short : ∀ (b : Bool) (i : Nat) (x : List Nat), ∀ u ∈ unitsE b i x, u.2.length ≤ 2
  | true, i, [], u, h => by simp only [unitsE, List.mem_singleton] at h; rw [h]; simp
  | false, i, [], u, h => by simp [unitsE] at h
  | true, i, c :: r, u, h => by
    simp only [unitsE, List.mem_cons] at h
    rcases h with rfl | h
    · simp
    · exact units_short _ _ _ u h
  | false, i, c :: r, u, h => by
    simp only [unitsE] at h
    split at h
    · exact units_short _ _ _ u h
    · rcases List.mem_cons.mp h with rfl | h
      · simp
      · exact units_short _ _ _ u h
theorem filter_seen_short {ls : List (List Nat)} : ∀ y ∈ ls.filter seenU, y.length ≤ 1 := fun y hy => by
  have := (List.mem_filter.mp hy).2
  by_cases h : y.length = 1
  · omega
  · rw [seenU_long h] at this; cases this

section
variable {w : World} {A : Around} {s : Shared} {mg mb : Str → Option Value} {Q : Value → Shared → Prop}

set_option maxHeartbeats 4000000 in
theorem do_alone (T : Top0 w mg mb s.heap) (R : Room A 8) (x : List Nat) (t : Tok) (hx : x.length ≤ 1000) (h : ∀ s' t', Kp s s' → Q (.str (S (aloneP x)) t') s') :
    wpAny (model prg w) A (call (.ref 116) [.str (S x) t]) Q NoE s := by
  refine xEnter T.fAlone T.lim R.lt (x := "face") (fun _ _ _ => by rfl) (fun cd s₁ W => ?_)
  have R' := R.deeper (envOf "_law_alone" tAlone.scope s.heap.objs.size 116 (.ref cd))
  generalize hA : A.deeper (envOf "_law_alone" tAlone.scope s.heap.objs.size 116 (.ref cd)) = A' at R' ⊢
  have hul := (units_len x 0).1
  refine wpAny_execs_cons ?_
  refine unitsTo (cl := []) (x := x) W T R'.hh R'.lt hx (by rfl) ?_ (fun D o ys s₂ W₂ ho hi => ?_)
  · refine xCallFn W T.g T.gIter T.fIter (xLd W (by rfl) ⟨W.kp, ?_⟩)
    refine makeGen T W.kp.heap R'.lt fun s₆ a g own G hown ha K hg hg' => ?_
    exact ⟨own, a, g, s₁, rfl, W, G _ R'.hh, hown, ha, K, hg⟩
  refine wpAny_execs_cons ?_
  refine wpAny_Return_some ?_
  refine xJoin W₂ fun s₃ W₃ => ?_
  refine xComp (cl := []) ((unitsE false 0 x).map (·.2)) (fun u v => ∃ t, v = .str (S u) t) seenU (fun u v _ => ∃ t, v = .str (S u) t) (by rfl) ?_
  refine xLd W₃ (by rfl) ?_
  refine iterList (ho.isList (W₃.nw (D, o) (List.mem_singleton.mpr rfl)).1) R'.hh hi.size (fun i v hv => hi.at i v hv) (by rw [List.length_map, sizeLine_eq]; omega) fun I s₄ G => ?_
  have T₃ := T.keeps W₃.kp.heap
  refine ⟨I, s₃, rfl, G, ⟨fun _ _ _ _ h _ => h, ?_, ?_⟩, ?_⟩
  · rintro C u v m ns s' hu ⟨tu, rfl⟩ W' hm
    refine testOne (wpAny_isTrue_BoolOp (wpAny_allTrue_And_cons ?_))
    refine wpAny_isTrue_Compare1 ?_
    refine yCallB W' T₃.g T₃.nLen T₃.b ((T₃.bi _ (by decide)).trans bLen) (yLd W' hm (len_str ?_ ?_))
    · obtain ⟨z, hz, rfl⟩ := List.mem_map.mp hu
      have := units_short _ _ _ z hz
      rw [S_length]; omega
    have K₅ := Kp.toks s' (s'.toks + 1 + 1)
    refine kInt fun s₆ t₆ K₆ => eq_int (wpAny_truthy_bool ?_)
    rw [S_length]
    by_cases h1 : u.length = 1
    · have : ((u.length : Int) == 1) = true := by rw [beq_iff_eq]; omega
      rw [this]
      simp only [if_true]
      refine wpAny_allTrue_And_cons (wpAny_isTrue_Not (isTrue_plain ?_))
      obtain ⟨c, rfl⟩ : ∃ c, u = [c] := by
        match u, h1 with
        | [c], _ => exact ⟨c, rfl⟩
      have K₇ := K₅.trans K₆
      have W₇ := W'.on K₇
      refine yCallFn W₇ T₃.g T₃.gInB1 T₃.fInB1 (yLd W₇ hm ⟨W₇.kp, do_inB1 (T₃.keeps W₇.kp.heap) (R'.le (by omega)) c tu fun s₈ K₈ => wpAny_truthy_bool ?_⟩)
      have hs : seenU [c] = !isB1 c := rfl
      cases hb : isB1 c
      · exact wpAny_allTrue_And_nil ⟨by rw [hs, hb]; rfl, K₇.trans K₈⟩
      · exact ⟨by rw [hs, hb]; rfl, K₇.trans K₈⟩
    · have : ((u.length : Int) == 1) = false := by rw [beq_eq_false_iff_ne]; omega
      rw [this]
      exact ⟨(seenU_long h1).symm, K₅.trans K₆⟩
  · rintro C u v m ns s' _ _ ⟨tu, rfl⟩ W' hm
    exact yLd W' hm ⟨⟨tu, rfl⟩, fun b hb => absurd hb List.not_mem_nil, Kp.refl _⟩
  · intro D' o' ys' s' K ho' _ hl hF
    refine ⟨D', o', ys', _, 1, rfl, ho', hl, StrItems.paired (f := fun u => u) (fun a v h => h.1) hF, fun y hy => ?_, ?_, fun s₅ t₅ K₅ => ?_⟩
    · rw [List.map_id'] at hy; exact filter_seen_short y hy
    · rw [List.length_map]
      have := List.length_filter_le seenU ((unitsE false 0 x).map (·.2))
      rw [List.length_map] at this
      omega
    · rw [List.map_id']
      exact h _ _ (W₃.kp.trans (K.trans K₅))
end
end Mine

namespace Mine

section
variable {w : World} {A : Around} {E : Value → Shared → Prop} {s s₀ : Shared} {name : Str} {sc : Scope} {L a : Addr} {cd : Value} {m : Str → Option Value} {ns : List (Addr × Obj)} {pos : Pos} {Q : Value → Shared → Prop}

/-- a call of one of the text's functions with one cell, one argument -/
theorem xEnterC {f : Addr} {t : FnText} {x z : Str} {v : Value} (hf : FnAt s.heap f name t) (hlim : s.heap.NoLimit) (hroom : A.depth < recursionLimit)
    (hbind : ∀ pm c doc, bindArgs (docDef name t.params t.body t.scope pm (.ref c) doc) ⟨[v], []⟩ = pure [(x, v)])
    (h : ∀ c s₁ oc, At s s.heap.objs.size (fun y => if y = x then some v else none) [(s.heap.objs.size + 1, oc)] s₁ → oc.data = .cell none →
      wpAny (model prg w) (A.deeper (envOfC name t.scope s.heap.objs.size f (.ref c))) (execs t.body (envOfC name t.scope s.heap.objs.size f (.ref c)))
        (fun fl s' => Q (match fl with | .ret v => v | _ => .none) s') NoE s₁)
    (hx : t.scope.names.lookup x = some .local := by rfl) (hz : ∀ n, cellsFrom n t.scope.names [] = [(z, n)] := by intro _; rfl)
    (hco : t.scope.isCoroutine = false := by rfl) (hgen : t.scope.isGenerator = false := by rfl) (hk : t.scope.kind = .function := by rfl) :
    wpAny (model prg w) A (call (.ref f) [v]) Q E s := by
  obtain ⟨o, pm, c, doc, ho, hdt, hcr⟩ := hf
  refine wpAny_call (call_cellsN_ret hroom ho hdt hlim hcr (hbind pm c doc) (fun y hy => .inl (by rw [List.mem_singleton.mp hy]; exact hx)) (by rw [hz]; simp) (fun h₁ tk cells F N X => ?_) hco hgen hk)
  rw [hz] at X
  have hkx : (envOfC name t.scope s.heap.objs.size f (.ref c)).kindOf x = some .local := hx
  obtain ⟨oc, rfl, hd⟩ := X.one
  have hd' : oc.data = .cell none := by
    rw [hd]; unfold bindC bindC; rw [if_pos hkx]
  have e : (bindL (envOfC name t.scope s.heap.objs.size f (.ref c)).kindOf [(x, v)] fun _ => none) = fun y => if y = x then some v else none := by
    unfold bindL bindL; rw [if_pos hkx]
  rw [e] at F
  exact wpAny_mono (h c _ oc ⟨F, N, fun _ _ e => e, id, rfl⟩ hd') (fun fl s' q => q) fun _ _ q => q

theorem xStC {x : Str} {c : Addr} {o : Obj} {v₀ : Option Value} {v : Value} {Q : Unit → Shared → Prop} (W : At s₀ L m ((c, o) :: ns) s) (hd : o.data = .cell v₀) (h2 : c ∉ ns.map (·.1))
    (h : ∀ s' o', At s₀ L m ((c, o') :: ns) s' → o'.data = .cell (some v) → Q () s') (hc : (cellsFrom (L + 1) sc.names []).lookup x = some c := by rfl)
    (hk : sc.kind = .function := by rfl) (hl : (envOfC name sc L a cd).kindOf x = some .cell := by rfl) :
    wpAny (model prg w) A (storeName (envOfC name sc L a cd) x v) Q E s :=
  stCN (own := []) W.fr W.nw hc hd (fun p hp => nomatch hp) (fun p hp e => h2 (e ▸ List.mem_map_of_mem hp)) (fun h' o' F N hd' => h _ o' (W.to (tk := s.toks) F N) hd') hk hl
theorem yCell {env : Env} {x : Str} {c : Addr} {o : Obj} {v : Value} (ho : s.heap.get? c = some o) (hd : o.data = .cell (some v)) (h : Q v s) (hc : env.cells.lookup x = some c := by rfl)
    (hk : env.scope.kind = .function := by rfl) (hl : env.kindOf x = some .cell := by rfl) (hdb : (x == ("__debug__" : Str)) = false := by decide) :
    wpAny (model prg w) A (eval (.Name x pos) env) Q E s := wpAny_Name (wpAny_loadName_cell hk hl hc ⟨o, ho, hd⟩ h) hdb

theorem xNewTuple {vs : List Value} (W : At s₀ L m ns s) (h : ∀ s' P, At s₀ L m ns s' → s'.heap.IsTuple P vs.toArray → L < P → Q (.ref P) s') (hsz : vs.length ≤ sizeLine := by size_fits) : wpAny (model prg w) A (newTuple vs) Q E s :=
  newTuple_N W.fr W.nw (fun h' F N => h _ _ ((show At s₀ L m ([(s.heap.objs.size, { cls := .type "tuple", data := .seq vs.toArray })] ++ ns) _ from W.to (tk := s.toks) F N).drop) ⟨_, (N _ (List.mem_cons_self ..)).1, rfl, _, rfl⟩ W.fr.ns.lt) hsz
theorem xNewList {vs : List Value} (W : At s₀ L m ns s) (h : ∀ s' D o, At s₀ L m ((D, o) :: ns) s' → ListObj o vs.toArray → D ∉ ns.map (·.1) → Q (.ref D) s') (hsz : vs.length ≤ sizeLine := by size_fits) : wpAny (model prg w) A (newList vs) Q E s :=
  newList_N W.fr W.nw (fun h' F N => h _ _ _ (W.to (tk := s.toks) F N) ⟨rfl, rfl, 0, rfl⟩ fun hm => by
    obtain ⟨z, hz, e⟩ := List.mem_map.mp hm
    exact absurd (Heap.lt_size (W.nw z hz).1) (e ▸ Nat.lt_irrefl _)) hsz

variable {env : Env} {k : Nat}
theorem xStrS {y : Str} {l : List Nat} (W : At s₀ L m ns s) (hy : y = S l) (h : ∀ s' t, At s₀ L m ns s' → Q (.str (S l) t) s') : wpAny (model prg w) A (eval (.Constant (.str y) k pos) env) Q E s := by
  subst hy; exact xStr W h
theorem kStrS {y : Str} {l : List Nat} (hy : y = S l) (h : ∀ s' t, Kp s s' → Q (.str (S l) t) s') : wpAny (model prg w) A (eval (.Constant (.str y) k pos) env) Q E s := by
  subst hy; exact kStr h
end

theorem ySliceSN {w : World} {A : Around} {E : Value → Shared → Prop} {s s₀ : Shared} {L : Addr} {m : Str → Option Value} {ns : List (Addr × Obj)} {env : Env} {pos : Pos} {Q : Value → Shared → Prop} {value lo : Expr} {p : Pos} (_W : At s₀ L m ns s)
    (h : wpAny (model prg w) A (eval value env) (fun o s₁ => wpAny (model prg w) A (eval lo env) (fun i s₃ => ∃ x t a ua, o = .str x t ∧ i = .int a ua ∧ x.length ≤ sizeLine ∧ At s₀ L m ns s₃ ∧
      ∀ s' t', At s₀ L m ns s' → Q (.str (Txt.slice x (some a) none) t') s') E s₁) E s)
    (ht : ∀ o r, letTemporaryGo value o r = pure () := by intro _ _; rfl) :
    wpAny (model prg w) A (eval (.Subscript value (.Slice (some lo) none none p) pos) env) Q E s := xSliceSN h ht

def slN (n : Int) : Nat := (n.fmod 4).toNat
def owN (n : Int) : Nat := ((n.fdiv 4).fmod 2).toNat
def ixN (n : Int) : Nat := ((n.fdiv 8).fmod 8).toNat
def fuZ (n : Int) : Int := n.fdiv 64
def ltN (n : Int) : Nat := ((fuZ n).fmod 26).toNat
theorem slN_eq (n : Int) : n.fmod 4 = (slN n : Int) ∧ slN n < 4 := by have := fmod_range n 4 (by decide); unfold slN; omega
theorem owN_eq (n : Int) : (n.fdiv 4).fmod 2 = (owN n : Int) ∧ owN n < 2 := by have := fmod_range (n.fdiv 4) 2 (by decide); unfold owN; omega
theorem ixN_eq (n : Int) : (n.fdiv 8).fmod 8 = (ixN n : Int) ∧ ixN n < 8 := by have := fmod_range (n.fdiv 8) 8 (by decide); unfold ixN; omega
theorem ltN_eq (n : Int) : (fuZ n).fmod 26 = (ltN n : Int) ∧ ltN n < 26 := by have := fmod_range (fuZ n) 26 (by decide); unfold ltN; omega
def signN (n : Int) : Nat := [40, 41, 34, 40, 41, 223, 64259, 119808 + ltN n].getD (ixN n) 0
def meantN (n : Int) : List Nat := [[40], [41], [34], [40], [41], [115, 115], [102, 102, 105], [97 + ltN n]].getD (ixN n) []
def seenK (n : Int) (k : Nat) : List Nat := 92 :: (List.replicate (1 + (fuZ n + k).fmod 2).toNat [unseenN (fuZ n + k)]).flatten
def textN (n : Int) : List Nat := ((List.range (slN n)).map (seenK n)).flatten
def bsl (k : Nat) : List Nat := (List.replicate k [92]).flatten
def c0 (n : Int) : List Nat := textN n ++ bsl (owN n) ++ [signN n]
def c1 (n : Int) : List Nat := bsl (slN n + owN n) ++ meantN n
def c2 (n : Int) : List Nat := (List.replicate (1 - owN n) [signN n]).flatten
noncomputable def c3 (n : Int) : List Nat := sl1 (meantN n) (((slN n : Int) + (owN n : Int)).fmod 2)

def PieceAt (h : Heap) (T : Addr) (n : Int) : Prop := ∃ t0 t1 t2 t3, IsTup h T #[.str (S (c0 n)) t0, .str (S (c1 n)) t1, .str (S (c2 n)) t2, .str (S (c3 n)) t3]

theorem seenK_len (n : Int) (k : Nat) : (seenK n k).length ≤ 3 := by
  have := fmod_range (fuZ n + k) 2 (by decide)
  unfold seenK
  have : (1 + (fuZ n + k).fmod 2).toNat ≤ 2 := by omega
  simp; omega
theorem textN_len (n : Int) : (textN n).length ≤ 9 := by
  unfold textN
  have h := flatten_le (B := 3) (ls := (List.range (slN n)).map (seenK n)) fun y hy => by obtain ⟨k, _, rfl⟩ := List.mem_map.mp hy; exact seenK_len n k
  have := (slN_eq n).2
  rw [List.length_map, List.length_range] at h; omega
theorem bsl_len (k : Nat) : (bsl k).length = k := by simp [bsl]
theorem meantN_len (n : Int) : (meantN n).length ≤ 3 := by
  have := (ixN_eq n).2
  unfold meantN
  generalize ixN n = i at *
  have : i = 0 ∨ i = 1 ∨ i = 2 ∨ i = 3 ∨ i = 4 ∨ i = 5 ∨ i = 6 ∨ i = 7 := by omega
  rcases this with rfl | rfl | rfl | rfl | rfl | rfl | rfl | rfl <;> simp

theorem sub8 {t0 t1 t2 t3 t4 t5 t6 t7 : Tok} (n : Int) : StrItems #[.str (S [40]) t0, .str (S [41]) t1, .str (S [34]) t2, .str (S [40]) t3, .str (S [41]) t4, .str (S [Int.toNat 223]) t5, .str (S [Int.toNat 64259]) t6, .str (S [(119808 + (ltN n : Int)).toNat]) t7]
    ([40, 41, 34, 40, 41, 223, 64259, 119808 + ltN n].map fun c => [c]) := by
  rw [show (119808 + (ltN n : Int)).toNat = 119808 + ltN n by omega]
  exact ⟨[(S [40], t0), (S [41], t1), (S [34], t2), (S [40], t3), (S [41], t4), (S [223], t5), (S [64259], t6), (S [119808 + ltN n], t7)], rfl, rfl⟩
theorem sub8' {t0 t1 t2 t3 t4 t5 t6 t7 : Tok} (n : Int) : StrItems #[.str (S [40]) t0, .str (S [41]) t1, .str (S [34]) t2, .str (S [40]) t3, .str (S [41]) t4, .str (S [115, 115]) t5, .str (S [102, 102, 105]) t6, .str (S [(97 + (ltN n : Int)).toNat]) t7]
    [[40], [41], [34], [40], [41], [115, 115], [102, 102, 105], [97 + ltN n]] := by
  rw [show (97 + (ltN n : Int)).toNat = 97 + ltN n by omega]
  exact ⟨[(S [40], t0), (S [41], t1), (S [34], t2), (S [40], t3), (S [41], t4), (S [115, 115], t5), (S [102, 102, 105], t6), (S [97 + ltN n], t7)], rfl, rfl⟩
theorem sign_get (n : Int) : ([40, 41, 34, 40, 41, 223, 64259, 119808 + ltN n].map fun c => [c])[ixN n]? = some [signN n] := by
  have := (ixN_eq n).2
  unfold signN
  generalize ixN n = i at *
  have : i = 0 ∨ i = 1 ∨ i = 2 ∨ i = 3 ∨ i = 4 ∨ i = 5 ∨ i = 6 ∨ i = 7 := by omega
  rcases this with rfl | rfl | rfl | rfl | rfl | rfl | rfl | rfl <;> rfl
theorem meant_get (n : Int) : ([[40], [41], [34], [40], [41], [115, 115], [102, 102, 105], [97 + ltN n]] : List (List Nat))[ixN n]? = some (meantN n) := by
  have := (ixN_eq n).2
  unfold meantN
  generalize ixN n = i at *
  have : i = 0 ∨ i = 1 ∨ i = 2 ∨ i = 3 ∨ i = 4 ∨ i = 5 ∨ i = 6 ∨ i = 7 := by omega
  rcases this with rfl | rfl | rfl | rfl | rfl | rfl | rfl | rfl <;> rfl

section
variable {w : World} {A : Around} {s : Shared} {mg mb : Str → Option Value} {Q : Value → Shared → Prop}

set_option maxHeartbeats 8000000 in
theorem do_piece (T : Top0 w mg mb s.heap) (R : Room A 5) (n : Int) (t : Tok) (h : ∀ s' P, Kp s s' → s.heap.objs.size ≤ P → PieceAt s'.heap P n → Q (.ref P) s') :
    wpAny (model prg w) A (call (.ref 111) [.int n t]) Q NoE s := by
  obtain ⟨hsl, hsl4⟩ := slN_eq n
  obtain ⟨how, how2⟩ := owN_eq n
  obtain ⟨hix, hix8⟩ := ixN_eq n
  obtain ⟨hlt, hlt26⟩ := ltN_eq n
  replace hlt : (n.fdiv 64).fmod 26 = (ltN n : Int) := hlt
  refine xEnterC (z := "further") T.fPiece T.lim R.lt (x := "number") (fun _ _ _ => by rfl) (fun cd s₁ oc W hoc => ?_)
  have R' := R.deeper (envOfC "_law_piece" tPiece.scope s.heap.objs.size 111 (.ref cd))
  generalize hA : A.deeper (envOfC "_law_piece" tPiece.scope s.heap.objs.size 111 (.ref cd)) = A' at R' ⊢
  refine wpAny_execs_cons ?_
  refine Assign_Tuple ?_
  refine Tuple_ ?_
  refine spliced_more ?_
  refine wpAny_BinOp (yLd W (by rfl) (xInt W fun s₂ u W => xModI W (by decide) fun s₂ t₁ W => ?_))
  refine spliced_more ?_
  refine wpAny_BinOp (wpAny_BinOp (yLd W (by rfl) (xInt W fun s₂ u W => xDivI W (by decide) fun s₂ u₁ W => xInt W fun s₂ u₂ W => xModI W (by decide) fun s₂ t₂ W => ?_)))
  refine spliced_more ?_
  refine wpAny_BinOp (yLd W (by rfl) (xInt W fun s₂ u W => xDivI W (by decide) fun s₂ t₃ W => ?_))
  refine spliced_none ?_
  rw [hsl, how]
  refine xNewTuple W fun s₃ P W₃ ht₃ _ => ?_
  refine wpAny_assign_Tuple R'.hh ht₃ rfl rfl fun h₃ hx₃ => ?_
  have K₃ : Kp s₃ { s₃ with heap := h₃ } := ⟨fun b o e => hx₃ b o (Nat.ne_of_lt (Heap.lt_size e)) e, fun _ _ e => e, id, rfl⟩
  have W := W₃.on K₃
  generalize ({ s₃ with heap := h₃ } : Shared) = s₄ at W
  show wpAny _ A' (assignInOrder [assign (.Name "slashes" _) _, assign (.Name "owned" _) _, assign (.Name "further" _) _] [_, _, _]) _ _ _
  refine assignInOrder_cons (wpAny_assign_Name (ySt W fun s₅ W => ?_))
  refine assignInOrder_cons (wpAny_assign_Name (ySt W fun s₅ W => ?_))
  refine assignInOrder_cons (wpAny_assign_Name (xStC W hoc (by simp) fun s₆ oc W hoc => ?_))
  refine assignInOrder_nil ?_
  have hcell : ∀ s' : Shared, ∀ m', ∀ ns, At s s.heap.objs.size m' (ns ++ [(s.heap.objs.size + 1, oc)]) s' → s'.heap.get? (s.heap.objs.size + 1) = some oc := fun s' m' ns W' => (W'.nw (s.heap.objs.size + 1, oc) (by simp)).1
  refine wpAny_execs_cons ?_
  refine wpAny_Assign_Name ?_
  refine xItem ?_
  refine List_ ?_
  refine spliced_more (xStrS W (l := [40]) (by decide +kernel) fun s₂ t0 W => ?_)
  refine spliced_more (xStrS W (l := [41]) (by decide +kernel) fun s₂ t1 W => ?_)
  refine spliced_more (xStrS W (l := [34]) (by decide +kernel) fun s₂ t2 W => ?_)
  refine spliced_more (xStrS W (l := [40]) (by decide +kernel) fun s₂ t3 W => ?_)
  refine spliced_more (xStrS W (l := [41]) (by decide +kernel) fun s₂ t4 W => ?_)
  refine spliced_more ?_
  refine yCallB W T.g T.nChr T.b ((T.bi _ (by decide)).trans bChr) (xInt W fun s₂ u W => xChr W (by decide) (by decide) fun s₂ t5 W => ?_)
  refine spliced_more ?_
  refine yCallB W T.g T.nChr T.b ((T.bi _ (by decide)).trans bChr) (xInt W fun s₂ u W => xChr W (by decide) (by decide) fun s₂ t6 W => ?_)
  refine spliced_more ?_
  refine yCallB W T.g T.nChr T.b ((T.bi _ (by decide)).trans bChr) ?_
  refine wpAny_BinOp (xInt W fun s₂ u W => wpAny_BinOp ?_)
  refine yCell (hcell _ _ [] W) hoc ?_
  refine xInt W fun s₂ u W => xModI W (by decide) fun s₂ u W => ?_
  rw [hlt]
  refine xAddI W fun s₂ u W => xChr W (by omega) (by omega) fun s₂ t7 W => ?_
  refine spliced_none ?_
  refine xNewList W fun s₂ D o W ho hD => ?_
  refine wpAny_BinOp (wpAny_BinOp (yLd W (by rfl) (xInt W fun s₂ u W => xDivI W (by decide) fun s₂ u W => xInt W fun s₂ u W => xModI W (by decide) fun s₂ u W => ?_)))
  rw [hix]
  obtain ⟨ts, hs⟩ := (sub8 (t0 := t0) (t1 := t1) (t2 := t2) (t3 := t3) (t4 := t4) (t5 := t5) (t6 := t6) (t7 := t7) n).get (sign_get n)
  refine ⟨D, _, _, _, ixN n, _, rfl, rfl, ho.isList (W.nw (D, o) (List.mem_cons_self ..)).1, hs, .inl rfl, by simp, ?_⟩
  replace W := (show At s s.heap.objs.size _ ([(D, o)] ++ [(s.heap.objs.size + 1, oc)]) s₂ from W).drop
  refine ySt W fun s₂ W => ?_
  clear hD ho hs
  refine wpAny_execs_cons ?_
  refine wpAny_Assign_Name ?_
  refine xItem ?_
  refine List_ ?_
  refine spliced_more (xStrS W (l := [40]) (by decide +kernel) fun s₂ t0 W => ?_)
  refine spliced_more (xStrS W (l := [41]) (by decide +kernel) fun s₂ t1 W => ?_)
  refine spliced_more (xStrS W (l := [34]) (by decide +kernel) fun s₂ t2 W => ?_)
  refine spliced_more (xStrS W (l := [40]) (by decide +kernel) fun s₂ t3 W => ?_)
  refine spliced_more (xStrS W (l := [41]) (by decide +kernel) fun s₂ t4 W => ?_)
  refine spliced_more (xStrS W (l := [115, 115]) (by decide +kernel) fun s₂ t5 W => ?_)
  refine spliced_more (xStrS W (l := [102, 102, 105]) (by decide +kernel) fun s₂ t6 W => ?_)
  refine spliced_more ?_
  refine yCallB W T.g T.nChr T.b ((T.bi _ (by decide)).trans bChr) ?_
  refine wpAny_BinOp (xInt W fun s₂ u W => wpAny_BinOp ?_)
  refine yCell (hcell _ _ [] W) hoc ?_
  refine xInt W fun s₂ u W => xModI W (by decide) fun s₂ u W => ?_
  rw [hlt]
  refine xAddI W fun s₂ u W => xChr W (by omega) (by omega) fun s₂ t7 W => ?_
  refine spliced_none ?_
  refine xNewList W fun s₂ D o W ho hD => ?_
  refine wpAny_BinOp (wpAny_BinOp (yLd W (by rfl) (xInt W fun s₂ u W => xDivI W (by decide) fun s₂ u W => xInt W fun s₂ u W => xModI W (by decide) fun s₂ u W => ?_)))
  rw [hix]
  obtain ⟨tm, hm⟩ := (sub8' (t0 := t0) (t1 := t1) (t2 := t2) (t3 := t3) (t4 := t4) (t5 := t5) (t6 := t6) (t7 := t7) n).get (meant_get n)
  refine ⟨D, _, _, _, ixN n, _, rfl, rfl, ho.isList (W.nw (D, o) (List.mem_cons_self ..)).1, hm, .inl rfl, by simp, ?_⟩
  replace W := (show At s s.heap.objs.size _ ([(D, o)] ++ [(s.heap.objs.size + 1, oc)]) s₂ from W).drop
  refine ySt W fun s₂ W => ?_
  clear hD ho hm
  refine wpAny_execs_cons ?_
  refine wpAny_Assign_Name ?_
  refine xJoin W fun s₃ W₃ => ?_
  refine xComp (cl := [("further", s.heap.objs.size + 1)]) (List.range (slN n)) (fun i v => ∃ u, v = .int (i : Int) u) (fun _ => true) (fun k v _ => ∃ u, v = .str (S (seenK n k)) u) (by rfl) ?_
  refine yCallT W₃ T.g T.nRange T.b ((T.bi _ (by decide)).trans bRange) ?_
  refine yLd W₃ (by rfl) ?_
  refine iterRange R'.hh (by omega) fun I s₄ s₅ K₄ G => ?_
  have W₄ := W₃.on K₄
  refine ⟨I, s₄, rfl, G.given, ⟨fun _ _ _ _ h _ => h, ?_, ?_⟩, ?_⟩
  · intro C k v m ns s' _ _ _ _
    exact wpAny_tests_nil ⟨rfl, Kp.refl _⟩
  · rintro C k v m ns s' hk _ ⟨u, rfl⟩ W' hm
    have hc : ∀ s'' : Shared, Kp s' s'' → s''.heap.get? (s.heap.objs.size + 1) = some oc := fun s'' K => K.heap _ _ (W'.fr.keep _ _ (hcell _ _ [] W₄))
    have hT : ∀ s'' : Shared, Kp s' s'' → Top0 w mg mb s''.heap := fun s'' K => T.keeps fun b o e => K.heap _ _ (W'.fr.keep _ _ (W₄.fr.keep _ _ e))
    have T₄ := T.keeps W₄.kp.heap
    have hseen : ∀ i, 0 ≤ (fuZ n + i).fmod 2 ∧ (fuZ n + i).fmod 2 < 2 := fun i => fmod_range _ 2 (by decide)
    refine wpAny_BinOp (kStrS (l := [92]) (by decide +kernel) fun s₆ t₆ K₆ => ?_)
    refine wpAny_BinOp ?_
    refine yCallFn (W'.on K₆) T₄.g T₄.gUnseen T₄.fUnseen ?_
    refine wpAny_BinOp (yCell (hc _ K₆) hoc (yLd (W'.on K₆) hm (kAddI fun s₇ t₇ K₇ => ?_)))
    refine ⟨(W'.on (K₆.trans K₇)).kp, do_unseen (hT _ (K₆.trans K₇)) (R'.le (by omega)) _ _ fun s₈ t₈ K₈ => ?_⟩
    have K₉ := (K₆.trans K₇).trans K₈
    refine wpAny_BinOp (kInt fun s₁₀ t₁₀ K₁₀ => wpAny_BinOp (wpAny_BinOp ?_))
    refine yCell (hc _ (K₉.trans K₁₀)) hoc (yLd (W'.on (K₉.trans K₁₀)) hm (kAddI fun s₁₁ t₁₁ K₁₁ => kInt fun s₁₂ t₁₂ K₁₂ => kModI (by decide) fun s₁₃ t₁₃ K₁₃ => kAddI fun s₁₄ t₁₄ K₁₄ => ?_))
    have hr := hseen k
    refine kMulS (by simp) (by show (1 + (fuZ n + k).fmod 2 : Int) ≤ 1000; omega) (by show (-1000 : Int) ≤ (1 + (fuZ n + k).fmod 2); omega) fun s₁₅ t₁₅ K₁₅ => kAddS ?_ fun s₁₆ t₁₆ K₁₆ => ?_
    · have h3 := seenK_len n k
      unfold seenK at h3
      rw [S_length, S_length, sizeLine_eq]
      rw [List.length_cons] at h3
      show 1 + ((List.replicate (1 + (fuZ n + k).fmod 2).toNat [unseenN (fuZ n + k)]).flatten).length ≤ _
      omega
    · rw [S_append]
      exact ⟨⟨t₁₆, rfl⟩, fun b hb => absurd hb List.not_mem_nil, (((((((K₉.trans K₁₀).trans K₁₁).trans K₁₂).trans K₁₃).trans K₁₄).trans K₁₅).trans K₁₆)⟩
  · intro D o ys s' K ho _ hl hF
    refine ⟨D, o, ys, _, 3, rfl, ho, hl, StrItems.paired (f := seenK n) (fun a v h => h.1) hF, fun y hy => ?_, ?_, fun s₆ t₆ K₆ => ?_⟩
    · obtain ⟨k, _, rfl⟩ := List.mem_map.mp hy
      exact seenK_len n k
    · rw [List.length_map]
      have := List.length_filter_le (fun _ : Nat => true) (List.range (slN n))
      rw [List.length_range] at this
      omega
    have hf : (List.map (seenK n) (List.filter (fun _ => true) (List.range (slN n)))).flatten = textN n := by
      rw [List.filter_eq_self.mpr fun _ _ => rfl]; rfl
    rw [hf]
    have W := W₄.on (K.trans K₆)
    refine ySt W fun s₇ W => ?_
    have hml := meantN_len n
    have htl := textN_len n
    refine wpAny_execs_cons ?_
    refine wpAny_Assign_Name ?_
    refine wpAny_BinOp (wpAny_BinOp (xStrS W (l := [92]) (by decide +kernel) fun s₂ u W => wpAny_BinOp ?_))
    refine yLd W (by rfl) (yLd W (by rfl) (xAddI W fun s₂ u W => xMulS W (by simp) (by omega) (by omega) fun s₂ u W => ?_))
    rw [show ((slN n : Int) + (owN n : Int)).toNat = slN n + owN n by omega]
    refine yLd W (by rfl) (xAddS W ?_ fun s₂ u W => ?_)
    · show (S (bsl (slN n + owN n))).length + _ ≤ _
      rw [S_length, S_length, bsl_len, sizeLine_eq]; omega
    rw [S_append]
    change wpAny _ A' (storeName _ _ (.str (S (c1 n)) u)) _ _ _
    refine ySt W fun s₂ W => ?_
    refine wpAny_execs_cons ?_
    refine wpAny_Return_some ?_
    refine Tuple_ ?_
    refine spliced_more ?_
    refine wpAny_BinOp (wpAny_BinOp (yLd W (by rfl) (wpAny_BinOp (xStrS W (l := [92]) (by decide +kernel) fun s₂ u W => ?_))))
    refine yLd W (by rfl) (xMulS W (by simp) (by omega) (by omega) fun s₂ u W => ?_)
    rw [show ((owN n : Int)).toNat = owN n by omega]
    refine xAddS W ?_ fun s₂ u W => ?_
    · show (S (textN n)).length + (S (bsl (owN n))).length ≤ _
      rw [S_length, S_length, bsl_len, sizeLine_eq]; omega
    rw [S_append]
    refine yLd W (by rfl) (xAddS W ?_ fun s₂ u0 W => ?_)
    · show (S (textN n ++ bsl (owN n))).length + (S [signN n]).length ≤ _
      rw [S_length, S_length, List.length_append, bsl_len, sizeLine_eq, List.length_singleton]; omega
    rw [S_append]
    refine spliced_more (yLd W (by rfl) ?_)
    refine spliced_more ?_
    refine wpAny_BinOp (yLd W (by rfl) (wpAny_BinOp (xInt W fun s₂ u W => yLd W (by rfl) (xSubI W fun s₂ u W => xMulS W (by simp) (by omega) (by omega) fun s₂ u2 W => ?_))))
    rw [show (1 - (owN n : Int)).toNat = 1 - owN n by omega]
    refine spliced_more ?_
    refine ySliceSN W (yLd W (by rfl) (wpAny_BinOp (wpAny_BinOp (yLd W (by rfl) (yLd W (by rfl) (xAddI W fun s₂ u W => xInt W fun s₂ u W => xModI W (by decide) fun s₂ u W => ?_))))))
    refine ⟨S (meantN n), _, _, _, rfl, rfl, by rw [S_length, sizeLine_eq]; omega, W, fun s₂ u3 W => ?_⟩
    rw [S_sl1]
    refine spliced_none ?_
    exact xNewTuple W fun s₃ P W hP hLP => h _ _ W.kp (Nat.le_of_lt hLP) ⟨_, _, _, _, hP⟩
end
end Mine

namespace Mine

theorem At.sub {s₀ s : Shared} {L m ns ns'} (W : At s₀ L m ns s) (h : ∀ p ∈ ns', p ∈ ns) : At s₀ L m ns' s := ⟨W.fr, fun p hp => W.nw p (h p hp), W.gens, W.bare, W.os⟩
theorem At.hold {s₀ s : Shared} {L m ns} (W : At s₀ L m ns s) (bs : List Addr) (h : ∀ b ∈ bs, b ≠ L ∧ s₀.heap.get? b = none) : At s₀ L m (heldAt s.heap bs ++ ns) s :=
  ⟨W.fr, fun p hp => by
    rcases List.mem_append.mp hp with hp | hp
    · obtain ⟨hb, e⟩ := mem_heldAt.mp hp
      exact ⟨e, h _ hb⟩
    · exact W.nw p hp, W.gens, W.bare, W.os⟩

noncomputable def colN (j : Nat) (n : Int) : List Nat := [c0 n, c1 n, c2 n, c3 n].getD j []
theorem PieceAt.get {h : Heap} {P : Addr} {n : Int} (x : PieceAt h P n) {j : Nat} (hj : j < 4) : ∃ items t, IsTup h P items ∧ items[j]? = some (.str (S (colN j n)) t) ∧ items.size = 4 := by
  obtain ⟨t0, t1, t2, t3, x⟩ := x
  have : j = 0 ∨ j = 1 ∨ j = 2 ∨ j = 3 := by omega
  rcases this with rfl | rfl | rfl | rfl <;> exact ⟨_, _, x, rfl, rfl⟩
theorem PieceAt.keeps {h h' : Heap} {P : Addr} {n : Int} (x : PieceAt h P n) (hk : ∀ o, h.get? P = some o → h'.get? P = some o) : PieceAt h' P n := by
  obtain ⟨t0, t1, t2, t3, o, ho, r⟩ := x
  exact ⟨t0, t1, t2, t3, o, hk o ho, r⟩

def PF (n : Int) (y : Value) (h : Heap) : Prop := ∃ P, y = .ref P ∧ PieceAt h P n
def PiecesAt (h : Heap) (ys : Array Value) (xs : List Int) : Prop := Paired (fun n y => PF n y h) xs ys.toList

theorem Paired.get {α β : Type} {F : α → β → Prop} : ∀ {l₁ : List α} {l₂ : List β}, Paired F l₁ l₂ → ∀ (i : Nat) b, l₂[i]? = some b → ∃ a, l₁[i]? = some a ∧ F a b
  | _, _, .nil, i, b, h => by simp at h
  | _, _, .cons x t, 0, b, h => by simp at h; subst h; exact ⟨_, rfl, x⟩
  | _, _, .cons x t, i + 1, b, h => by simpa using Paired.get t i b (by simpa using h)
theorem Paired.mem {α β : Type} {F : α → β → Prop} : ∀ {l₁ : List α} {l₂ : List β}, Paired F l₁ l₂ → ∀ b ∈ l₂, ∃ a, F a b
  | _, _, .nil, b, h => nomatch h
  | _, _, .cons x t, b, h => by
    rcases List.mem_cons.mp h with rfl | h
    · exact ⟨_, x⟩
    · exact Paired.mem t b h

theorem c1_len (n : Int) : (c1 n).length ≤ 11 := by
  have := meantN_len n; have := (slN_eq n).2; have := (owN_eq n).2
  unfold c1; rw [List.length_append, bsl_len]; omega
theorem c0_len (n : Int) : (c0 n).length ≤ 11 := by
  have := textN_len n; have := (owN_eq n).2
  unfold c0; rw [List.length_append, List.length_append, bsl_len, List.length_singleton]; omega
theorem c2_len (n : Int) : (c2 n).length ≤ 11 := by
  unfold c2; simp; omega
theorem c3_len (n : Int) : (c3 n).length ≤ 11 := by
  have := meantN_len n
  unfold c3; exact Nat.le_trans (sl1_le _ _) (by omega)
theorem colN_len (j : Nat) (n : Int) : (colN j n).length ≤ 11 := by
  unfold colN
  match j with
  | 0 => exact c0_len n
  | 1 => exact c1_len n
  | 2 => exact c2_len n
  | 3 => exact c3_len n
  | j + 4 => simp

section
variable {w : World} {A : Around} {s s₀ : Shared} {L : Addr} {m : Str → Option Value} {ns : List (Addr × Obj)} {pos : Pos} {Q : Value → Shared → Prop} {env : Env}

theorem joinCol {slice : Expr} {scope : Scope} {cl : List (Str × Addr)} {p1 p2 p3 p4 p5 apos cp : Pos} {k : Nat} {D : Addr} {o : Obj} {ys : Array Value} {xs : List Int} (j : Nat) (hj : j < 4)
    (W : At s₀ L m ns s) (hA : A.handled = none) (hm : m "pieces" = some (.ref D)) (hD : (D, o) ∈ ns) (ho : ListObj o ys) (hP : ∀ s', At s₀ L m ns s' → PiecesAt s'.heap ys xs) (hx : xs.length ≤ 90)
    (hclos : closureFor scope env = pure cl)
    (hsl : ∀ s' s'' C (Q : Value → Shared → Prop), At s₀ L m ns s' → Kp s' s'' → (∀ u s₃, Kp s'' s₃ → Q (.int j u) s₃) → wpAny (model prg w) A (eval slice (compEnvC scope cl C env)) Q NoE s'')
    (h : ∀ s' t, At s₀ L m ns s' → Q (.str (S ((xs.map (colN j)).flatten)) t) s')
    (hs : ∀ r k u, ∃ ops, subscripted slice false (.ref r) (.int k u) = operate ops (getItem (.ref r) (.int k u)) := by intro _ _ _; exact ⟨_, by with_unfolding_all rfl⟩)
    (hL : env.locals = L := by rfl) (hek : env.scope.kind = .function := by rfl) (hpl : env.kindOf "pieces" = some .local := by rfl)
    (hbase : attributeBase (.Constant (.str "") k cp) "join" env (eval (.Constant (.str "") k cp) env) = eval (.Constant (.str "") k cp) env := by rfl)
    (hst : starEach [.ListComp (.Subscript (.Name "piece" p1) slice p2) [⟨.Name "piece" p3, .Name "pieces" p4, [], 0⟩] scope p5] env = [(false, eval (.ListComp (.Subscript (.Name "piece" p1) slice p2) [⟨.Name "piece" p3, .Name "pieces" p4, [], 0⟩] scope p5) env)] := by rfl) (hline : (apos.endLine == pos.line) = true := by rfl)
    (hcell : ∀ y ∈ scope.names, y.2 ≠ .cell := by decide) (hkind : scope.kind = .function := by rfl)
    (hnames : ∀ y ∈ scope.names, y.2 = .local → scope.names.lookup y.1 = some .local := by decide) (hxl : scope.names.lookup ("piece" : Str) = some .local := by rfl)
    (hf : ∀ x, foldedSetIterable (.Name "pieces" p4) env x = pure x := by intro _; rfl) :
    wpAny (model prg w) A (eval (.Call (.Attribute (.Constant (.str "") k cp) "join" apos) [.ListComp (.Subscript (.Name "piece" p1) slice p2) [⟨.Name "piece" p3, .Name "pieces" p4, [], 0⟩] scope p5] [] pos) env) Q NoE s := by
  refine xJoin W (fun s₁ W₁ => ?_) hbase hst hline
  refine xComp xs (fun n v => PF n v s₁.heap) (fun _ => true) (fun n v _ => ∃ t, v = .str (S (colN j n)) t) hclos ?_ hcell hkind hnames hxl hf
  refine yLd W₁ hm ?_ hL hek hpl
  have hP₁ := hP _ W₁
  have hsz : ys.size = xs.length := by have := Paired.length hP₁; simpa using this.symm
  refine iterList (ho.isList (W₁.nw (D, o) hD).1) hA hsz (fun i v hv => Paired.get hP₁ i v (by simpa using hv)) (by rw [sizeLine_eq]; omega) fun I s₂ G => ?_
  refine ⟨I, s₁, rfl, G, ⟨fun _ _ _ _ h _ => h, ?_, ?_⟩, ?_⟩
  · intro C n v m' ns' s' _ _ _ _
    exact wpAny_tests_nil ⟨rfl, Kp.refl _⟩
  · rintro C n v m' ns' s' _ _ ⟨P, rfl, hPn⟩ W' hm'
    have hxl' : (compEnvC scope cl C env).kindOf "piece" = some .local := lookup_relabel_local hxl
    have hks : (compEnvC scope cl C env).scope.kind = .function := hkind
    refine xItemT (yLd W' hm' (hsl s₁ s' C _ W₁ W'.kp fun u s₃ K₃ => ?_) rfl hks hxl') hs
    obtain ⟨items, t, hit, hget, h4⟩ := (hPn.keeps fun o e => K₃.heap _ _ (W'.fr.keep _ _ e)).get hj
    exact ⟨P, items, u, j, _, rfl, rfl, hit, hget, by omega, ⟨t, rfl⟩, fun b hb => absurd hb List.not_mem_nil, K₃⟩
  · intro D' o' ys' s' K ho' _ hl hF
    refine ⟨D', o', ys', _, 11, rfl, ho', hl, StrItems.paired (f := colN j) (fun a v h => h.1) hF, fun y hy => ?_, ?_, fun s₃ t₃ K₃ => ?_⟩
    · obtain ⟨n, _, rfl⟩ := List.mem_map.mp hy
      exact colN_len j n
    · rw [List.length_map]
      have := List.length_filter_le (fun _ : Int => true) xs
      omega
    · rw [List.filter_eq_self.mpr fun _ _ => rfl]
      exact h _ _ (W₁.on (K.trans K₃))
end

def mapSign (c : Nat) : List Nat := if isB1 c then [] else b3 c
theorem mapSign_len (c : Nat) : (mapSign c).length ≤ 3 := by
  unfold mapSign b3
  split
  · simp
  · split
    · simp
    · split
      · simp
      · split <;> simp

section
variable {w : World} {A : Around} {s s₀ : Shared} {mg mb : Str → Option Value} {L : Addr} {m : Str → Option Value} {ns : List (Addr × Obj)} {Q : Flow → Shared → Prop}
/-- the drawn list of numbers -/
def IntItems (ys : Array Value) (xs : List Int) : Prop := ∃ l : List (Int × Tok), ys.toList = l.map (fun p => Value.int p.1 p.2) ∧ l.map (·.1) = xs
theorem IntItems.at {ys : Array Value} {xs : List Int} (h : IntItems ys xs) (i : Nat) (v : Value) (hv : ys[i]? = some v) : ∃ a, xs[i]? = some a ∧ ∃ t, v = .int a t := by
  obtain ⟨l, hl, rfl⟩ := h
  have hv' : (l.map fun p => Value.int p.1 p.2)[i]? = some v := by rw [← hl]; simpa using hv
  rw [List.getElem?_map] at hv'
  obtain ⟨p, hp, rfl⟩ := Option.map_eq_some_iff.mp hv'
  exact ⟨p.1, by simp [hp], p.2, rfl⟩
theorem IntItems.size {ys : Array Value} {xs : List Int} (h : IntItems ys xs) : ys.size = xs.length := by
  obtain ⟨l, hl, rfl⟩ := h
  have := congrArg List.length hl
  simpa using this
theorem IntItems.of {vs : List Value} {xs : List Int} (h : IntsAre vs xs) : IntItems vs.toArray xs := by
  suffices ∃ l : List (Int × Tok), vs = l.map (fun p => Value.int p.1 p.2) ∧ l.map (·.1) = xs from this
  induction h with
  | nil => exact ⟨[], rfl, rfl⟩
  | cons n t _ ih => obtain ⟨l, h1, h2⟩ := ih; exact ⟨(n, t) :: l, by simp [h1], by simp [h2]⟩
theorem IntItems.pick {ys : Array Value} {xs : List Int} (h : IntItems ys xs) (lo hi st : Option Int) : IntItems (slicePick ys lo hi st) (pickL xs lo hi st) := by
  obtain ⟨l, hl, rfl⟩ := h
  refine ⟨pickL l lo hi st, ?_, pickL_map _ _ _ _ _ |>.symm⟩
  have : ys = (l.map (fun p => Value.int p.1 p.2)).toArray := by rw [← hl]
  rw [this, slicePick_L, pickL_map]
end
end Mine

namespace Mine

theorem IntItems.append {a b : List Value} {xs ys : List Int} (h : IntItems a.toArray xs) (h' : IntItems b.toArray ys) : IntItems (a ++ b).toArray (xs ++ ys) := by
  obtain ⟨l, hl, rfl⟩ := h
  obtain ⟨l', hl', rfl⟩ := h'
  refine ⟨l ++ l', ?_, by simp⟩
  have e1 : a = l.map fun p => Value.int p.1 p.2 := by simpa using hl
  have e2 : b = l'.map fun p => Value.int p.1 p.2 := by simpa using hl'
  rw [e1, e2]; simp

noncomputable def faceN (j : Nat) (xs : List Int) : List Nat := (xs.map (colN j)).flatten

structure Side (xs : List Int) (j : Nat) : Prop where
  alone : aloneP (faceN j xs) = faceN (j + 2) xs
  strip : stripP (faceN (j + 2) xs) = outsideP (faceN (j + 2) xs)
  both : aloneP (stripP (faceN j xs)) = outsideP (faceN (j + 2) xs)
  face : checkP (faceN j xs) = struckP (outsideP (faceN (j + 2) xs))
  row : checkP (faceN (j + 2) xs) = struckP (outsideP (faceN (j + 2) xs))
  short : (stripP (faceN j xs)).length ≤ 1000
  short' : (outsideP (faceN (j + 2) xs)).length ≤ 1000

structure LawFacts (xs : List Int) : Prop where
  sgn : ∀ c ∈ faceN 0 xs, isB1 c = false → Sgn c
  prep : ((faceN 0 xs).map mapSign).flatten = faceN 1 xs
  s0 : Side xs 0
  s1 : Side xs 1

theorem faceN_len {j : Nat} {xs : List Int} (hx : xs.length ≤ 80) : (faceN j xs).length ≤ 880 := by
  unfold faceN
  have h := flatten_le (B := 11) (ls := xs.map (colN j)) fun y hy => by obtain ⟨n, _, rfl⟩ := List.mem_map.mp hy; exact colN_len j n
  rw [List.length_map] at h; omega

theorem Paired.mono_mem {α β : Type} {F G : α → β → Prop} : ∀ {l₁ : List α} {l₂ : List β}, (∀ a b, b ∈ l₂ → F a b → G a b) → Paired F l₁ l₂ → Paired G l₁ l₂
  | _, _, _, .nil => .nil
  | _, _, h, .cons x t => .cons (h _ _ (List.mem_cons_self ..) x) (Paired.mono_mem (fun a b hb => h a b (List.mem_cons_of_mem _ hb)) t)

section
variable {w : World} {A : Around} {s s₀ : Shared} {mg mb : Str → Option Value} {L : Addr} {m : Str → Option Value} {ns : List (Addr × Obj)} {Q : Flow → Shared → Prop} {env : Env}

def stmtOf (i : Nat) : Stmt := tLaw.body.getD i (.Pass ⟨0, 0, 0, 0⟩)
def lawS0' : { t : Stmt // t = stmtOf 0 } := by refine ⟨?v, ?p⟩; case p => conv => rhs; whnf
def lawS1' : { t : Stmt // t = stmtOf 1 } := by refine ⟨?v, ?p⟩; case p => conv => rhs; whnf
def lawS3' : { t : Stmt // t = stmtOf 3 } := by refine ⟨?v, ?p⟩; case p => conv => rhs; whnf

abbrev envL (L f : Addr) (cd : Value) : Env := envOfC "law" tLaw.scope L f cd

set_option maxHeartbeats 4000000 in
theorem law_drawn {f : Addr} {cd : Value} {a : Addr} {vs : List Value} {xs : List Int} (W : At s₀ L m ns s) (T : Top0 w mg mb s₀.heap) (hm : m "script" = some (.ref a)) (hl : s₀.heap.IsList a vs.toArray) (hi : IntItems vs.toArray xs) (hx : xs.length ≤ 63)
    (h : ∀ s' D o ys zs, At s₀ L (fun y => if y = ("drawn" : Str) then some (.ref D) else m y) ((D, o) :: ns) s' → ListObj o ys → IntItems ys zs → zs.length ≤ 80 → Q .next s') :
    wpAny (model prg w) A (exec lawS0'.1 (envL L f cd)) Q NoE s := by
  have hlx : ∀ s' m' ns', At s₀ L m' ns' s' → s'.heap.IsList a vs.toArray := fun s' m' ns' W' => by obtain ⟨o, ho, r⟩ := hl; exact ⟨o, W'.fr.keep _ _ ho, r⟩
  have hsz : vs.toArray.size = xs.length := hi.size
  refine wpAny_Assign_Name ?_
  refine xSliceL W ?_
  refine wpAny_BinOp (yLd W (by exact hm) ?_)
  refine xSliceL W ?_
  refine List_ ?_
  refine spliced_more (xInt W fun s₁ t0 W => ?_)
  refine spliced_more (xInt W fun s₁ t1 W => ?_)
  refine spliced_more (xInt W fun s₁ t2 W => ?_)
  refine spliced_more (xInt W fun s₁ t3 W => ?_)
  refine spliced_more (xInt W fun s₁ t4 W => ?_)
  refine spliced_none ?_
  refine xNewList W fun s₁ D o W₁ ho hD => ?_
  refine sliceFrom ?_
  refine yCallB W₁ T.g T.nLen T.b ((T.bi _ (by decide)).trans bLen) (yLd W₁ (by exact hm) (len_list (hlx _ _ _ W₁) (by rw [hsz]; omega) ?_))
  intro s₂ sl K₂ hsl
  have W₂ := (W₁.tok (s₁.toks + 1 + 1)).on K₂
  refine ⟨D, sl, _, _, _, _, some _, none, none, rfl, rfl, ho.isList (W₂.nw (D, o) (List.mem_cons_self ..)).1, hsl, .int _ _, .none, .none, by decide, by simp, W₂.sub fun p hp => List.mem_cons_of_mem _ hp, fun D₃ o₃ s₃ W₃ ho₃ hD₃ => ?_⟩
  have hi₃ : IntItems #[.int 0 t0, .int 9 t1, .int 21 t2, .int 50 t3, .int 29 t4] [0, 9, 21, 50, 29] := ⟨[(0, t0), (9, t1), (21, t2), (50, t3), (29, t4)], rfl, rfl⟩
  have hi₃' := hi₃.pick (some (vs.toArray.size : Int)) none none
  have hl₃ := pickL_len ([0, 9, 21, 50, 29] : List Int) (some (vs.toArray.size : Int)) none none
  generalize hz : pickL ([0, 9, 21, 50, 29] : List Int) (some (vs.toArray.size : Int)) none none = zs at hi₃' hl₃
  have ho₃' : ListObj o₃ (slicePick #[.int 0 t0, .int 9 t1, .int 21 t2, .int 50 t3, .int 29 t4] (some (vs.toArray.size : Int)) none none) := ho₃
  generalize slicePick #[.int 0 t0, .int 9 t1, .int 21 t2, .int 50 t3, .int 29 t4] (some (vs.toArray.size : Int)) none none = ys at hi₃' ho₃'
  have hw : ys = ys.toList.toArray := rfl
  rw [hw] at ho₃' hi₃'
  have hyl : ys.toList.length ≤ 5 := by
    have := hi₃'.size
    have e : ys.toList.toArray.size = ys.toList.length := by simp
    rw [e] at this; rw [this]; exact hl₃
  have hvl : vs.length = xs.length := by rw [← hsz]; simp
  refine add_lists W₃.fr W₃.nw (hlx _ _ _ W₃) (ho₃'.isList (W₃.nw (D₃, o₃) (List.mem_cons_self ..)).1) (fun h' F' N' => ?_) (by rw [sizeLine_eq]; omega)
  have W₄ := W₃.to (tk := s₃.toks) F' N'
  have hD₄ := W₄.nw _ (List.mem_cons_self ..)
  have hi₄ := hi.append hi₃'
  generalize s₃.heap.objs.size = D₄ at W₄ hD₄ ⊢
  refine sliceTo (kInt fun s₅ t₅ K₅ s₆ sl₆ K₆ hsl₆ => ?_)
  have W₆ := W₄.on (K₅.trans K₆)
  refine ⟨D₄, sl₆, _, _, _, _, none, some 8, none, rfl, rfl, ⟨_, (W₆.nw _ (List.mem_cons_self ..)).1, rfl, 0, rfl⟩, hsl₆, .none, .int _ _, .none, by decide, ?_, W₆.sub fun p hp => List.mem_cons_of_mem _ (List.mem_cons_of_mem _ hp), fun D₇ o₇ s₇ W₇ ho₇ hD₇ => ?_⟩
  · rw [List.size_toArray, List.length_append]; omega
  refine ySt W₇ fun s₈ W₈ => h _ D₇ o₇ _ _ W₈ ho₇ (hi₄.pick _ _ _) ?_
  have := pickL_len (xs ++ zs) none (some 8) none
  rw [List.length_append] at this
  have hl' : zs.length ≤ 5 := hl₃
  omega

set_option maxHeartbeats 4000000 in
theorem law_pieces {f : Addr} {cd : Value} {D₀ : Addr} {o₀ : Obj} {ys₀ : Array Value} {xs : List Int} (W : At s₀ L m ns s) (T : Top0 w mg mb s₀.heap) (R : Room A 6) (hm : m "drawn" = some (.ref D₀)) (hD₀ : (D₀, o₀) ∈ ns) (ho₀ : ListObj o₀ ys₀) (hi : IntItems ys₀ xs) (hx : xs.length ≤ 80)
    (h : ∀ s' D o ys held, At s₀ L (fun y => if y = ("pieces" : Str) then some (.ref D) else m y) (held ++ (D, o) :: ns) s' → ListObj o ys →
      (∀ s'' m'' ns'', At s₀ L m'' ns'' s'' → (∀ p ∈ held, p ∈ ns'') → PiecesAt s''.heap ys xs) → (∀ p ∈ held, p.1 ∉ ns.map (·.1)) → D ∉ ns.map (·.1) → Q .next s') :
    wpAny (model prg w) A (exec lawS1'.1 (envL L f cd)) Q NoE s := by
  refine xCompTo (cl := []) (s₀ := s₀) (L := L) (m := m) (ns := ns) xs (fun n v => ∃ t, v = .int n t) (fun _ => true) PF (by rfl) ?_
  refine yLd W (by exact hm) ?_
  refine iterList (ho₀.isList (W.nw (D₀, o₀) hD₀).1) R.hh hi.size (fun i v hv => hi.at i v hv) (by rw [sizeLine_eq]; omega) fun I s₂ G => ?_
  have T₁ := T.keeps W.kp.heap
  refine ⟨I, s, rfl, G, ⟨?_, ?_, ?_⟩, W, ?_⟩
  · rintro n v h h' ⟨P, rfl, hP⟩ hk
    exact ⟨P, rfl, hP.keeps fun o e => hk P (List.mem_singleton.mpr rfl) o e⟩
  · intro C n v m' ns' s' _ _ _ _
    exact wpAny_tests_nil ⟨rfl, Kp.refl _⟩
  · rintro C n v m' ns' s' _ _ ⟨t, rfl⟩ W' hm'
    refine yCallFn W' T₁.g T₁.gPiece T₁.fPiece (yLd W' hm' ⟨W'.kp, do_piece (T₁.keeps W'.kp.heap) (R.le (by omega)) n t fun s'' P K hsz hP => ⟨⟨P, rfl, hP⟩, fun b hb => ?_, K⟩⟩)
    rw [List.mem_singleton.mp hb]
    exact Nat.lt_of_lt_of_le W'.fr.ns.lt hsz
  · intro D o ys s' W' hD ho hF
    rw [List.filter_eq_self.mpr fun _ _ => rfl] at hF
    have hLD : L < D := Nat.lt_of_lt_of_le W.fr.ns.lt hD
    have hbs : ∀ b ∈ ys.toList.flatMap footV, D < b := fun b hb => by
      obtain ⟨y, hy, hb⟩ := List.mem_flatMap.mp hb
      obtain ⟨n, hn⟩ := Paired.mem hF y hy
      exact hn.2 b hb
    have W₂ := W'.hold (ys.toList.flatMap footV) fun b hb => ⟨Ne.symm (Nat.ne_of_lt (Nat.lt_trans hLD (hbs b hb))), W.kp.absent (fresh_of (Nat.le_trans hD (Nat.le_of_lt (hbs b hb))))⟩
    have hnew : ∀ b, D ≤ b → b ∉ ns.map (·.1) := fun b hb hm => by
      obtain ⟨z, hz, e⟩ := List.mem_map.mp hm
      have := Heap.lt_size (W.nw z hz).1
      rw [e] at this
      exact absurd (Nat.lt_of_lt_of_le this hD) (Nat.not_lt.mpr hb)
    refine h s' D o ys _ W₂ ho (fun s'' m'' ns'' W'' hsub => ?_) (fun p hp => hnew _ (Nat.le_of_lt (hbs _ (mem_heldAt.mp hp).1))) (hnew D (Nat.le_refl _))
    refine Paired.mono_mem (fun n y hy z => ?_) hF
    obtain ⟨⟨P, rfl, hP⟩, _⟩ := z
    refine ⟨P, rfl, hP.keeps fun ob e => ?_⟩
    exact (W''.nw (P, ob) (hsub _ (mem_heldAt.mpr ⟨List.mem_flatMap.mpr ⟨_, hy, List.mem_singleton.mpr rfl⟩, e⟩))).1

set_option maxHeartbeats 4000000 in
theorem law_prep {f : Addr} {cd : Value} {x : List Nat} {t : Tok} (W : At s₀ L m ns s) (T : Top0 w mg mb s₀.heap) (R : Room A 6) (hm : m "text" = some (.str (S x) t)) (hx : x.length ≤ 1000) (hs : ∀ c ∈ x, isB1 c = false → Sgn c)
    (h : ∀ s' t', At s₀ L (fun y => if y = ("prepared" : Str) then some (.str (S ((x.map mapSign).flatten)) t') else m y) ns s' → Q .next s') :
    wpAny (model prg w) A (exec lawS3'.1 (envL L f cd)) Q NoE s := by
  refine wpAny_Assign_Name ?_
  refine xJoin W fun s₁ W₁ => ?_
  refine xComp (cl := []) x (fun c v => ∃ u, v = .str (S [c]) u) (fun _ => true) (fun c v _ => ∃ u, v = .str (S (mapSign c)) u) (by rfl) ?_
  refine yLd W₁ (by exact hm) ?_
  refine iterStr R.hh (by rw [sizeLine_eq]; omega) fun I s₂ G => ?_
  have T₁ := T.keeps W₁.kp.heap
  refine ⟨I, s₁, rfl, G, ⟨fun _ _ _ _ h _ => h, ?_, ?_⟩, ?_⟩
  · intro C n v m' ns' s' _ _ _ _
    exact wpAny_tests_nil ⟨rfl, Kp.refl _⟩
  · rintro C c v m' ns' s' hc _ ⟨u, rfl⟩ W' hm'
    refine wpAny_IfExp (isTrue_plain ?_)
    refine yCallFn W' T₁.g T₁.gInB1 T₁.fInB1 (yLd W' hm' ⟨W'.kp, do_inB1 (T₁.keeps W'.kp.heap) (R.le (by omega)) c u fun s₃ K₃ => wpAny_truthy_bool ?_⟩)
    cases hb : isB1 c
    · have W₃ := W'.on K₃
      refine yCallFn W₃ T₁.g T₁.gMap T₁.fMap (yLd W₃ hm' ⟨W₃.kp, do_map (T₁.keeps W₃.kp.heap) (R.le (by omega)) c u (hs c hc hb) fun s₄ t₄ K₄ => ⟨⟨t₄, ?_⟩, fun b hb => absurd hb List.not_mem_nil, K₃.trans K₄⟩⟩)
      have e : mapSign c = b3 c := by unfold mapSign; rw [hb]; rfl
      rw [e]
    · refine kStrS (l := []) (by decide +kernel) fun s₄ t₄ K₄ => ⟨⟨t₄, ?_⟩, fun b hb => absurd hb List.not_mem_nil, K₃.trans K₄⟩
      have e : mapSign c = [] := by unfold mapSign; rw [hb]; rfl
      rw [e]
  · intro D o ys s' K ho _ hl hF
    rw [List.filter_eq_self.mpr fun _ _ => rfl] at hF
    refine ⟨D, o, ys, _, 3, rfl, ho, hl, StrItems.paired (f := mapSign) (fun a v h => h.1) hF, fun y hy => ?_, ?_, fun s₃ t₃ K₃ => ?_⟩
    · obtain ⟨c, _, rfl⟩ := List.mem_map.mp hy
      exact mapSign_len c
    · rw [List.length_map]; omega
    · exact ySt (W₁.on (K.trans K₃)) fun s₄ W₄ => h _ _ W₄
end
end Mine

namespace Mine

def turnBody' : { p : Expr × List Stmt // p = forOf tLaw.body 5 } := by refine ⟨?v, ?p⟩; case p => conv => rhs; whnf
abbrev turnBody : List Stmt := turnBody'.1.2

section
variable {w : World} {A : Around} {s s₀ : Shared} {mg mb : Str → Option Value} {L : Addr} {m : Str → Option Value} {ns : List (Addr × Obj)} {Q : Flow → Shared → Prop} {env : Env}

theorem isNotSame {A : Around} {E : Value → Shared → Prop} {s : Shared} {a b : Bool} {Q : Value → Shared → Prop} (hab : a = b) (h : Q (.bool false) s) : wpAny (model prg w) A (compareOp .IsNot (.bool a) (.bool b)) Q E s := by
  subst hab
  refine wpAny_isNot_plain (by cases a <;> rfl) ?_
  rw [show (!(Value.bool a == Value.bool a)) = false from by cases a <;> rfl]
  exact h
theorem neSame {A : Around} {E : Value → Shared → Prop} {s : Shared} {a b : List Nat} {t u : Tok} {Q : Value → Shared → Prop} (hab : a = b) (h : Q (.bool false) s) : wpAny (model prg w) A (compareOp .NotEq (.str (S a) t) (.str (S b) u)) Q E s := by
  subst hab
  refine ne_str ?_
  rw [show (S a != S a) = false from by simp [bne]]
  exact h

set_option maxHeartbeats 8000000 in
theorem law_turn {f : Addr} {cd : Value} {xs : List Int} {j : Nat} {D : Addr} {o oc : Obj} {ys : Array Value} {t u : Tok} (W : At s₀ L m ns s) (T : Top0 w mg mb s₀.heap) (R : Room A 10) (hj : j < 2) (sd : Side xs j) (hx : xs.length ≤ 80)
    (hm : m "pieces" = some (.ref D)) (hD : (D, o) ∈ ns) (ho : ListObj o ys) (hP : ∀ s' m', At s₀ L m' ns s' → PiecesAt s'.heap ys xs) (hf : m "face" = some (.str (S (faceN j xs)) t)) (hc : (L + 1, oc) ∈ ns) (hoc : oc.data = .cell (some (.int ((j + 2 : Nat) : Int) u)))
    (h : ∀ s' m', At s₀ L m' ns s' → m' "pieces" = some (.ref D) → Q .next s') :
    wpAny (model prg w) A (execs turnBody (envL L f cd)) Q NoE s := by
  have hl2 := faceN_len (j := j + 2) hx
  have hl1 := faceN_len (j := j) hx
  refine wpAny_execs_cons ?_
  refine wpAny_Assign_Name ?_
  refine joinCol (cl := [("column", L + 1)]) (j + 2) (by omega) W R.hh (by exact hm) hD ho (fun s' W' => hP s' _ W') (by omega) (by rfl) (fun s' s'' C Q' W' K hq => ?_) (fun s' t' W₁ => ?_)
  · exact yCell (K.heap _ _ (W'.nw (L + 1, oc) hc).1) hoc (hq u s'' (Kp.refl _))
  refine ySt W₁ fun s₁ W₁ => ?_
  refine wpAny_execs_cons ?_
  refine wpAny_Assign_Name ?_
  refine yCallFn W₁ T.g T.gOutside T.fOutside (yLd W₁ (by rfl) ⟨W₁.kp, do_outside (T.keeps W₁.kp.heap) (R.le (by omega)) (faceN (j + 2) xs) t' (by omega) fun s₂ t₂ K₂ => ?_⟩)
  refine ySt (W₁.on K₂) fun s₂ W₂ => ?_
  refine wpAny_execs_cons (wpAny_If ?_)
  refine wpAny_isTrue_BoolOp (wpAny_allTrue_Or_cons (wpAny_isTrue_Compare1 ?_))
  refine yCallFn W₂ T.g T.gAlone T.fAlone (yLd W₂ (by exact hf) ⟨W₂.kp, do_alone (T.keeps W₂.kp.heap) (R.le (by omega)) (faceN j xs) t (by omega) fun s₃ t₃ K₃ => ?_⟩)
  have W₃ := W₂.on K₃
  refine yLd W₃ (by rfl) (neSame sd.alone (wpAny_truthy_bool ?_))
  refine wpAny_allTrue_Or_cons (wpAny_isTrue_Compare1 ?_)
  refine yCallFn W₃ T.g T.gStrip T.fStrip (yLd W₃ (by rfl) ⟨W₃.kp, do_strip (T.keeps W₃.kp.heap) (R.le (by omega)) (faceN (j + 2) xs) t' (by omega) fun s₄ t₄ K₄ => ?_⟩)
  have W₄ := W₃.on K₄
  refine yLd W₄ (by rfl) (neSame sd.strip (wpAny_truthy_bool ?_))
  refine wpAny_allTrue_Or_nil ?_
  refine wpAny_execs_nil ?_
  refine wpAny_execs_cons (wpAny_If (wpAny_isTrue_Compare1 ?_))
  refine yCallFn W₄ T.g T.gAlone T.fAlone ?_
  refine yCallFn W₄ T.g T.gStrip T.fStrip (yLd W₄ (by exact hf) ⟨W₄.kp, do_strip (T.keeps W₄.kp.heap) (R.le (by omega)) (faceN j xs) t (by omega) fun s₅ t₅ K₅ => ?_⟩)
  have W₅ := W₄.on K₅
  refine ⟨W₅.kp, do_alone (T.keeps W₅.kp.heap) (R.le (by omega)) (stripP (faceN j xs)) t₅ sd.short fun s₆ t₆ K₆ => ?_⟩
  have W₆ := W₅.on K₆
  refine yLd W₆ (by rfl) (neSame sd.both (wpAny_truthy_bool ?_))
  refine wpAny_execs_nil ?_
  refine wpAny_execs_cons ?_
  refine wpAny_Assign_Name ?_
  refine yCallFn W₆ T.g T.gStruck T.fStruck (yLd W₆ (by rfl) ⟨W₆.kp, do_struck (T.keeps W₆.kp.heap) (R.le (by omega)) (outsideP (faceN (j + 2) xs)) t₂ sd.short' fun s₇ K₇ => ?_⟩)
  refine ySt (W₆.on K₇) fun s₇ W₇ => ?_
  refine wpAny_execs_cons (wpAny_If ?_)
  refine wpAny_isTrue_BoolOp (wpAny_allTrue_Or_cons (wpAny_isTrue_Compare1 ?_))
  refine yCallFn W₇ T.g T.gCheck T.fCheck (yLd W₇ (by exact hf) ⟨W₇.kp, do_check (T.keeps W₇.kp.heap) (R.le (by omega)) (faceN j xs) t (by omega) fun s₈ K₈ => ?_⟩)
  have W₈ := W₇.on K₈
  refine yLd W₈ (by rfl) (isNotSame sd.face (wpAny_truthy_bool ?_))
  refine wpAny_allTrue_Or_cons (wpAny_isTrue_Compare1 ?_)
  refine yCallFn W₈ T.g T.gCheck T.fCheck (yLd W₈ (by rfl) ⟨W₈.kp, do_check (T.keeps W₈.kp.heap) (R.le (by omega)) (faceN (j + 2) xs) t' (by omega) fun s₉ K₉ => ?_⟩)
  have W₉ := W₈.on K₉
  refine yLd W₉ (by rfl) (isNotSame sd.row (wpAny_truthy_bool ?_))
  refine wpAny_allTrue_Or_nil ?_
  exact wpAny_execs_nil (wpAny_execs_nil (h _ _ W₉ (by exact hm)))
end
end Mine

namespace Mine

def TupObj (o : Obj) (items : Array Value) : Prop := o.cls = .type "tuple" ∧ ∃ n, o.data = .seq items n
theorem TupObj.at {h : Heap} {P : Addr} {o : Obj} {items : Array Value} (x : TupObj o items) (e : h.get? P = some o) : h.IsTuple P items := ⟨o, e, x.1, x.2⟩

section
variable {w : World} {A : Around} {E : Value → Shared → Prop} {s s₀ : Shared} {mg mb : Str → Option Value} {L : Addr} {m : Str → Option Value} {ns : List (Addr × Obj)} {Q : Value → Shared → Prop} {env : Env}
theorem xNewTupleN {vs : List Value} (W : At s₀ L m ns s) (h : ∀ s' P o, At s₀ L m ((P, o) :: ns) s' → TupObj o vs.toArray → P ∉ ns.map (·.1) → Q (.ref P) s') (hsz : vs.length ≤ sizeLine := by size_fits) : wpAny (model prg w) A (newTuple vs) Q E s :=
  newTuple_N W.fr W.nw (fun h' F N => h _ _ _ (W.to (tk := s.toks) F N) ⟨rfl, 0, rfl⟩ fun hm => by
    obtain ⟨z, hz, e⟩ := List.mem_map.mp hm
    exact absurd (Heap.lt_size (W.nw z hz).1) (e ▸ Nat.lt_irrefl _)) hsz

set_option maxHeartbeats 8000000 in
/-- the loop over the two pairs -/
theorem law_loop {f : Addr} {cd : Value} {xs : List Int} {D I P P0 P1 : Addr} {o oI oc oP oP0 oP1 : Obj} {ys : Array Value} {t t0 u0 t1 u1 : Tok} {v0 : Option Value} {held : List (Addr × Obj)} {Q : Flow → Shared → Prop} {pa pb pt : Pos} {k : Nat}
    (W : At s₀ L m ((L + 1, oc) :: (I, oI) :: (P, oP) :: (P0, oP0) :: (P1, oP1) :: held) s) (T : Top0 w mg mb s₀.heap) (R : Room A 10) (F : LawFacts xs) (hx : xs.length ≤ 80)
    (hI : oI.cls = .type "tuple_iterator" ∧ oI.data = .fields #[.ref P, .int 0 0]) (hIn : I ∉ ((P, oP) :: (P0, oP0) :: (P1, oP1) :: held).map (·.1)) (hcn : L + 1 ∉ ((I, oI) :: (P, oP) :: (P0, oP0) :: (P1, oP1) :: held).map (·.1))
    (tP : TupObj oP #[.ref P0, .ref P1]) (tP0 : TupObj oP0 #[.str (S (faceN 0 xs)) t0, .int 2 u0]) (tP1 : TupObj oP1 #[.str (S (faceN 1 xs)) t1, .int 3 u1])
    (hoc : oc.data = .cell v0) (hm : m "pieces" = some (.ref D)) (hD : (D, o) ∈ held) (ho : ListObj o ys) (hP : ∀ s'' m'' ns'', At s₀ L m'' ns'' s'' → (∀ p ∈ held, p ∈ ns'') → PiecesAt s''.heap ys xs)
    (h : ∀ s' m' ns', At s₀ L m' ns' s' → Q .next s') :
    codeAny (model prg w) A (.forLoop (.Tuple [.Name "face" pa, .Name "column" pb] k pt) (.ref I) turnBody [] (envL L f cd)) (fun r s' => match r with | .ok f => Q f s' | .error _ => False) s := by
  have hIL : I ≠ L := (W.nw (I, oI) (by simp)).2.1
  have hI0 : s₀.heap.get? I = none := (W.nw (I, oI) (by simp)).2.2
  refine codeAny_forLoop_any (fun n s' => ∃ i m' oI oc v0, n = 2 - i ∧ i ≤ 2 ∧ At s₀ L m' ((L + 1, oc) :: (I, oI) :: (P, oP) :: (P0, oP0) :: (P1, oP1) :: held) s' ∧ oI.cls = .type "tuple_iterator" ∧ oI.data = .fields #[.ref P, .int ((i : Nat) : Int) 0] ∧ oc.data = .cell v0 ∧ m' "pieces" = some (.ref D)) ?_ 2
    ⟨0, m, oI, oc, v0, rfl, by omega, W, hI.1, hI.2, hoc, hm⟩
  rintro n s' ⟨i, m', oI', oc', v0', rfl, hi, W', hcls, hdat, hoc', hm'⟩
  have hIn' : I ∉ ((L + 1, oc') :: (P, oP) :: (P0, oP0) :: (P1, oP1) :: held).map (·.1) := by
    intro q
    rcases List.mem_cons.mp q with q | q
    · exact hcn (by rw [show I = L + 1 from q]; exact List.mem_cons_self ..)
    · exact hIn q
  have hit : s'.heap.IsTupleIter I P i := ⟨oI', (W'.nw (I, oI') (by simp)).1, hcls, hdat⟩
  have htP : s'.heap.IsTuple P #[.ref P0, .ref P1] := tP.at (W'.nw (P, oP) (by simp)).1
  have turn : ∀ (j : Nat) (Pj : Addr) (oj : Obj) (tj uj : Tok), i = j → j < 2 → (Pj, oj) ∈ ((P, oP) :: (P0, oP0) :: (P1, oP1) :: held) → TupObj oj #[.str (S (faceN j xs)) tj, .int ((j + 2 : Nat) : Int) uj] → Side xs j →
      ∀ h', h'.IsTupleIter I P (i + 1) → Heap.SameBut I s'.heap h' →
      wpAny (model prg w) A (letOwnedTupleGo (.Tuple [.Name "face" pa, .Name "column" pb] k pt) (.ref I) (.ref Pj)) (fun _ s₁' =>
          wpAny (model prg w) A (assign (.Tuple [.Name "face" pa, .Name "column" pb] k pt) (envL L f cd) (.ref Pj)) (fun _ s₂ => wpAny (model prg w) A (execs turnBody (envL L f cd)) (fun f s₃ => match f with
            | .next | .cont => ∃ m, m < 2 - i ∧ ∃ i m' oI oc v0, m = 2 - i ∧ i ≤ 2 ∧ At s₀ L m' ((L + 1, oc) :: (I, oI) :: (P, oP) :: (P0, oP0) :: (P1, oP1) :: held) s₃ ∧ oI.cls = .type "tuple_iterator" ∧ oI.data = .fields #[.ref P, .int ((i : Nat) : Int) 0] ∧ oc.data = .cell v0 ∧ m' "pieces" = some (.ref D)
            | .brk => Q .next s₃
            | .ret v => Q (.ret v) s₃) NoE s₂) NoE s₁') NoE { s' with heap := h' } := by
    rintro j Pj oj tj uj rfl hj hmem htj sd h' hit' hs'
    have W₁ : At s₀ L m' ((L + 1, oc') :: (P, oP) :: (P0, oP0) :: (P1, oP1) :: held) { s' with heap := h' } :=
      (W'.sub (ns' := (L + 1, oc') :: (P, oP) :: (P0, oP0) :: (P1, oP1) :: held) (by
        intro p hp
        rcases List.mem_cons.mp hp with rfl | hp
        · exact List.mem_cons_self ..
        · exact List.mem_cons_of_mem _ (List.mem_cons_of_mem _ hp))).gone hs' hIL hI0 hIn'
    obtain ⟨oI₂, hoI₂, hc₂, hd₂⟩ := hit'
    have W₂ : At s₀ L m' ((I, oI₂) :: (L + 1, oc') :: (P, oP) :: (P0, oP0) :: (P1, oP1) :: held) { s' with heap := h' } := W₁.more hoI₂ hI0 hIL
    generalize ({ s' with heap := h' } : Shared) = s₂ at W₂
    refine letGo_tupleiter ⟨oI₂, (W₂.nw (I, oI₂) (List.mem_cons_self ..)).1, hc₂, hd₂⟩ ?_
    have ht := htj.at (W₂.nw (Pj, oj) (List.mem_cons_of_mem _ (List.mem_cons_of_mem _ hmem))).1
    refine wpAny_assign_Tuple R.hh ht rfl rfl fun h₃ hx₃ => ?_
    have K₃ : Kp s₂ { s₂ with heap := h₃ } := ⟨fun b o e => hx₃ b o (Nat.ne_of_lt (Heap.lt_size e)) e, fun _ _ e => e, id, rfl⟩
    have W₃ := (W₂.on K₃).sub (ns' := (L + 1, oc') :: (I, oI₂) :: (P, oP) :: (P0, oP0) :: (P1, oP1) :: held) (by
      intro p hp
      rcases List.mem_cons.mp hp with rfl | hp
      · exact List.mem_cons_of_mem _ (List.mem_cons_self ..)
      · rcases List.mem_cons.mp hp with rfl | hp
        · exact List.mem_cons_self ..
        · exact List.mem_cons_of_mem _ (List.mem_cons_of_mem _ hp))
    generalize ({ s₂ with heap := h₃ } : Shared) = s₃ at W₃
    show wpAny _ A (assignInOrder [assign (.Name "face" _) _, assign (.Name "column" _) _] [_, _]) _ _ _
    refine assignInOrder_cons (wpAny_assign_Name (ySt W₃ fun s₄ W₄ => ?_))
    refine assignInOrder_cons (wpAny_assign_Name (xStC W₄ hoc' hcn fun s₅ oc₅ W₅ hoc₅ => ?_))
    refine assignInOrder_nil ?_
    refine law_turn W₅ T R hj sd hx (by exact hm') (by simp [hD]) ho (fun s'' m'' W'' => hP s'' m'' _ W'' fun p hp => by simp [hp]) (by rfl) (by simp) hoc₅ fun s₆ m₆ W₆ hm₆ => ?_
    exact ⟨2 - (i + 1), by omega, i + 1, m₆, oI₂, oc₅, _, rfl, by omega, W₆, hc₂, hd₂, hoc₅, hm₆⟩
  have up : ∀ {α : Type} {M : Sem α} {Q : α → Shared → Prop} {s : Shared} {E : Value → Shared → Prop}, wpAny (model prg w) A M Q NoE s → wpAny (model prg w) A M Q E s := fun h => wpAny_mono h (fun _ _ x => x) fun _ _ x => x.elim
  by_cases h2 : i = 2
  · refine wpAny_pyNext_tuple_end R.hh hit htP (by subst h2; rfl) fun h' hx' => ?_
    refine wpAny_execs_nil ?_
    have K : At s₀ L m' [] { s' with heap := h' } := ⟨⟨W'.fr.ns.at fun o e => hx' _ o (Ne.symm hIL) e, fun b o e => hx' b o (fun q => by rw [q, hI0] at e; cases e) (W'.fr.keep b o e), W'.fr.above⟩, News.nil, W'.gens, W'.bare, W'.os⟩
    exact h _ _ _ K
  · have h01 : i = 0 ∨ i = 1 := by omega
    rcases h01 with h01 | h01
    · refine wpAny_pyNext_tuple_item hit htP (x := .ref P0) (by subst h01; rfl) fun h' hit' hs' => ?_
      have tt := turn 0 P0 oP0 t0 u0 h01 (by omega) (by simp) tP0 F.s0 h' hit' hs'
      exact wpAny_mono tt (fun _ s₁ x => wpAny_mono x (fun _ s₂ y => wpAny_mono y (fun fl s₃ z => by cases fl <;> exact z) fun _ _ z => z.elim) fun _ _ z => z.elim) fun _ _ z => z.elim
    · refine wpAny_pyNext_tuple_item hit htP (x := .ref P1) (by subst h01; rfl) fun h' hit' hs' => ?_
      have tt := turn 1 P1 oP1 t1 u1 h01 (by omega) (by simp) tP1 F.s1 h' hit' hs'
      exact wpAny_mono tt (fun _ s₁ x => wpAny_mono x (fun _ s₂ y => wpAny_mono y (fun fl s₃ z => by cases fl <;> exact z) fun _ _ z => z.elim) fun _ _ z => z.elim) fun _ _ z => z.elim
end
end Mine

namespace Mine

section
variable {w : World} {A : Around} {s : Shared} {mg mb : Str → Option Value} {Q : Value → Shared → Prop}

set_option maxHeartbeats 8000000 in
theorem do_law (T : Top0 w mg mb s.heap) (R : Room A 12) {f a : Addr} (hf : FnAt s.heap f "law" tLaw) {vs : List Value} {xs : List Int} (hl : s.heap.IsList a vs.toArray) (hi : IntsAre vs xs) (hx : xs.length ≤ 63) (F : ∀ zs : List Int, zs.length ≤ 80 → LawFacts zs)
    (h : ∀ s', Kp s s' → Q (.bool true) s') : wpAny (model prg w) A (call (.ref f) [.ref a]) Q NoE s := by
  refine xEnterC (z := "column") hf T.lim R.lt (x := "script") (fun _ _ _ => by rfl) (fun cd s₁ oc W hoc => ?_)
  have R' := R.deeper (envOfC "law" tLaw.scope s.heap.objs.size f (.ref cd))
  generalize hA : A.deeper (envOfC "law" tLaw.scope s.heap.objs.size f (.ref cd)) = A' at R' ⊢
  refine wpAny_execs_cons ?_
  refine law_drawn (a := a) W T (by rfl) hl (IntItems.of hi) hx fun s₂ D₀ o₀ ys₀ zs W₂ ho₀ hi₀ hz => ?_
  refine wpAny_execs_cons ?_
  refine law_pieces W₂ T (R'.le (by omega)) (by rfl) (List.mem_cons_self ..) ho₀ hi₀ hz fun s₃ D o ys held W₃ ho hP hheld hDn => ?_
  have FF := F zs hz
  have hl0 := faceN_len (j := 0) hz
  have hl1 := faceN_len (j := 1) hz
  refine wpAny_execs_cons ?_
  refine wpAny_Assign_Name ?_
  refine joinCol (cl := []) 0 (by omega) W₃ R'.hh (by rfl) (by simp) ho (fun s' W' => hP s' _ _ W' fun p hp => List.mem_append_left _ hp) (by omega) (by rfl) (fun s' s'' C Q' W' K hq => kInt fun s₃ u K => hq u s₃ K) (fun s₄ t₄ W₄ => ?_)
  refine ySt W₄ fun s₄ W₄ => ?_
  refine wpAny_execs_cons ?_
  refine law_prep (x := faceN 0 zs) (t := t₄) W₄ T (R'.le (by omega)) (by rfl) (by omega) FF.sgn fun s₅ t₅ W₅ => ?_
  rw [FF.prep] at W₅
  refine wpAny_execs_cons ?_
  refine wpAny_If (wpAny_isTrue_Compare1 ?_)
  refine yLd W₅ (by rfl) ?_
  refine joinCol (cl := []) 1 (by omega) W₅ R'.hh (by rfl) (by simp) ho (fun s' W' => hP s' _ _ W' fun p hp => List.mem_append_left _ hp) (by omega) (by rfl) (fun s' s'' C Q' W' K hq => kInt fun s₃ u K => hq u s₃ K) (fun s₆ t₆ W₆ => ?_)
  refine neSame rfl (wpAny_truthy_bool ?_)
  refine wpAny_execs_nil ?_
  refine wpAny_execs_cons ?_
  refine wpAny_For ?_
  refine Tuple_ ?_
  refine spliced_more ?_
  refine Tuple_ ?_
  refine spliced_more (yLd W₆ (by rfl) ?_)
  refine spliced_more (xInt W₆ fun s₇ u₇ W₇ => ?_)
  refine spliced_none ?_
  refine xNewTupleN W₇ fun s₇ P0 oP0 W₇ tP0 hP0 => ?_
  refine spliced_more ?_
  refine Tuple_ ?_
  refine spliced_more (yLd W₇ (by rfl) ?_)
  refine spliced_more (xInt W₇ fun s₈ u₈ W₈ => ?_)
  refine spliced_none ?_
  refine xNewTupleN W₈ fun s₈ P1 oP1 W₈ tP1 hP1 => ?_
  refine spliced_none ?_
  refine xNewTupleN W₈ fun s₉ P oP W₉ tP hPn => ?_
  refine wpAny_pyIter_tuple (tP.at (W₉.nw (P, oP) (List.mem_cons_self ..)).1) ?_
  have hsz : ∀ p ∈ ((P, oP) :: (P1, oP1) :: (P0, oP0) :: (held ++ (D, o) :: (D₀, o₀) :: [(s.heap.objs.size + 1, oc)])), p.1 < s₉.heap.objs.size := fun p hp => Heap.lt_size (W₉.nw p hp).1
  have W₁₀ := (W₉.on (kp_push' s₉ { cls := .type "tuple_iterator", data := .fields #[.ref P, .int 0 0] })).more (D := s₉.heap.objs.size) (o := { cls := .type "tuple_iterator", data := .fields #[.ref P, .int 0 0] }) (Heap.get?_push_size _ rfl) (W₉.kp.absent (fresh_of (Nat.le_refl _))) (Ne.symm (Nat.ne_of_lt W₉.fr.ns.lt))
  generalize hIa : s₉.heap.objs.size = I at W₁₀ hsz
  generalize ({ s₉ with heap := s₉.heap.push { cls := .type "tuple_iterator", data := .fields #[.ref P, .int 0 0] } } : Shared) = s₁₀ at W₁₀ ⊢
  have hne : ∀ p ∈ ((P, oP) :: (P1, oP1) :: (P0, oP0) :: (held ++ (D, o) :: (D₀, o₀) :: [(s.heap.objs.size + 1, oc)])), p.1 ≠ I := fun p hp => Nat.ne_of_lt (hsz p hp)
  refine codeAny_mono (law_loop (xs := zs) (D := D) (I := I) (P := P) (P0 := P0) (P1 := P1) (o := o) (oI := { cls := .type "tuple_iterator", data := .fields #[.ref P, .int 0 0] }) (oc := oc) (oP := oP) (oP0 := oP0) (oP1 := oP1) (ys := ys) (held := held ++ [(D, o)]) (t := t₄)
    (Q := fun fl₀ s' => match fl₀ with
      | .next => wpAny (model prg w) A' (execs (tLaw.body.drop 6) (envOfC "law" tLaw.scope s.heap.objs.size f (.ref cd))) (fun fl s' => Q (match fl with | .ret v => v | _ => .none) s') NoE s'
      | _ => False)
    (W₁₀.sub ?_) T (R'.le (by omega)) FF hz ⟨rfl, rfl⟩ ?_ ?_ tP tP0 tP1 hoc (by rfl) (by simp) ho (fun s'' m'' ns'' W'' hsub => hP s'' m'' ns'' W'' fun p hp => hsub p (by simp [hp])) (fun s' m' ns' W' => ?_)) ?_
  · intro p hp
    simp only [List.mem_cons, List.mem_append, List.not_mem_nil, or_false] at hp ⊢
    rcases hp with rfl | rfl | rfl | rfl | rfl | hp | rfl <;> simp_all
  · intro hm
    obtain ⟨p, hp, e⟩ := List.mem_map.mp hm
    refine hne p ?_ e
    simp only [List.mem_cons, List.mem_append, List.not_mem_nil, or_false] at hp ⊢
    rcases hp with rfl | rfl | rfl | hp | rfl <;> simp_all
  · intro hm
    simp only [List.map_cons, List.map_append, List.map_nil, List.mem_cons, List.mem_append, List.not_mem_nil, or_false, not_or] at hm hP0 hP1 hPn hDn
    rcases hm with e | e | e | e | e | e
    · exact hne (s.heap.objs.size + 1, oc) (by simp) e
    · exact hPn.2.2.2.2.2 e.symm
    · exact hP0.2.2.2 e.symm
    · exact hP1.2.2.2.2 e.symm
    · obtain ⟨p, hp, e⟩ := List.mem_map.mp e
      exact hheld p hp (by simp [e])
    · exact hDn.2 e.symm
  · refine wpAny_execs_cons (wpAny_Return_some (constBool ?_))
    exact h _ W'.kp
  · intro rr s' hq'
    cases rr with
    | ok f =>
      cases f with
      | next => exact hq'
      | ret v => exact hq'.elim
      | brk => exact hq'.elim
      | cont => exact hq'.elim
    | error e => exact hq'.elim
end
end Mine

namespace Mine

theorem sl2_nat {x : List Nat} {a b : Nat} (h1 : a ≤ b) (h2 : b ≤ x.length) : sl2 x (a : Int) (b : Int) = (x.drop a).take (b - a) := by
  have h := slice_closesL (x := S x) (i := (a : Int)) (j := (b : Int)) (by omega) (by omega) (by rw [S_length]; omega)
  unfold sl2
  rw [eq_of_beq h, S_toList]
  have e1 : ((a : Int)).toNat = a := by omega
  have e2 : ((b : Int) - (a : Int)).toNat = b - a := by omega
  rw [e1, e2]
theorem sl1_nat {x : List Nat} {a : Nat} (h : a ≤ x.length) : sl1 x (a : Int) = x.drop a := by
  have e := slice_from_eq (x := S x) (i := (a : Int)) (b := (x.length : Int)) (by omega) (by rw [S_length]; omega) (by rw [S_length])
  unfold sl1
  rw [e, S_toList]
  have e1 : ((a : Int)).toNat = a := by omega
  have e2 : ((x.length : Int) - (a : Int)).toNat = x.length - a := by omega
  rw [e1, e2]
  exact List.take_of_length_le (by rw [List.length_drop]; omega)

/-- a whole unit: a sign, or a backslash and a sign -/
def WU (u : List Nat) : Prop := (∃ c, c ≠ 92 ∧ u = [c]) ∨ ∃ c, u = [92, c]
noncomputable def tagU : Nat → List (List Nat) → List (Nat × List Nat)
  | _, [] => []
  | i, u :: r => (i + u.length - 1, u) :: tagU (i + u.length) r
theorem units_tag : ∀ {U : List (List Nat)} {i : Nat}, (∀ u ∈ U, WU u) → unitsE false i U.flatten = tagU i U
  | [], i, _ => by simp [unitsE, tagU]
  | u :: r, i, h => by
    have hr := units_tag (U := r) (i := i + u.length) fun v hv => h v (List.mem_cons_of_mem _ hv)
    rcases h u (List.mem_cons_self ..) with ⟨c, hc, rfl⟩ | ⟨c, rfl⟩
    · show unitsE false i (c :: r.flatten) = _
      have : unitsE false i (c :: r.flatten) = (i, [c]) :: unitsE false (i + 1) r.flatten := by simp [unitsE, hc]
      rw [this]
      show _ = (i + 1 - 1, [c]) :: tagU (i + 1) r
      rw [show i + 1 - 1 = i by omega]
      exact congrArg _ hr
    · show unitsE false i (92 :: c :: r.flatten) = _
      have : unitsE false i (92 :: c :: r.flatten) = (i + 1, [92, c]) :: unitsE false (i + 1 + 1) r.flatten := by simp [unitsE]
      rw [this]
      show _ = (i + 2 - 1, [92, c]) :: tagU (i + 2) r
      rw [show i + 2 - 1 = i + 1 by omega]
      exact congrArg _ hr
theorem tag_snd : ∀ (U : List (List Nat)) (i : Nat), (tagU i U).map (·.2) = U
  | [], _ => rfl
  | u :: r, i => by simp [tagU, tag_snd r]

/-- what stands outside the quotes -/
noncomputable def outG {β : Type} (q : β → Bool) : Option (List β) → List β → List β
  | none, [] => []
  | some b, [] => b
  | none, u :: r => if q u then outG q (some [u]) r else u :: outG q none r
  | some b, u :: r => if q u then outG q none r else outG q (some (b ++ [u])) r

def isQ (u : List Nat) : Bool := decide (u = [34])

theorem aloneP_U {U : List (List Nat)} (h : ∀ u ∈ U, WU u) : aloneP U.flatten = (U.filter seenU).flatten := by
  unfold aloneP; rw [units_tag h, tag_snd]

theorem drop_flat (A : List Nat) (B : List Nat) : (A ++ B).drop A.length = B := by simp

theorem strip_run {x : List Nat} : ∀ (V : List (List Nat)) (i : Nat) (st : Nat) (res : List (List Nat)), (∀ u ∈ V, WU u) → st ≤ i → i ≤ x.length → x.drop i = V.flatten →
    (∀ F, F = (tagU i V).foldl (stepQ x) ((st : Int), none, res) → 0 ≤ F.1 ∧ F.1 ≤ x.length ∧ F.2.2.flatten ++ x.drop F.1.toNat = res.flatten ++ (x.drop st).take (i - st) ++ (outG isQ none V).flatten) ∧
    (∀ F (q : Nat) (B : List (List Nat)), st ≤ q → q ≤ i → B.flatten = (x.drop q).take (i - q) → F = (tagU i V).foldl (stepQ x) ((st : Int), some (q : Int), res) →
      0 ≤ F.1 ∧ F.1 ≤ x.length ∧ F.2.2.flatten ++ x.drop F.1.toNat = res.flatten ++ (x.drop st).take (q - st) ++ (outG isQ (some B) V).flatten)
  | [], i, st, res, _, hsi, hix, hx => by
    have hlen : x.length ≤ i := by
      have := congrArg List.length hx
      rw [List.length_drop] at this; simp at this; omega
    have hi : i = x.length := by omega
    constructor
    · rintro F rfl
      refine ⟨by show (0 : Int) ≤ st; omega, by show (st : Int) ≤ _; omega, ?_⟩
      show res.flatten ++ x.drop ((st : Int)).toNat = res.flatten ++ (x.drop st).take (i - st) ++ []
      rw [show ((st : Int)).toNat = st by omega, List.take_of_length_le (by rw [List.length_drop]; omega), List.append_nil]
    · rintro F q B h1 h2 hB rfl
      refine ⟨by show (0 : Int) ≤ st; omega, by show (st : Int) ≤ _; omega, ?_⟩
      show res.flatten ++ x.drop ((st : Int)).toNat = res.flatten ++ (x.drop st).take (q - st) ++ B.flatten
      rw [show ((st : Int)).toNat = st by omega, hB, List.append_assoc]
      congr 1
      rw [List.take_of_length_le (l := x.drop q) (by rw [List.length_drop]; omega)]
      have : x.drop q = (x.drop st).drop (q - st) := by rw [List.drop_drop, show st + (q - st) = q by omega]
      rw [this, List.take_append_drop]
  | u :: V, i, st, res, hW, hsi, hix, hx => by
    have hWV : ∀ v ∈ V, WU v := fun v hv => hW v (List.mem_cons_of_mem _ hv)
    have hlen := congrArg List.length hx
    rw [List.length_drop, List.flatten_cons, List.length_append] at hlen
    have hi' : i + u.length ≤ x.length := by omega
    have hx' : x.drop (i + u.length) = V.flatten := by
      rw [← List.drop_drop, hx, List.flatten_cons]; exact drop_flat _ _
    have hu : (x.drop i).take u.length = u := by rw [hx, List.flatten_cons]; simp
    have hgrow : ∀ k, k ≤ i → (x.drop k).take (i + u.length - k) = (x.drop k).take (i - k) ++ u := fun k hk => by
      rw [show i + u.length - k = (i - k) + u.length by omega, List.take_add]
      congr 1
      rw [List.drop_drop, show k + (i - k) = i by omega]; exact hu
    constructor
    · rintro F rfl
      show _ ∧ _
      rw [tagU, List.foldl_cons]
      by_cases hq : u = [34]
      · subst hq
        have hs : stepQ x ((st : Int), none, res) (i + [34].length - 1, [34]) = ((st : Int), some ((i : Nat) : Int), res) := by
          unfold stepQ; simp
        rw [hs]
        have ih := (strip_run V (i + 1) st res hWV (by omega) hi' hx').2 _ i [[34]] hsi (by omega) (by rw [show i + 1 - i = 1 by omega]; simpa using hu.symm) rfl
        obtain ⟨a, b, c⟩ := ih
        exact ⟨a, b, c⟩
      · have hs : stepQ x ((st : Int), none, res) (i + u.length - 1, u) = ((st : Int), none, res) := by
          unfold stepQ; rw [if_neg hq]
        rw [hs]
        obtain ⟨a, b, c⟩ := (strip_run V (i + u.length) st res hWV (by omega) hi' hx').1 _ rfl
        refine ⟨a, b, ?_⟩
        rw [c, hgrow st hsi]
        have : outG isQ none (u :: V) = u :: outG isQ none V := by
          show (if isQ u = true then _ else _) = _
          rw [if_neg (by unfold isQ; simp [hq])]
        rw [this, List.flatten_cons]; simp
    · rintro F q B h1 h2 hB rfl
      rw [tagU, List.foldl_cons]
      by_cases hq : u = [34]
      · subst hq
        have hs : stepQ x ((st : Int), some (q : Int), res) (i + [34].length - 1, [34]) = (((i + 1 : Nat) : Int), none, if (st : Int) = q then res else res ++ [sl2 x st q]) := by
          unfold stepQ; simp
        rw [hs]
        obtain ⟨a, b, c⟩ := (strip_run V (i + 1) (i + 1) (if (st : Int) = q then res else res ++ [sl2 x st q]) hWV (Nat.le_refl _) hi' hx').1 _ rfl
        refine ⟨a, b, ?_⟩
        refine c.trans ?_
        have hres : (if (st : Int) = q then res else res ++ [sl2 x st q]).flatten = res.flatten ++ (x.drop st).take (q - st) := by
          by_cases e : st = q
          · subst e; simp
          · rw [if_neg (by omega), List.flatten_append, sl2_nat h1 (by omega)]; simp
        rw [hres]
        have : outG isQ (some B) ([34] :: V) = outG isQ none V := rfl
        rw [this]; simp
      · have hs : stepQ x ((st : Int), some (q : Int), res) (i + u.length - 1, u) = ((st : Int), some (q : Int), res) := by
          unfold stepQ; rw [if_neg hq]
        rw [hs]
        obtain ⟨a, b, c⟩ := (strip_run V (i + u.length) st res hWV (by omega) hi' hx').2 _ q (B ++ [u]) h1 (by omega) (by rw [List.flatten_append, hB, hgrow q h2]; simp) rfl
        refine ⟨a, b, ?_⟩
        rw [c]
        have : outG isQ (some B) (u :: V) = outG isQ (some (B ++ [u])) V := by
          show (if isQ u = true then _ else _) = _
          rw [if_neg (by unfold isQ; simp [hq])]
        rw [this]

theorem outG_noq {β : Type} {q : β → Bool} : ∀ {U : List β}, (∀ u ∈ U, q u = false) → outG q none U = U
  | [], _ => rfl
  | u :: r, h => by
    show (if q u = true then _ else _) = _
    rw [if_neg (by rw [h u (List.mem_cons_self ..)]; decide), outG_noq fun v hv => h v (List.mem_cons_of_mem _ hv)]

theorem stripP_U {U : List (List Nat)} (h : ∀ u ∈ U, WU u) : stripP U.flatten = (outG isQ none U).flatten := by
  unfold stripP
  by_cases hq : 34 ∈ U.flatten
  · rw [if_pos hq]
    obtain ⟨a, b, c⟩ := (strip_run (x := U.flatten) U 0 0 [] h (Nat.le_refl _) (Nat.zero_le _) rfl).1 (stripR U.flatten) (by unfold stripR; rw [units_tag h]; rfl)
    rw [show (([] : List (List Nat)).flatten ++ (U.flatten.drop 0).take (0 - 0)) = [] by simp, List.nil_append] at c
    rw [← c]
    by_cases hlt : (stripR U.flatten).1 < (U.flatten.length : Int)
    · rw [if_pos hlt, List.flatten_append]
      congr 1
      have : sl1 U.flatten (stripR U.flatten).1 = U.flatten.drop (stripR U.flatten).1.toNat := by
        obtain ⟨k, hk⟩ : ∃ k : Nat, (stripR U.flatten).1 = (k : Int) := ⟨(stripR U.flatten).1.toNat, by omega⟩
        rw [hk, sl1_nat (by omega), show ((k : Int)).toNat = k by omega]
      rw [this]; simp
    · rw [if_neg hlt, List.drop_eq_nil_of_le (by omega)]; simp
  · rw [if_neg hq, outG_noq]
    intro u hu
    unfold isQ
    rw [decide_eq_false_iff_not]
    rintro rfl
    exact hq (List.mem_flatten.mpr ⟨[34], hu, by simp⟩)
end Mine

namespace Mine

noncomputable def evens {β : Type} : List β → List β
  | [] => []
  | [a] => [a]
  | a :: _ :: r => a :: evens r

theorem idx_two (n : Nat) : idxOf n none none (some 2) = (List.range ((n + 1) / 2)).map (2 * ·) := by
  unfold idxOf sliceBounds sliceRange
  simp only [Option.getD_some, show (2 : Int) > 0 by decide, if_true]
  by_cases h : (0 : Int) < n
  · rw [if_pos h]
    have : (((n : Int) - 0 + 2 - 1) / 2).toNat = (n + 1) / 2 := by omega
    rw [this]
    apply List.map_congr_left
    intro k _
    omega
  · rw [if_neg h]
    have : n = 0 := by omega
    subst this; rfl

theorem evens_idx {β : Type} : ∀ (l : List β), ((List.range ((l.length + 1) / 2)).map (2 * ·)).filterMap (l[·]?) = evens l
  | [] => by simp [evens]
  | [a] => by simp [evens]
  | a :: b :: r => by
    have ih := evens_idx r
    have e : ((a :: b :: r).length + 1) / 2 = (r.length + 1) / 2 + 1 := by simp only [List.length_cons]; omega
    rw [e, List.range_succ_eq_map, List.map_cons, List.filterMap_cons, List.map_map]
    show a :: _ = a :: evens r
    rw [← ih, List.filterMap_map, List.filterMap_map]
    congr 1

theorem pick_evens {β : Type} (l : List β) : pickL l none none (some 2) = evens l := by
  unfold pickL; rw [idx_two, evens_idx]

noncomputable def joinq : List (List Nat) → List Nat
  | [] => []
  | [a] => a
  | a :: b :: r => a ++ 34 :: joinq (b :: r)

theorem join_S (y : List Nat) : ∀ ls : List (List Nat), Str.join (S y) (ls.map S) = S (match ls with | [] => [] | _ => (ls.intersperse y).flatten)
  | [] => rfl
  | [a] => by simp [Str.join]
  | a :: b :: r => by
    have ih := join_S y (b :: r)
    show S a ++ S y ++ Str.join (S y) (List.map S (b :: r)) = _
    rw [ih, S_append, S_append]
    congr 1
    simp

theorem joinq_eq : ∀ ls : List (List Nat), joinq ls = (match ls with | [] => [] | _ => (ls.intersperse [34]).flatten)
  | [] => rfl
  | [a] => by simp [joinq]
  | a :: b :: r => by
    have ih := joinq_eq (b :: r)
    show a ++ 34 :: joinq (b :: r) = _
    rw [ih]; simp

theorem map_back (ls : List Str) : (ls.map (·.cps.toList)).map S = ls := by
  rw [List.map_map]
  conv => rhs; rw [← List.map_id ls]
  exact List.map_congr_left fun a _ => (S_of a).symm

theorem parts_join (x : List Nat) : joinq (partsOf x) = x := by
  have h := StrLaws.join_split (S x) (S [34])
  rw [← map_back (Txt.split (S x) (S [34])), join_S] at h
  rw [joinq_eq]
  exact S_inj.mp h
theorem parts_free (x p : List Nat) (h : p ∈ partsOf x) : 34 ∉ p := by
  obtain ⟨z, hz, rfl⟩ := List.mem_map.mp h
  exact StrLaws.split_free (S x) 34 z hz

def isQc (c : Nat) : Bool := decide (c = 34)
theorem out_none : ∀ {p t : List Nat}, 34 ∉ p → outG isQc none (p ++ t) = p ++ outG isQc none t
  | [], t, _ => rfl
  | c :: r, t, h => by
    have h1 : c ≠ 34 := fun e => h (e ▸ List.mem_cons_self ..)
    show (if isQc c = true then _ else c :: outG isQc none (r ++ t)) = c :: (r ++ outG isQc none t)
    rw [if_neg (by unfold isQc; simp [h1]), out_none fun m => h (List.mem_cons_of_mem _ m)]
theorem out_some : ∀ {p t b : List Nat}, 34 ∉ p → outG isQc (some b) (p ++ t) = outG isQc (some (b ++ p)) t
  | [], t, b, _ => by simp
  | c :: r, t, b, h => by
    have h1 : c ≠ 34 := fun e => h (e ▸ List.mem_cons_self ..)
    show (if isQc c = true then _ else outG isQc (some (b ++ [c])) (r ++ t)) = _
    rw [if_neg (by unfold isQc; simp [h1]), out_some fun m => h (List.mem_cons_of_mem _ m)]; simp

theorem out_parts : ∀ (ps : List (List Nat)), (∀ p ∈ ps, 34 ∉ p) → 1 ≤ ps.length → outG isQc none (joinq ps) = if ps.length % 2 = 1 then (evens ps).flatten else (evens ps).flatten ++ [34] ++ ps.getLastD []
  | [], _, h => by simp at h
  | [a], hf, _ => by
    have := out_none (t := []) (hf a (by simp))
    rw [List.append_nil] at this
    show outG isQc none a = _
    rw [this]; simp [outG, evens]
  | [a, b], hf, _ => by
    show outG isQc none (a ++ 34 :: b) = _
    rw [out_none (hf a (by simp))]
    show a ++ outG isQc (some [34]) b = _
    have := out_some (t := []) (b := [34]) (hf b (by simp))
    rw [List.append_nil] at this
    rw [this]; simp [outG, evens]
  | a :: b :: c :: r, hf, _ => by
    have ih := out_parts (c :: r) (fun p hp => hf p (by simp [List.mem_cons.mp hp])) (by simp)
    show outG isQc none (a ++ 34 :: (b ++ 34 :: joinq (c :: r))) = _
    rw [out_none (hf a (by simp))]
    show a ++ outG isQc (some [34]) (b ++ 34 :: joinq (c :: r)) = _
    rw [out_some (hf b (by simp))]
    show a ++ outG isQc none (joinq (c :: r)) = _
    rw [ih]
    have e : (a :: b :: c :: r).length % 2 = (c :: r).length % 2 := by simp only [List.length_cons]; omega
    rw [e]
    have e2 : evens (a :: b :: c :: r) = a :: evens (c :: r) := rfl
    have e3 : (a :: b :: c :: r).getLastD [] = (c :: r).getLastD [] := by simp [List.getLastD]
    rw [e2, e3, List.flatten_cons]
    split <;> simp

theorem outsideP_eq (x : List Nat) : outsideP x = outG isQc none x := by
  conv => rhs; rw [← parts_join x]
  rw [out_parts _ (fun p hp => parts_free x p hp) (partsOf_len x).1]
  unfold outsideP
  rw [pick_evens]

theorem outG_map {β γ : Type} {q : γ → Bool} {q' : β → Bool} (f : β → γ) (hq : ∀ b, q (f b) = q' b) : ∀ (U : List β) (o : Option (List β)), outG q (o.map (List.map f)) (U.map f) = (outG q' o U).map f
  | [], none => rfl
  | [], some b => rfl
  | u :: r, none => by
    show (if q (f u) = true then _ else _) = List.map f (if q' u = true then _ else _)
    rw [hq]
    cases q' u
    · exact congrArg (f u :: ·) (outG_map f hq r none)
    · exact outG_map f hq r (some [u])
  | u :: r, some b => by
    show (if q (f u) = true then _ else _) = List.map f (if q' u = true then _ else _)
    rw [hq]
    cases q' u
    · have := outG_map f hq r (some (b ++ [u]))
      simpa using this
    · exact outG_map f hq r none

theorem outG_filter {β : Type} {q k : β → Bool} (hq : ∀ b, q b = true → k b = true) : ∀ (U : List β) (o : Option (List β)), (outG q o U).filter k = outG q (o.map (List.filter k)) (U.filter k)
  | [], none => rfl
  | [], some b => rfl
  | u :: r, none => by
    have e1 : outG q none (u :: r) = if q u then outG q (some [u]) r else u :: outG q none r := rfl
    rw [e1]
    cases h : q u
    · cases hk : k u
      · rw [List.filter_cons_of_neg (by simp [hk])]
        simp only [Bool.false_eq_true, if_false]
        rw [List.filter_cons_of_neg (by simp [hk])]
        exact outG_filter hq r none
      · rw [List.filter_cons_of_pos hk]
        simp only [Bool.false_eq_true, if_false]
        rw [List.filter_cons_of_pos hk, outG_filter hq r none]
        show _ = (if q u = true then _ else _)
        rw [h]; rfl
    · rw [List.filter_cons_of_pos (hq u h)]
      simp only [if_true]
      rw [outG_filter hq r (some [u])]
      show outG q (some (List.filter k [u])) _ = (if q u = true then _ else _)
      rw [h, List.filter_cons_of_pos (hq u h)]; rfl
  | u :: r, some b => by
    have e1 : outG q (some b) (u :: r) = if q u then outG q none r else outG q (some (b ++ [u])) r := rfl
    rw [e1]
    cases h : q u
    · simp only [Bool.false_eq_true, if_false]
      rw [outG_filter hq r (some (b ++ [u]))]
      show outG q (some (List.filter k (b ++ [u]))) _ = outG q (some (List.filter k b)) _
      cases hk : k u
      · rw [List.filter_cons_of_neg (by simp [hk]), List.filter_append, List.filter_cons_of_neg (by simp [hk])]; simp
      · rw [List.filter_cons_of_pos hk, List.filter_append, List.filter_cons_of_pos hk]
        show _ = (if q u = true then _ else _)
        rw [h]; rfl
    · rw [List.filter_cons_of_pos (hq u h)]
      simp only [if_true]
      rw [outG_filter hq r none]
      show _ = (if q u = true then _ else _)
      rw [h]; rfl

theorem outG_mem {β : Type} {q : β → Bool} : ∀ (U : List β) (o : Option (List β)) (u : β), u ∈ outG q o U → u ∈ U ∨ ∃ b, o = some b ∧ u ∈ b
  | [], none, u, h => nomatch h
  | [], some b, u, h => .inr ⟨b, rfl, h⟩
  | v :: r, none, u, h => by
    have e1 : outG q none (v :: r) = if q v then outG q (some [v]) r else v :: outG q none r := rfl
    rw [e1] at h
    split at h
    · rcases outG_mem r _ u h with h | ⟨b, e, h⟩
      · exact .inl (List.mem_cons_of_mem _ h)
      · cases e; exact .inl (by rw [List.mem_singleton.mp h]; exact List.mem_cons_self ..)
    · rcases List.mem_cons.mp h with rfl | h
      · exact .inl (List.mem_cons_self ..)
      · rcases outG_mem r _ u h with h | ⟨b, e, h⟩
        · exact .inl (List.mem_cons_of_mem _ h)
        · cases e
  | v :: r, some b, u, h => by
    have e1 : outG q (some b) (v :: r) = if q v then outG q none r else outG q (some (b ++ [v])) r := rfl
    rw [e1] at h
    split at h
    · rcases outG_mem r _ u h with h | ⟨b, e, h⟩
      · exact .inl (List.mem_cons_of_mem _ h)
      · cases e
    · rcases outG_mem r _ u h with h | ⟨b', e, h⟩
      · exact .inl (List.mem_cons_of_mem _ h)
      · cases e
        rcases List.mem_append.mp h with h | h
        · exact .inr ⟨b, rfl, h⟩
        · exact .inl (by rw [List.mem_singleton.mp h]; exact List.mem_cons_self ..)

theorem outG_len {q : List Nat → Bool} : ∀ (U : List (List Nat)), (outG q none U).flatten.length ≤ U.flatten.length ∧ ∀ b, (outG q (some b) U).flatten.length ≤ b.flatten.length + U.flatten.length
  | [] => ⟨Nat.le_refl _, fun b => by simp [outG]⟩
  | u :: r => by
    obtain ⟨h1, h2⟩ := outG_len (q := q) r
    have e1 : outG q none (u :: r) = if q u then outG q (some [u]) r else u :: outG q none r := rfl
    have e2 : ∀ b, outG q (some b) (u :: r) = if q u then outG q none r else outG q (some (b ++ [u])) r := fun _ => rfl
    constructor
    · rw [e1]
      split
      · have := h2 [u]
        rw [List.flatten_cons, List.length_append]
        simp at this ⊢; omega
      · rw [List.flatten_cons, List.flatten_cons, List.length_append, List.length_append]; omega
    · intro b
      rw [e2]
      split
      · rw [List.flatten_cons, List.length_append]; omega
      · have := h2 (b ++ [u])
        rw [List.flatten_cons, List.length_append]
        rw [List.flatten_append, List.length_append] at this
        simp at this ⊢; omega
end Mine

namespace Mine

noncomputable def chkU : Int → List (List Nat) → Bool
  | n, [] => n == 0
  | n, u :: r => if u = [40] then chkU (n + 1) r else if u = [41] then (if n - 1 < 0 then false else chkU (n - 1) r) else chkU n r
noncomputable def chkC : Int → List Nat → Bool
  | n, [] => n == 0
  | n, c :: r => if c = 40 then chkC (n + 1) r else if c = 41 then (if n - 1 < 0 then false else chkC (n - 1) r) else chkC n r
theorem chk_U : ∀ (l : List (Nat × List Nat)) (n : Int), chk n l = chkU n (l.map (·.2))
  | [], n => rfl
  | u :: r, n => by
    show (if u.2 = [40] then chk (n + 1) r else if u.2 = [41] then (if n - 1 < 0 then false else chk (n - 1) r) else chk n r) = (if u.2 = [40] then chkU (n + 1) _ else if u.2 = [41] then (if n - 1 < 0 then false else chkU (n - 1) _) else chkU n _)
    rw [chk_U r, chk_U r, chk_U r]
theorem chkU_single : ∀ (l : List Nat) (n : Int), chkU n (l.map fun c => [c]) = chkC n l
  | [], n => rfl
  | c :: r, n => by
    show (if [c] = [40] then chkU (n + 1) _ else if [c] = [41] then (if n - 1 < 0 then false else chkU (n - 1) _) else chkU n _) = (if c = 40 then chkC (n + 1) r else if c = 41 then (if n - 1 < 0 then false else chkC (n - 1) r) else chkC n r)
    rw [chkU_single r, chkU_single r, chkU_single r]
    simp only [List.cons.injEq, and_true]
theorem chkU_seen : ∀ (l : List (List Nat)) (n : Int), chkU n (l.filter seenU) = chkU n l
  | [], n => rfl
  | u :: r, n => by
    by_cases h40 : u = [40]
    · subst h40
      rw [List.filter_cons_of_pos (by decide)]
      exact chkU_seen r (n + 1)
    · by_cases h41 : u = [41]
      · subst h41
        rw [List.filter_cons_of_pos (by decide)]
        show (if n - 1 < 0 then false else chkU (n - 1) _) = (if n - 1 < 0 then false else chkU (n - 1) _)
        rw [chkU_seen r]
      · have e : ∀ r', chkU n (u :: r') = chkU n r' := fun r' => by
          show (if u = [40] then _ else if u = [41] then _ else _) = _
          rw [if_neg h40, if_neg h41]
        rw [e]
        cases hs : seenU u
        · rw [List.filter_cons_of_neg (by simp [hs])]; exact chkU_seen r n
        · rw [List.filter_cons_of_pos hs, e]; exact chkU_seen r n

def paren (c : Nat) : Bool := decide (c ∈ [40, 41])
theorem chkC_paren : ∀ (l : List Nat) (n : Int), chkC n (l.filter paren) = chkC n l
  | [], n => rfl
  | c :: r, n => by
    by_cases h40 : c = 40
    · subst h40
      rw [List.filter_cons_of_pos (by decide)]
      exact chkC_paren r (n + 1)
    · by_cases h41 : c = 41
      · subst h41
        rw [List.filter_cons_of_pos (by decide)]
        show (if n - 1 < 0 then false else chkC (n - 1) _) = (if n - 1 < 0 then false else chkC (n - 1) _)
        rw [chkC_paren r]
      · rw [List.filter_cons_of_neg (by unfold paren; simp [h40, h41])]
        show _ = (if c = 40 then _ else if c = 41 then _ else chkC n r)
        rw [if_neg h40, if_neg h41]
        exact chkC_paren r n

theorem chkC_cancel : ∀ (a c : List Nat) (n : Int), 0 ≤ n → chkC n (a ++ 40 :: 41 :: c) = chkC n (a ++ c)
  | [], c, n, hn => by
    show (if n + 1 - 1 < 0 then false else chkC (n + 1 - 1) c) = chkC n c
    rw [if_neg (by omega), show n + 1 - 1 = n by omega]
  | x :: a, c, n, hn => by
    show (if x = 40 then chkC (n + 1) (a ++ 40 :: 41 :: c) else if x = 41 then (if n - 1 < 0 then false else chkC (n - 1) (a ++ 40 :: 41 :: c)) else chkC n (a ++ 40 :: 41 :: c)) =
      (if x = 40 then chkC (n + 1) (a ++ c) else if x = 41 then (if n - 1 < 0 then false else chkC (n - 1) (a ++ c)) else chkC n (a ++ c))
    rw [chkC_cancel a c (n + 1) (by omega), chkC_cancel a c n hn]
    by_cases h : n - 1 < 0
    · rw [if_pos h, if_pos h]
    · rw [chkC_cancel a c (n - 1) (by omega)]

noncomputable def joinp : List (List Nat) → List Nat
  | [] => []
  | [a] => a
  | a :: b :: r => a ++ 40 :: 41 :: joinp (b :: r)
theorem joinp_eq : ∀ ls : List (List Nat), joinp ls = (match ls with | [] => [] | _ => (ls.intersperse [40, 41]).flatten)
  | [] => rfl
  | [a] => by simp [joinp]
  | a :: b :: r => by
    have ih := joinp_eq (b :: r)
    show a ++ 40 :: 41 :: joinp (b :: r) = _
    rw [ih]; simp
theorem chkC_join : ∀ (ps : List (List Nat)) (pre : List Nat), chkC 0 (pre ++ joinp ps) = chkC 0 (pre ++ ps.flatten)
  | [], pre => rfl
  | [a], pre => by simp [joinp]
  | a :: b :: r, pre => by
    have ih := chkC_join (b :: r) (pre ++ a)
    show chkC 0 (pre ++ (a ++ 40 :: 41 :: joinp (b :: r))) = _
    rw [← List.append_assoc, chkC_cancel _ _ _ (Int.le_refl _), ih, List.flatten_cons (l := a), List.append_assoc]
theorem joinp_mem {c : Nat} : ∀ (ps : List (List Nat)), c ∈ ps.flatten → c ∈ joinp ps
  | [], h => by simp at h
  | [a], h => by simpa [joinp] using h
  | a :: b :: r, h => by
    rw [List.flatten_cons, List.mem_append] at h
    show c ∈ a ++ 40 :: 41 :: joinp (b :: r)
    rcases h with h | h
    · exact List.mem_append_left _ h
    · exact List.mem_append_right _ (List.mem_cons_of_mem _ (List.mem_cons_of_mem _ (joinp_mem _ h)))
theorem joinp_len : ∀ (ps : List (List Nat)), 1 ≤ ps.length → (joinp ps).length = ps.flatten.length + 2 * (ps.length - 1)
  | [], h => by simp at h
  | [a], h => by simp [joinp]
  | a :: b :: r, h => by
    have ih := joinp_len (b :: r) (by simp)
    show (a ++ 40 :: 41 :: joinp (b :: r)).length = _
    rw [List.length_append, List.length_cons, List.length_cons, ih, List.flatten_cons (l := a), List.length_append]
    simp only [List.length_cons]; omega

noncomputable def cutP (l : List Nat) : List (List Nat) := (Txt.split (S l) (S [40, 41])).map (·.cps.toList)
theorem rm_eq (l : List Nat) : rm l = (cutP l).flatten := rfl
theorem cut_join (l : List Nat) : joinp (cutP l) = l := by
  have h := StrLaws.join_split (S l) (S [40, 41])
  rw [← map_back (Txt.split (S l) (S [40, 41])), join_S] at h
  rw [joinp_eq]
  exact S_inj.mp h
theorem cut_pos (l : List Nat) : 1 ≤ (cutP l).length := by
  unfold cutP; rw [List.length_map]; exact split_pos _ _

theorem chkC_rm (l : List Nat) : chkC 0 (rm l) = chkC 0 l := by
  have := chkC_join (cutP l) []
  rw [List.nil_append, List.nil_append, cut_join] at this
  rw [rm_eq]; exact this.symm
theorem rm_mem {l : List Nat} {c : Nat} (h : c ∈ rm l) : c ∈ l := by
  rw [← cut_join l]; exact joinp_mem _ h

theorem cut_two (p r : List Nat) : 2 ≤ (cutP (p ++ 40 :: 41 :: r)).length := by
  refine Nat.le_of_not_lt fun hlt => ?_
  have h1 := cut_pos (p ++ 40 :: 41 :: r)
  have hone : (Txt.split (S (p ++ 40 :: 41 :: r)) (S [40, 41])).length = 1 := by
    unfold cutP at hlt h1; rw [List.length_map] at hlt h1; omega
  obtain ⟨z, hz⟩ := List.length_eq_one_iff.mp hone
  have hj := StrLaws.join_split (S (p ++ 40 :: 41 :: r)) (S [40, 41])
  rw [hz] at hj
  have hj' : z = S (p ++ 40 :: 41 :: r) := hj
  rcases split_head (S (p ++ 40 :: 41 :: r)) (S [40, 41]) (by decide +kernel) z (by rw [hz]; rfl) with ⟨_, hn⟩ | ⟨i, hi, hA, _⟩
  · refine hn p.length ⟨?_, ?_⟩
    · rw [S_length, S_length, List.length_append]; simp
    · unfold Builtin.Str.subAt
      rw [S_length]
      simp [S]
  · have hlen := congrArg Str.length (hi.symm.trans hj')
    have h2 := hA.1
    rw [S_length] at hlen h2
    have hs : (Builtin.Str.strSub (S (p ++ 40 :: 41 :: r)) 0 i).length ≤ i := by
      unfold Str.length
      rw [← Array.length_toList, StrLaws.strSub_toList]
      simp; omega
    rw [hlen, List.length_append] at hs
    rw [S_length, List.length_append] at h2
    simp at h2 hs; omega

theorem dyck : ∀ (b : List Nat) (n : Int), (∀ c ∈ b, c = 40 ∨ c = 41) → 0 < n → chkC n b = true → ∃ p r, 40 :: b = p ++ 40 :: 41 :: r
  | [], n, _, hn, h => by
    have : (n == 0) = true := h
    rw [beq_iff_eq] at this; omega
  | c :: b, n, hb, hn, h => by
    rcases hb c (List.mem_cons_self ..) with rfl | rfl
    · obtain ⟨p, r, e⟩ := dyck b (n + 1) (fun x hx => hb x (List.mem_cons_of_mem _ hx)) (by omega) h
      exact ⟨40 :: p, r, by rw [e]; rfl⟩
    · exact ⟨[], b, rfl⟩

theorem rmN_done : ∀ (k : Nat) (b : List Nat), (∀ c ∈ b, c = 40 ∨ c = 41) → b.length ≤ k → chkC 0 b = true → rmN k b = []
  | 0, b, _, hk, _ => by
    have : b = [] := List.eq_nil_of_length_eq_zero (by omega)
    rw [this]; rfl
  | k + 1, b, hb, hk, h => by
    show rmN k (rm b) = []
    refine rmN_done k (rm b) (fun c hc => hb c (rm_mem hc)) ?_ (by rw [chkC_rm]; exact h)
    cases b with
    | nil => exact Nat.le_trans (rm_le []) (Nat.zero_le _)
    | cons c b =>
      rcases hb c (List.mem_cons_self ..) with rfl | rfl
      · obtain ⟨p, r, e⟩ := dyck b 1 (fun x hx => hb x (List.mem_cons_of_mem _ hx)) (by omega) h
        have h2 := cut_two p r
        have h3 := joinp_len (cutP (40 :: b)) (cut_pos _)
        rw [cut_join] at h3
        rw [← e] at h2
        rw [rm_eq]
        have : (cutP (40 :: b)).length - 1 ≥ 1 := by omega
        omega
      · have : (if (0 : Int) - 1 < 0 then false else chkC (0 - 1) b) = true := h
        simp at this

theorem chkC_rmN : ∀ (k : Nat) (b : List Nat), chkC 0 (rmN k b) = chkC 0 b
  | 0, b => rfl
  | k + 1, b => by
    show chkC 0 (rmN k (rm b)) = _
    rw [chkC_rmN k, chkC_rm]

theorem struckP_eq (l : List Nat) : struckP l = chkC 0 l := by
  rw [← chkC_paren l 0]
  unfold struckP
  have hp : (l.filter fun c => decide (c ∈ [40, 41])) = l.filter paren := rfl
  rw [hp]
  rw [Bool.eq_iff_iff, decide_eq_true_eq]
  constructor
  · intro h
    rw [← chkC_rmN l.length, h]; rfl
  · intro h
    refine rmN_done _ _ (fun c hc => ?_) (List.length_filter_le _ _) h
    have := (List.mem_filter.mp hc).2
    unfold paren at this
    simpa using this
end Mine

namespace Mine

theorem seen_one {u : List Nat} (h : seenU u = true) (hW : WU u) : ∃ c, u = [c] ∧ c ≠ 92 := by
  rcases hW with ⟨c, hc, rfl⟩ | ⟨c, rfl⟩
  · exact ⟨c, rfl, hc⟩
  · exact absurd h (by rw [seenU_long (by simp)]; decide)
theorem flat_single {V : List (List Nat)} (h : ∀ u ∈ V, ∃ c, u = [c] ∧ c ≠ 92) : V.flatten.map (fun c => [c]) = V := by
  induction V with
  | nil => rfl
  | cons u r ih =>
    obtain ⟨c, rfl, _⟩ := h u (List.mem_cons_self ..)
    rw [List.flatten_cons, List.map_append, ih fun v hv => h v (List.mem_cons_of_mem _ hv)]; rfl

theorem side_of {U : List (List Nat)} {xs : List Int} {j : Nat} (hW : ∀ u ∈ U, WU u) (hf : U.flatten = faceN j xs) (hr : (U.filter seenU).flatten = faceN (j + 2) xs) (h1 : (faceN j xs).length ≤ 1000) (h2 : (faceN (j + 2) xs).length ≤ 1000) : Side xs j := by
  have hV : ∀ u ∈ U.filter seenU, ∃ c, u = [c] ∧ c ≠ 92 := fun u hu => seen_one (List.mem_filter.mp hu).2 (hW u (List.mem_filter.mp hu).1)
  have hVW : ∀ u ∈ U.filter seenU, WU u := fun u hu => hW u (List.mem_filter.mp hu).1
  have hq : ∀ u, isQ u = true → seenU u = true := fun u hu => by
    have : u = [34] := of_decide_eq_true hu
    subst this; decide
  have hmap := outG_map (q := isQ) (q' := isQc) (fun c : Nat => [c]) (fun c => by unfold isQ isQc; simp) (faceN (j + 2) xs) none
  rw [Option.map_none, ← hr, flat_single hV, hr] at hmap
  have hfil := outG_filter (q := isQ) (k := seenU) hq U none
  rw [Option.map_none, hmap] at hfil
  have hout : outG isQc none (faceN (j + 2) xs) = outsideP (faceN (j + 2) xs) := (outsideP_eq _).symm
  rw [hout] at hmap hfil
  have hoW : ∀ u ∈ outG isQ none U, WU u := fun u hu => by
    rcases outG_mem U none u hu with h | ⟨b, e, _⟩
    · exact hW u h
    · cases e
  have hstrip : stripP (faceN j xs) = (outG isQ none U).flatten := by rw [← hf]; exact stripP_U hW
  have hstrip2 : stripP (faceN (j + 2) xs) = (outG isQ none (U.filter seenU)).flatten := by rw [← hr]; exact stripP_U hVW
  have hoVW : ∀ u ∈ outG isQ none (U.filter seenU), WU u := fun u hu => by
    rcases outG_mem _ none u hu with h | ⟨b, e, _⟩
    · exact hVW u h
    · cases e
  have hs2 : stripP (faceN (j + 2) xs) = outsideP (faceN (j + 2) xs) := by rw [hstrip2, hmap, flatten_single]
  refine ⟨?_, hs2, ?_, ?_, ?_, ?_, ?_⟩
  · rw [← hf, aloneP_U hW, hr]
  · rw [hstrip, aloneP_U hoW, hfil, flatten_single]
  · unfold checkP
    rw [hstrip, units_tag hoW, chk_U, tag_snd, ← chkU_seen, hfil, chkU_single, struckP_eq]
  · unfold checkP
    rw [hstrip2, units_tag hoVW, chk_U, tag_snd, hmap, chkU_single, struckP_eq]
  · rw [hstrip]
    have := (outG_len (q := isQ) U).1
    rw [hf] at this; omega
  · rw [← hs2, hstrip2]
    have := (outG_len (q := isQ) (U.filter seenU)).1
    rw [hr] at this; omega

theorem unseen_B1 (m : Int) : isB1 (unseenN m) = true := by
  obtain ⟨h0, h1⟩ := fmod_range m 27 (by decide)
  unfold unseenN
  generalize m.fmod 27 = r at *
  have : r = 0 ∨ r = 1 ∨ r = 2 ∨ r = 3 ∨ r = 4 ∨ r = 5 ∨ r = 6 ∨ r = 7 ∨ r = 8 ∨ r = 9 ∨ r = 10 ∨ r = 11 ∨ r = 12 ∨ r = 13 ∨ r = 14 ∨ r = 15 ∨ r = 16 ∨ r = 17 ∨ r = 18 ∨ r = 19 ∨ r = 20 ∨ r = 21 ∨ r = 22 ∨ r = 23 ∨ r = 24 ∨ r = 25 ∨ r = 26 := by omega
  rcases this with rfl | rfl | rfl | rfl | rfl | rfl | rfl | rfl | rfl | rfl | rfl | rfl | rfl | rfl | rfl | rfl | rfl | rfl | rfl | rfl | rfl | rfl | rfl | rfl | rfl | rfl | rfl <;> decide +kernel

theorem notB1_big {i : Nat} (hi : i < 26) : isB1 ((119808 + i : Nat) : Int) = false := by
  unfold isB1 b1List
  simp only [List.contains_cons, List.contains_nil, Bool.or_false, Bool.or_eq_false_iff, beq_eq_false_iff_ne]
  omega

structure SignOk (c : Nat) (m : List Nat) : Prop where
  b1 : isB1 c = false
  ne : c ≠ 92
  sg : Sgn c
  b3 : b3 c = m
  pos : 1 ≤ m.length
  mb : ∀ x ∈ m, isB1 x = false ∧ x ≠ 92

theorem signOk (n : Int) : SignOk (signN n) (meantN n) := by
  have h1 := (ixN_eq n).2
  have h2 := (ltN_eq n).2
  unfold signN meantN
  generalize ixN n = i at *
  generalize ltN n = l at *
  have : i = 0 ∨ i = 1 ∨ i = 2 ∨ i = 3 ∨ i = 4 ∨ i = 5 ∨ i = 6 ∨ i = 7 := by omega
  rcases this with rfl | rfl | rfl | rfl | rfl | rfl | rfl | rfl
  · show SignOk 40 [40]
    exact ⟨by decide, by decide, .inr (.inl rfl), by decide, by decide, by decide⟩
  · show SignOk 41 [41]
    exact ⟨by decide, by decide, .inr (.inr (.inl rfl)), by decide, by decide, by decide⟩
  · show SignOk 34 [34]
    exact ⟨by decide, by decide, .inr (.inr (.inr (.inl rfl))), by decide, by decide, by decide⟩
  · show SignOk 40 [40]
    exact ⟨by decide, by decide, .inr (.inl rfl), by decide, by decide, by decide⟩
  · show SignOk 41 [41]
    exact ⟨by decide, by decide, .inr (.inr (.inl rfl)), by decide, by decide, by decide⟩
  · show SignOk 223 [115, 115]
    exact ⟨by decide, by decide, .inr (.inr (.inr (.inr (.inl rfl)))), by decide, by decide, by decide⟩
  · show SignOk 64259 [102, 102, 105]
    exact ⟨by decide, by decide, .inr (.inr (.inr (.inr (.inr (.inl rfl))))), by decide +kernel, by decide, by decide⟩
  · show SignOk (119808 + l) [97 + l]
    refine ⟨notB1_big h2, by omega, .inr (.inr (.inr (.inr (.inr (.inr ⟨by omega, by omega⟩))))), b3_big h2, by simp, fun x hx => ?_⟩
    rw [List.mem_singleton.mp hx]
    refine ⟨?_, by omega⟩
    unfold isB1 b1List
    simp only [List.contains_cons, List.contains_nil, Bool.or_false, Bool.or_eq_false_iff, beq_eq_false_iff_ne]
    omega

def bareU (n : Int) (k : Nat) : List (List Nat) := [92, unseenN (fuZ n + k)] :: List.replicate ((1 + (fuZ n + k).fmod 2).toNat - 1) [unseenN (fuZ n + k)]
def units0 (n : Int) : List (List Nat) := (List.range (slN n)).flatMap (bareU n) ++ (if owN n = 1 then [[92, signN n]] else [[signN n]])
theorem bareU_flat (n : Int) (k : Nat) : (bareU n k).flatten = seenK n k := by
  have h := fmod_range (fuZ n + k) 2 (by decide)
  unfold bareU seenK
  obtain ⟨d, hd⟩ : ∃ d, (1 + (fuZ n + k).fmod 2).toNat = d + 1 := ⟨(fuZ n + k).fmod 2 |>.toNat, by omega⟩
  rw [hd]
  simp [List.replicate_succ]
theorem units0_flat (n : Int) : (units0 n).flatten = c0 n := by
  have h := (owN_eq n).2
  unfold units0 c0 textN
  rw [List.flatten_append, List.append_assoc]
  congr 1
  · rw [List.flatMap_def, List.flatten_flatten, List.map_map]
    congr 1
    exact List.map_congr_left fun k _ => bareU_flat n k
  · have : owN n = 0 ∨ owN n = 1 := by omega
    rcases this with e | e
    · rw [e]; simp [bsl]
    · rw [e]; simp [bsl]
theorem b1_ne {x : Nat} (h : isB1 x = true) : x ≠ 92 := by
  rintro rfl
  exact absurd h (by decide)
theorem units0_WU (n : Int) : ∀ u ∈ units0 n, WU u := by
  intro u hu
  unfold units0 at hu
  rcases List.mem_append.mp hu with hu | hu
  · obtain ⟨k, _, hu⟩ := List.mem_flatMap.mp hu
    rcases List.mem_cons.mp hu with rfl | hu
    · exact .inr ⟨_, rfl⟩
    · rw [(List.mem_replicate.mp hu).2]
      exact .inl ⟨_, b1_ne (unseen_B1 _), rfl⟩
  · split at hu
    · rw [List.mem_singleton.mp hu]; exact .inr ⟨_, rfl⟩
    · rw [List.mem_singleton.mp hu]; exact .inl ⟨_, (signOk n).ne, rfl⟩
theorem units0_row (n : Int) : ((units0 n).filter seenU).flatten = c2 n := by
  have h := (owN_eq n).2
  have hz : ((List.range (slN n)).flatMap (bareU n)).filter seenU = [] := by
    rw [List.filter_eq_nil_iff]
    intro u hu
    obtain ⟨k, _, hu⟩ := List.mem_flatMap.mp hu
    rcases List.mem_cons.mp hu with rfl | hu
    · rw [seenU_long (by simp)]; decide
    · rw [(List.mem_replicate.mp hu).2]
      have : seenU [unseenN (fuZ n + k)] = !isB1 (unseenN (fuZ n + k)) := rfl
      rw [this, unseen_B1]; decide
  unfold units0 c2
  rw [List.filter_append, hz, List.nil_append]
  have hs : seenU [signN n] = true := by
    have : seenU [signN n] = !isB1 (signN n) := rfl
    rw [this, (signOk n).b1]; rfl
  have : owN n = 0 ∨ owN n = 1 := by omega
  rcases this with e | e
  · rw [e]; simp [hs]
  · rw [e]; simp [seenU_long]

def units1 (n : Int) : List (List Nat) := List.replicate ((slN n + owN n) / 2) [92, 92] ++ (if (slN n + owN n) % 2 = 1 then (92 :: (meantN n).take 1) :: ((meantN n).drop 1).map (fun c => [c]) else (meantN n).map (fun c => [c]))
theorem bsl_two (k : Nat) : (List.replicate k [92, 92]).flatten = bsl (2 * k) := by
  unfold bsl
  induction k with
  | zero => rfl
  | succ k ih => rw [List.replicate_succ, List.flatten_cons, ih, show 2 * (k + 1) = 2 * k + 1 + 1 by omega, List.replicate_succ, List.replicate_succ]; rfl
theorem bsl_add (a b : Nat) : bsl (a + b) = bsl a ++ bsl b := by
  unfold bsl; rw [← List.replicate_append_replicate, List.flatten_append]
theorem units1_flat (n : Int) : (units1 n).flatten = c1 n := by
  unfold units1 c1
  generalize slN n + owN n = k
  rw [List.flatten_append, bsl_two]
  by_cases h : k % 2 = 1
  · rw [if_pos h, List.flatten_cons, flatten_single]
    conv => rhs; rw [show k = 2 * (k / 2) + 1 by omega, bsl_add]
    rw [List.append_assoc]
    congr 1
    show 92 :: ((meantN n).take 1 ++ (meantN n).drop 1) = [92] ++ meantN n
    rw [List.take_append_drop]; rfl
  · rw [if_neg h, flatten_single]
    conv => rhs; rw [show k = 2 * (k / 2) by omega]
theorem units1_WU (n : Int) : ∀ u ∈ units1 n, WU u := by
  have hm := signOk n
  intro u hu
  unfold units1 at hu
  rcases List.mem_append.mp hu with hu | hu
  · rw [(List.mem_replicate.mp hu).2]; exact .inr ⟨_, rfl⟩
  · split at hu
    · rcases List.mem_cons.mp hu with rfl | hu
      · obtain ⟨c, r, e⟩ : ∃ c r, meantN n = c :: r := by
          cases hmm : meantN n with
          | nil => have := hm.pos; rw [hmm] at this; simp at this
          | cons c r => exact ⟨c, r, rfl⟩
        rw [e]; exact .inr ⟨c, rfl⟩
      · obtain ⟨c, hc, rfl⟩ := List.mem_map.mp hu
        exact .inl ⟨c, (hm.mb c (List.mem_of_mem_drop hc)).2, rfl⟩
    · obtain ⟨c, hc, rfl⟩ := List.mem_map.mp hu
      exact .inl ⟨c, (hm.mb c hc).2, rfl⟩
theorem filter_single {l : List Nat} (h : ∀ c ∈ l, isB1 c = false) : (l.map fun c => [c]).filter seenU = l.map fun c => [c] := by
  rw [List.filter_eq_self]
  intro u hu
  obtain ⟨c, hc, rfl⟩ := List.mem_map.mp hu
  have : seenU [c] = !isB1 c := rfl
  rw [this, h c hc]; rfl
theorem units1_row (n : Int) : ((units1 n).filter seenU).flatten = c3 n := by
  have hm := signOk n
  unfold units1 c3
  have hf : ((slN n : Int) + (owN n : Int)).fmod 2 = (((slN n + owN n) % 2 : Nat) : Int) := by
    rw [Int.fmod_eq_emod_of_nonneg _ (by decide)]; omega
  rw [hf, sl1_nat (by have := hm.pos; omega)]
  generalize slN n + owN n = k
  have hz : (List.replicate (k / 2) [92, 92]).filter seenU = [] := by
    rw [List.filter_eq_nil_iff]
    intro u hu
    rw [(List.mem_replicate.mp hu).2, seenU_long (by simp)]; decide
  rw [List.filter_append, hz, List.nil_append]
  by_cases h : k % 2 = 1
  · rw [if_pos h, h]
    have hl : seenU (92 :: (meantN n).take 1) = false := seenU_long (by
      have := hm.pos
      rw [List.length_cons, List.length_take]; omega)
    rw [List.filter_cons_of_neg (by simp [hl]), filter_single fun c hc => (hm.mb c (List.mem_of_mem_drop hc)).1, flatten_single]
  · rw [if_neg h, show k % 2 = 0 by omega, filter_single fun c hc => (hm.mb c hc).1, flatten_single]; rfl

theorem faces {f : Int → List (List Nat)} {j : Nat} (hf : ∀ n, (f n).flatten = colN j n) (hr : ∀ n, ((f n).filter seenU).flatten = colN (j + 2) n) (hW : ∀ n, ∀ u ∈ f n, WU u) (xs : List Int) (hx : xs.length ≤ 80) : Side xs j := by
  have h1 : (xs.flatMap f).flatten = faceN j xs := by
    unfold faceN
    rw [List.flatMap_def, List.flatten_flatten, List.map_map]
    congr 1
    exact List.map_congr_left fun n _ => hf n
  have h2 : ((xs.flatMap f).filter seenU).flatten = faceN (j + 2) xs := by
    unfold faceN
    rw [List.flatMap_def, List.filter_flatten, List.flatten_flatten, List.map_map, List.map_map]
    congr 1
    exact List.map_congr_left fun n _ => hr n
  exact side_of (fun u hu => by obtain ⟨n, _, hu⟩ := List.mem_flatMap.mp hu; exact hW n u hu) h1 h2 (Nat.le_trans (faceN_len hx) (by omega)) (Nat.le_trans (faceN_len hx) (by omega))

theorem c0_mem (n : Int) : ∀ c ∈ c0 n, isB1 c = true ∨ Sgn c := by
  intro c hc
  rw [← units0_flat] at hc
  obtain ⟨u, hu, hc⟩ := List.mem_flatten.mp hc
  unfold units0 at hu
  rcases List.mem_append.mp hu with hu | hu
  · obtain ⟨k, _, hu⟩ := List.mem_flatMap.mp hu
    rcases List.mem_cons.mp hu with rfl | hu
    · simp only [List.mem_cons, List.not_mem_nil, or_false] at hc
      rcases hc with rfl | rfl
      · exact .inr (.inl rfl)
      · exact .inl (unseen_B1 _)
    · rw [(List.mem_replicate.mp hu).2] at hc
      rw [List.mem_singleton.mp hc]; exact .inl (unseen_B1 _)
  · split at hu
    · rw [List.mem_singleton.mp hu] at hc
      simp only [List.mem_cons, List.not_mem_nil, or_false] at hc
      rcases hc with rfl | rfl
      · exact .inr (.inl rfl)
      · exact .inr (signOk n).sg
    · rw [List.mem_singleton.mp hu] at hc
      rw [List.mem_singleton.mp hc]; exact .inr (signOk n).sg

theorem map_bsl (k : Nat) : ((bsl k).map mapSign).flatten = bsl k := by
  unfold bsl
  induction k with
  | zero => rfl
  | succ k ih =>
    rw [List.replicate_succ, List.flatten_cons, List.map_append, List.flatten_append, ih]
    congr 1
theorem map_seenK (n : Int) (k : Nat) : ((seenK n k).map mapSign).flatten = [92] := by
  unfold seenK
  generalize (1 + (fuZ n + k).fmod 2).toNat = d
  rw [List.map_cons, List.flatten_cons]
  have : ((((List.replicate d [unseenN (fuZ n + k)]).flatten).map mapSign).flatten) = [] := by
    rw [List.flatten_eq_nil_iff]
    intro l hl
    obtain ⟨c, hc, rfl⟩ := List.mem_map.mp hl
    obtain ⟨u, hu, hc⟩ := List.mem_flatten.mp hc
    rw [(List.mem_replicate.mp hu).2] at hc
    rw [List.mem_singleton.mp hc]
    unfold mapSign
    rw [unseen_B1]; rfl
  rw [this]; decide +kernel
theorem map_c0 (n : Int) : ((c0 n).map mapSign).flatten = c1 n := by
  have hs := signOk n
  unfold c0 c1
  rw [List.map_append, List.map_append, List.flatten_append, List.flatten_append, map_bsl, bsl_add]
  have h1 : ((textN n).map mapSign).flatten = bsl (slN n) := by
    unfold textN bsl
    rw [List.map_flatten, List.flatten_flatten, List.map_map, List.map_map]
    have : ((List.range (slN n)).map ((List.flatten ∘ List.map mapSign) ∘ seenK n)) = List.replicate (slN n) [92] := by
      rw [List.eq_replicate_iff]
      refine ⟨by simp, fun u hu => ?_⟩
      obtain ⟨k, _, rfl⟩ := List.mem_map.mp hu
      exact map_seenK n k
    exact congrArg List.flatten this
  have h2 : (([signN n]).map mapSign).flatten = meantN n := by
    show mapSign (signN n) ++ [] = _
    unfold mapSign
    rw [hs.b1, List.append_nil]; exact hs.b3
  rw [h1, h2]

theorem lawFacts (xs : List Int) (hx : xs.length ≤ 80) : LawFacts xs := by
  refine ⟨fun c hc hb => ?_, ?_, faces units0_flat units0_row units0_WU xs hx, faces units1_flat units1_row units1_WU xs hx⟩
  · obtain ⟨u, hu, hc⟩ := List.mem_flatten.mp hc
    obtain ⟨n, _, rfl⟩ := List.mem_map.mp hu
    rcases c0_mem n c hc with h | h
    · rw [hb] at h; cases h
    · exact h
  · unfold faceN
    rw [List.map_flatten, List.flatten_flatten, List.map_map, List.map_map]
    congr 1
    exact List.map_congr_left fun n _ => map_c0 n
end Mine

namespace Mine
namespace Hd
noncomputable section
set_option linter.unusedVariables false
def o3 (P : Params) : Obj := Obj.mk (Value.type "dict") none (Data.dict #[DictEntry.mk (PyData.keyHash P (Str.ofString "__name__")) (Value.str (Str.ofString "__name__") 165) (Value.str (Str.ofString "cpy313.stringprep") 221), DictEntry.mk (PyData.keyHash P (Str.ofString "__doc__")) (Value.str (Str.ofString "__doc__") 166) Value.none, DictEntry.mk (PyData.keyHash P (Str.ofString "__package__")) (Value.str (Str.ofString "__package__") 167) Value.none, DictEntry.mk (PyData.keyHash P (Str.ofString "__loader__")) (Value.str (Str.ofString "__loader__") 168) (Value.builtin "__main__.__loader__#opaque"), DictEntry.mk (PyData.keyHash P (Str.ofString "__spec__")) (Value.str (Str.ofString "__spec__") 169) Value.none, DictEntry.mk (PyData.keyHash P (Str.ofString "__annotations__")) (Value.str (Str.ofString "__annotations__") 170) (Value.ref 6), DictEntry.mk (PyData.keyHash P (Str.ofString "__builtins__")) (Value.str (Str.ofString "__builtins__") 171) (Value.ref 4), DictEntry.mk (PyData.keyHash P (Str.ofString "__file__")) (Value.str (Str.ofString "__file__") 173) (Value.str (Str.ofString "/claim/cut.py") 172), DictEntry.mk (PyData.keyHash P (Str.ofString "__cached__")) (Value.str (Str.ofString "__cached__") 174) Value.none, DictEntry.mk (PyData.keyHash P (Str.ofString "_iter_escaped_chars")) (Value.str (Str.ofString "_iter_escaped_chars") 198) (Value.ref 21), DictEntry.mk (PyData.keyHash P (Str.ofString "_strip_quoted_realnames")) (Value.str (Str.ofString "_strip_quoted_realnames") 210) (Value.ref 28), DictEntry.mk (PyData.keyHash P (Str.ofString "_check_parenthesis")) (Value.str (Str.ofString "_check_parenthesis") 220) (Value.ref 35), DictEntry.mk (PyData.keyHash P (Str.ofString "b1_set")) (Value.str (Str.ofString "b1_set") 282) (Value.ref 43), DictEntry.mk (PyData.keyHash P (Str.ofString "in_table_b1")) (Value.str (Str.ofString "in_table_b1") 289) (Value.ref 53)] 14) #[]
def o11 (P : Params) : Obj := Obj.mk (Value.type "tuple") none (Data.seq #[]) #[]
def o12 (P : Params) : Obj := Obj.mk Value.none none (Data.fields #[Value.int 2 0, Value.int 0 0, Value.ref 20, Value.int 15 0, Value.int 0 0, Value.ref 27, Value.int 33 0, Value.int 0 0, Value.ref 34, Value.int 46 0, Value.int 0 0, Value.ref 52]) #[]
def o13 (P : Params) : Obj := Obj.mk (Value.type "code") none (Data.fields #[Value.str (Str.ofString "<module>") 182, Value.str (Str.ofString "<module>") 183, Value.str (Str.ofString "/claim/cut.py") 184, Value.int 1 0, Value.int 0 0, Value.int 0 0, Value.int 0 0, Value.int 0 0, Value.ref 11, Value.bool Bool.false, Value.int 181 0, Value.ref 12, Value.none, Value.none, Value.none, Value.none, Value.int 185 0, Value.int 1 0, Value.str (Str.ofString "/claim/cut.py") 186]) #[]
def o14 (P : Params) : Obj := Obj.mk (Value.type "frame") none Data.plain #[some (Value.ref 13), some (Value.ref 3), some (Value.ref 3), none, some (Value.str (Str.ofString "__main__") 164), none, some (Value.ref 0)]
def o15 (P : Params) : Obj := Obj.mk (Value.type "tuple") none (Data.seq #[]) #[]
def o16 (P : Params) : Obj := Obj.mk Value.none none (Data.fields #[]) #[]
def o17 (P : Params) : Obj := Obj.mk (Value.type "tuple") none (Data.seq #[Value.str (Str.ofString "addr") 192, Value.str (Str.ofString "pos") 193, Value.str (Str.ofString "escape") 194, Value.str (Str.ofString "ch") 195]) #[]
def o18 (P : Params) : Obj := Obj.mk (Value.type "tuple") none (Data.seq #[]) #[]
def o19 (P : Params) : Obj := Obj.mk Value.none none (Data.func (FuncData.mk (Str.ofString "_iter_escaped_chars") (Str.ofString "_iter_escaped_chars") tIter.params (FuncBody.stmts tIter.body) tIter.scope 0 [] Value.none Value.none Value.none Value.none none Value.none Value.none 0)) #[]
def o20 (P : Params) : Obj := Obj.mk (Value.type "code") none (Data.fields #[Value.str (Str.ofString "_iter_escaped_chars") 189, Value.str (Str.ofString "_iter_escaped_chars") 190, Value.str (Str.ofString "/claim/cut.py") 191, Value.int 2 0, Value.int 1 0, Value.int 0 0, Value.int 0 0, Value.int 35 0, Value.ref 15, Value.bool Bool.true, Value.int 181 0, Value.ref 16, Value.none, Value.ref 17, Value.ref 18, Value.ref 19, Value.int 196 0, Value.int 2 0, Value.str (Str.ofString "/claim/cut.py") 197]) #[]
def o21 (P : Params) : Obj := Obj.mk (Value.type "function") none (Data.func (FuncData.mk (Str.ofString "_iter_escaped_chars") (Str.ofString "_iter_escaped_chars") tIter.params (FuncBody.stmts tIter.body) tIter.scope 3 [] Value.none Value.none Value.none (Value.str (Str.ofString "cpy313.email.utils") 187) none (Value.ref 20) Value.none 0)) #[]
def o22 (P : Params) : Obj := Obj.mk (Value.type "tuple") none (Data.seq #[]) #[]
def o23 (P : Params) : Obj := Obj.mk Value.none none (Data.fields #[]) #[]
def o24 (P : Params) : Obj := Obj.mk (Value.type "tuple") none (Data.seq #[Value.str (Str.ofString "addr") 202, Value.str (Str.ofString "start") 203, Value.str (Str.ofString "open_pos") 204, Value.str (Str.ofString "result") 205, Value.str (Str.ofString "pos") 206, Value.str (Str.ofString "ch") 207]) #[]
def o25 (P : Params) : Obj := Obj.mk (Value.type "tuple") none (Data.seq #[]) #[]
def o26 (P : Params) : Obj := Obj.mk Value.none none (Data.func (FuncData.mk (Str.ofString "_strip_quoted_realnames") (Str.ofString "_strip_quoted_realnames") tStrip.params (FuncBody.stmts tStrip.body) tStrip.scope 0 [] Value.none Value.none Value.none Value.none none Value.none Value.none 0)) #[]
def o27 (P : Params) : Obj := Obj.mk (Value.type "code") none (Data.fields #[Value.str (Str.ofString "_strip_quoted_realnames") 199, Value.str (Str.ofString "_strip_quoted_realnames") 200, Value.str (Str.ofString "/claim/cut.py") 201, Value.int 15 0, Value.int 1 0, Value.int 0 0, Value.int 0 0, Value.int 3 0, Value.ref 22, Value.bool Bool.true, Value.int 181 0, Value.ref 23, Value.none, Value.ref 24, Value.ref 25, Value.ref 26, Value.int 208 0, Value.int 15 0, Value.str (Str.ofString "/claim/cut.py") 209]) #[]
def o28 (P : Params) : Obj := Obj.mk (Value.type "function") none (Data.func (FuncData.mk (Str.ofString "_strip_quoted_realnames") (Str.ofString "_strip_quoted_realnames") tStrip.params (FuncBody.stmts tStrip.body) tStrip.scope 3 [] Value.none Value.none Value.none (Value.str (Str.ofString "cpy313.email.utils") 187) none (Value.ref 27) Value.none 0)) #[]
def o29 (P : Params) : Obj := Obj.mk (Value.type "tuple") none (Data.seq #[]) #[]
def o30 (P : Params) : Obj := Obj.mk Value.none none (Data.fields #[]) #[]
def o31 (P : Params) : Obj := Obj.mk (Value.type "tuple") none (Data.seq #[Value.str (Str.ofString "addr") 214, Value.str (Str.ofString "opens") 215, Value.str (Str.ofString "pos") 216, Value.str (Str.ofString "ch") 217]) #[]
def o32 (P : Params) : Obj := Obj.mk (Value.type "tuple") none (Data.seq #[]) #[]
def o33 (P : Params) : Obj := Obj.mk Value.none none (Data.func (FuncData.mk (Str.ofString "_check_parenthesis") (Str.ofString "_check_parenthesis") tCheck.params (FuncBody.stmts tCheck.body) tCheck.scope 0 [] Value.none Value.none Value.none Value.none none Value.none Value.none 0)) #[]
def o34 (P : Params) : Obj := Obj.mk (Value.type "code") none (Data.fields #[Value.str (Str.ofString "_check_parenthesis") 211, Value.str (Str.ofString "_check_parenthesis") 212, Value.str (Str.ofString "/claim/cut.py") 213, Value.int 33 0, Value.int 1 0, Value.int 0 0, Value.int 0 0, Value.int 3 0, Value.ref 29, Value.bool Bool.true, Value.int 181 0, Value.ref 30, Value.none, Value.ref 31, Value.ref 32, Value.ref 33, Value.int 218 0, Value.int 33 0, Value.str (Str.ofString "/claim/cut.py") 219]) #[]
def o35 (P : Params) : Obj := Obj.mk (Value.type "function") none (Data.func (FuncData.mk (Str.ofString "_check_parenthesis") (Str.ofString "_check_parenthesis") tCheck.params (FuncBody.stmts tCheck.body) tCheck.scope 3 [] Value.none Value.none Value.none (Value.str (Str.ofString "cpy313.email.utils") 187) none (Value.ref 34) Value.none 0)) #[]
def o36 (P : Params) : Obj := Obj.mk (Value.type "list") none (Data.seq #[Value.int 173 223, Value.int 847 224, Value.int 6150 225, Value.int 6155 226, Value.int 6156 227, Value.int 6157 228, Value.int 8203 229, Value.int 8204 230, Value.int 8205 231, Value.int 8288 232, Value.int 65279 233]) #[]
def o37 (P : Params) : Obj := Obj.mk (Value.type "range") none (Data.fields #[Value.int 65024 234, Value.int 65040 235, Value.int 1 236]) #[]
def o38 (P : Params) : Obj := Obj.mk (Value.type "list") none (Data.seq #[Value.int 65024 239, Value.int 65025 240, Value.int 65026 241, Value.int 65027 242, Value.int 65028 243, Value.int 65029 244, Value.int 65030 245, Value.int 65031 246, Value.int 65032 247, Value.int 65033 248, Value.int 65034 249, Value.int 65035 250, Value.int 65036 251, Value.int 65037 252, Value.int 65038 253, Value.int 65039 254] 18) #[]
def o39 (P : Params) : Obj := Obj.mk (Value.type "range_iterator") none (Data.fields #[Value.int 65040 0, Value.int 0 0, Value.int 1 0]) #[]
def o40 (P : Params) : Obj := Obj.mk (Value.type "tuple") none (Data.seq #[]) #[]
def o41 (P : Params) : Obj := Obj.mk (Value.type "StopIteration") none (Data.fields #[Value.ref 40, Value.none, Value.none, Value.none, Value.bool Bool.false, Value.none]) #[]
def o42 (P : Params) : Obj := Obj.mk (Value.type "list") none (Data.seq #[Value.int 173 223, Value.int 847 224, Value.int 6150 225, Value.int 6155 226, Value.int 6156 227, Value.int 6157 228, Value.int 8203 229, Value.int 8204 230, Value.int 8205 231, Value.int 8288 232, Value.int 65279 233, Value.int 65024 239, Value.int 65025 240, Value.int 65026 241, Value.int 65027 242, Value.int 65028 243, Value.int 65029 244, Value.int 65030 245, Value.int 65031 246, Value.int 65032 247, Value.int 65033 248, Value.int 65034 249, Value.int 65035 250, Value.int 65036 251, Value.int 65037 252, Value.int 65038 253, Value.int 65039 254]) #[]
def o43 (led : Bool) : Obj := Obj.mk (Value.type "set") none (Data.set #[(65024, Value.int 65024 239), (65025, Value.int 65025 240), (65026, Value.int 65026 241), (65027, Value.int 65027 242), (65028, Value.int 65028 243), (65029, Value.int 65029 244), (6150, Value.int 6150 225), (65030, Value.int 65030 245), (65031, Value.int 65031 246), (65032, Value.int 65032 247), (65033, Value.int 65033 248), (6155, Value.int 6155 226), (6156, Value.int 6156 227), (6157, Value.int 6157 228), (8203, Value.int 8203 229), (8204, Value.int 8204 230), (8205, Value.int 8205 231), (65034, Value.int 65034 249), (65035, Value.int 65035 250), (65036, Value.int 65036 251), (65037, Value.int 65037 252), (65038, Value.int 65038 253), (65039, Value.int 65039 254), (173, Value.int 173 223), (847, Value.int 847 224), (8288, Value.int 8288 232), (65279, Value.int 65279 233)] 29 (SetTable.mk 127 #[0, 1, 2, 3, 4, 5, 6, 7, 8, 9, 10, 11, 12, 13, 14, 15, 16, 17, 18, 19, 20, 21, 22, 45, 79, 96, 127] #[] 0 led 2 Bool.true)) #[]
def o44 (P : Params) : Obj := Obj.mk (Value.type "list_iterator") none (Data.fields #[Value.none, Value.int 27 0]) #[]
def o45 (P : Params) : Obj := Obj.mk (Value.type "tuple") none (Data.seq #[]) #[]
def o46 (P : Params) : Obj := Obj.mk (Value.type "StopIteration") none (Data.fields #[Value.ref 45, Value.none, Value.none, Value.none, Value.bool Bool.false, Value.none]) #[]
def o47 (P : Params) : Obj := Obj.mk (Value.type "tuple") none (Data.seq #[]) #[]
def o48 (P : Params) : Obj := Obj.mk Value.none none (Data.fields #[]) #[]
def o49 (P : Params) : Obj := Obj.mk (Value.type "tuple") none (Data.seq #[Value.str (Str.ofString "code") 286]) #[]
def o50 (P : Params) : Obj := Obj.mk (Value.type "tuple") none (Data.seq #[]) #[]
def o51 (P : Params) : Obj := Obj.mk Value.none none (Data.func (FuncData.mk (Str.ofString "in_table_b1") (Str.ofString "in_table_b1") tInB1.params (FuncBody.stmts tInB1.body) tInB1.scope 0 [] Value.none Value.none Value.none Value.none none Value.none Value.none 0)) #[]
def o52 (P : Params) : Obj := Obj.mk (Value.type "code") none (Data.fields #[Value.str (Str.ofString "in_table_b1") 283, Value.str (Str.ofString "in_table_b1") 284, Value.str (Str.ofString "/claim/cut.py") 285, Value.int 46 0, Value.int 1 0, Value.int 0 0, Value.int 0 0, Value.int 3 0, Value.ref 47, Value.bool Bool.true, Value.int 181 0, Value.ref 48, Value.none, Value.ref 49, Value.ref 50, Value.ref 51, Value.int 287 0, Value.int 46 0, Value.str (Str.ofString "/claim/cut.py") 288]) #[]
def o53 (P : Params) : Obj := Obj.mk (Value.type "function") none (Data.func (FuncData.mk (Str.ofString "in_table_b1") (Str.ofString "in_table_b1") tInB1.params (FuncBody.stmts tInB1.body) tInB1.scope 3 [] Value.none Value.none Value.none (Value.str (Str.ofString "cpy313.stringprep") 221) none (Value.ref 52) Value.none 0)) #[]
def h7 (P : Params) (led : Bool) : Heap := ⟨#[boot_o_0 P, boot_o_1 P, boot_o_2 P, o3 P, boot_o_4 P, boot_o_5 P, boot_o_6 P, boot_o_7 P, boot_o_8 P, boot_o_9 P, boot_o_10 P, o11 P, o12 P, o13 P, o14 P, o15 P, o16 P, o17 P, o18 P, o19 P, o20 P, o21 P, o22 P, o23 P, o24 P, o25 P, o26 P, o27 P, o28 P, o29 P, o30 P, o31 P, o32 P, o33 P, o34 P, o35 P, o36 P, o37 P, o38 P, o39 P, o40 P, o41 P, o42 P, o43 led, o44 P, o45 P, o46 P, o47 P, o48 P, o49 P, o50 P, o51 P, o52 P, o53 P], {}⟩
def S7 (w : World) (os : OsState) : Shared := ⟨h7 w.params (!w.params.followText "set-order"), #[], boot_drawn, 290, os⟩
def p12 : Obj := { cls := Value.none, data := Data.fields #[] }
def hA (P : Params) : Heap := ⟨#[boot_o_0 P, boot_o_1 P, boot_o_2 P, boot_o_3 P, boot_o_4 P, boot_o_5 P, boot_o_6 P, boot_o_7 P, boot_o_8 P, boot_o_9 P, boot_o_10 P, o11 P, p12, o13 P, o14 P], {}⟩
def SA (w : World) (os : OsState) : Shared := ⟨hA w.params, #[], boot_drawn, 187, os⟩
def p0 : Pos := ⟨0, 0, 0, 0⟩
abbrev env0 : Env := { scope := prg.main.scope, locals := mainNs, globals := mainNs, cells := [], code := .ref 13, frame := some 14 }
abbrev bod : List Stmt := behindTheImports prg
abbrev cod : Code := .body bod env0
abbrev ann : Option Value := some (.ref 6)
end
end Hd
end Mine

namespace Mine
namespace Hd

theorem pre_run (w : World) : (fun os => topGo treeTable prg w 11 ann 12 ⟨boot_heap w.params, #[], boot_drawn, boot_toks, os⟩ (topStub prg)) = fun os => some (SA w os, ⟨denote treeTable cod, cod, p0, [topFrame p0]⟩) := by kernel_rfl
theorem block_run (w : World) : (fun os => segRun treeTable prg w 11 ann 1 1 (SA w os) (blockOf bod env0 cod p0 [topFrame p0])) = fun os => some (Flow.next, SA w os, cod, p0) := by kernel_rfl
end Hd
end Mine

namespace Mine
namespace Hd
def pA : Pos := ⟨46, 0, 47, 30⟩
def RunA (w : World) : Prop := (fun os => segRun treeTable prg w 11 ann 1 1144 (SA w os) (piecesOf (bod.take 7) env0 cod p0 [topFrame p0])) = fun os => some (Flow.next, S7 w os, cod, pA)
theorem run_Af (w : World) : RunA (w.withFollow "special-get-raises" false) := by
  unfold RunA; rw [Fast.te14374325043358763698, Fast.te14364793385576792824]; kernel_rfl
theorem run_At (w : World) : RunA (w.withFollow "special-get-raises" true) := by
  unfold RunA; rw [Fast.te14374325043358763698, Fast.te14364793385576792824]; kernel_rfl
theorem run_A (w : World) : RunA w := byRow2 "special-get-raises" (P := RunA) run_Af run_At w
end Hd
end Mine

namespace Mine
namespace Hd
noncomputable section
abbrev Item := Option (Sem Value) × Sem Value
abbrev Acc := Option Addr × List (Sem Value × Sem Value)
def fg' : { p : (Item → Acc → Sem (ForInStep Acc)) × (Acc → Sem Value) // ∀ items, dictDisplay items = (forIn items ((none, []) : Acc) p.1 >>= p.2) } := by
  refine ⟨(?f, ?g), fun items => ?_⟩
  rotate_left 2
  · unfold dictDisplay
    exact rfl
abbrev fD := fg'.1.1
abbrev gD := fg'.1.2

def dictOf (st : Stmt) : List (Option Expr) × List Expr × Pos × Pos × Expr := match st with
  | .Assign [t] (.Dict ks vs p) q => (ks, vs, p, q, t)
  | _ => ([], [], ⟨0, 0, 0, 0⟩, ⟨0, 0, 0, 0⟩, .Constant .none 0 ⟨0, 0, 0, 0⟩)
def stD : Stmt := (bod.drop 7).headD (.Pass ⟨0, 0, 0, 0⟩)
def ksD : List (Option Expr) := (dictOf stD).1
def vsD : List Expr := (dictOf stD).2.1
def pD : Pos := (dictOf stD).2.2.1
def qD : Pos := (dictOf stD).2.2.2.1
def tD : Expr := (dictOf stD).2.2.2.2
def itemsD : List Item := (evalEachOpt ksD env0).zip ((evalEach vsD env0).map fun v => do let x ← v; standAt pD; pure x)
def KD (v : Value) : Sem Flow := do assignStores env0 v (← swappedStores [tD] (.Dict ksD vsD pD) env0) ((assignEach [tD] env0).map (·.2))
def TD (k : Nat) : Thread := ⟨((forIn (itemsD.drop (17 * k)) ((some 54, []) : Acc) fD >>= gD) >>= KD).wrap doneF deadEnd id id, cod, pD, [topFrame p0]⟩

def intOf : Option Expr → Int
  | some (.Constant (.int i) _ _) => i
  | _ => 0
def strOf : Expr → Str
  | .Constant (.str y) _ _ => y
  | _ => ""
noncomputable def mkEnts : Nat → List (Option Expr) → List Expr → List DictEntry
  | t, k :: ks, v :: vs => ⟨intOf k, .int (intOf k) t, .str (strOf v) (t + 1)⟩ :: mkEnts (t + 3) ks vs
  | _, _, _ => []
def ents : List DictEntry := mkEnts 290 ksD vsD
def dObj (es : List DictEntry) (n : Nat) : Obj := { cls := .type "dict", data := .dict es.toArray n }
def subObj (j : Nat) : Obj := dObj ((ents.drop (17 * j)).take 17) 17
def hD (P : Params) (led : Bool) (k : Nat) : Heap := ⟨((h7 P led).objs.toList ++ dObj (ents.take (17 * k)) (17 * k) :: (List.range (k - 1)).map (fun j => subObj (j + 1))).toArray, {}⟩
def SD (w : World) (k : Nat) (os : OsState) : Shared := ⟨hD w.params (!w.params.followText "set-order") k, #[], boot_drawn, 290 + 51 * k, os⟩
end
example : ents.length = 650 := by kernel_rfl
example : itemsD.length = 650 := by kernel_rfl
end Hd
end Mine

namespace Mine
namespace Hd
def RunB (w : World) : Prop := (fun os => segGo treeTable prg w 11 ann 1 225 (S7 w os) (pieceOf stD env0 cod pA [topFrame p0])) = fun os => some (SD w 1 os, TD 1)
def RunC (k : Nat) (w : World) : Prop := (fun os => segGo treeTable prg w 11 ann 1 330 (SD w k os) (TD k)) = fun os => some (SD w (k + 1) os, TD (k + 1))
theorem run_B (w : World) : RunB w := by
  refine byRow2 "special-get-raises" (P := RunB) (fun w => ?_) (fun w => ?_) w
  · unfold RunB; rw [Fast.te3277212676724774461, Fast.te14364793385576792824]; kernel_rfl
  · unfold RunB; rw [Fast.te3277212676724774461, Fast.te14364793385576792824]; kernel_rfl
end Hd
end Mine

namespace Mine
namespace Hd
section
variable {w : World} {n m : Nat} {α β : Type}

abbrev sg (w : World) (n : Nat) (s : Shared) (t : Thread) : Option (Shared × Thread) := segGo treeTable prg w 11 ann 1 n s t
/-- the tree `x`, in any context, takes `n` steps from `s` and leaves `a` at `s'` -/
def Rn (w : World) (n : Nat) (s : Shared) (x : Sem α) (s' : Shared) (a : α) : Prop :=
  ∀ (K : α → Sem Fin) (H : Value → Sem Fin) (gd : Bool → Bool) (lv : List Value → List Value) (cd : Code) (N : Nat),
    sg w (n + N) s ⟨x.wrap K H gd lv, cd, pD, [topFrame p0]⟩ = sg w N s' ⟨K a, cd, pD, [topFrame p0]⟩

theorem sg_step {s s' : Shared} {t t' : Thread} (h1 : endAt 1 t = none) (h2 : stepOk 11 ann t = true) (h3 : step (denote treeTable) prg w s t = .go s' t') : sg w (n + 1) s t = sg w n s' t' := by
  show segGo treeTable prg w 11 ann 1 (n + 1) s t = segGo treeTable prg w 11 ann 1 n s' t'
  rw [segGo, h1, h2, h3]
theorem sg_go : ∀ {n N : Nat} {s s' : Shared} {t t' : Thread}, sg w n s t = some (s', t') → sg w (n + N) s t = sg w N s' t'
  | 0, N, s, s', t, t', h => by
    obtain ⟨rfl, rfl⟩ : s = s' ∧ t = t' := by simpa [sg, segGo] using h
    rw [Nat.zero_add]
  | n + 1, N, s, s', t, t', h => by
    rw [show n + 1 + N = (n + N) + 1 by omega]
    have h0 := h
    unfold sg segGo at h0
    cases he : endAt 1 t with
    | some f => rw [he] at h0; cases h0
    | none =>
      rw [he] at h0
      cases hk : stepOk 11 ann t with
      | false => rw [hk] at h0; cases h0
      | true =>
        rw [hk] at h0
        cases hs : step (denote treeTable) prg w s t with
        | halt o s₂ => rw [hs] at h0; cases h0
        | go s₂ t₂ =>
          rw [hs] at h0
          exact (sg_step he hk hs).trans (sg_go h0)

theorem Rn.pure {s : Shared} {a : α} : Rn w 0 s (Sem.pure a) s a := fun K H gd lv cd N => by
  rw [Nat.zero_add]; rfl
theorem Rn.bind {s s' s'' : Shared} {x : Sem α} {f : α → Sem β} {a : α} {b : β} (h1 : Rn w n s x s' a) (h2 : Rn w m s' (f a) s'' b) : Rn w (n + m) s (x >>= f) s'' b := fun K H gd lv cd N => by
  rw [Sem.bind_eq_wrap', Sem.wrap_wrap, Nat.add_assoc]
  exact (h1 _ _ _ _ cd (m + N)).trans (h2 K H gd lv cd N)
theorem Rn.keep {s s' : Shared} {x : Sem α} {a : α} {vs : List Value} (h : Rn w n s x s' a) : Rn w n s (x.keep vs) s' a := fun K H gd lv cd N => by
  rw [Sem.keep_eq_wrap, Sem.wrap_wrap]
  exact h _ _ _ _ cd N
theorem Rn.onRaise {s s' : Shared} {x : Sem α} {a : α} {f : Value → Sem Unit} (h : Rn w n s x s' a) : Rn w n s (x.onRaise f) s' a := fun K H gd lv cd N => by
  rw [Sem.onRaise_eq_wrap, Sem.wrap_wrap]
  exact h _ _ _ _ cd N
theorem Rn.holding {s s' : Shared} {x : Sem α} {a : α} {vs : List Value} (h : Rn w n s x s' a) : Rn w n s (holding vs x) s' a := by
  unfold PySem.holding
  split
  · exact h
  · exact h.keep

theorem Rn.rule {s s' : Shared} {tag : String} {k : Unit → Sem α} {a : α} (h : Rn w n s (k ()) s' a) : Rn w (n + 1) s (.rule tag k) s' a := fun K H gd lv cd N => by
  rw [show n + 1 + N = (n + N) + 1 by omega]
  exact (sg_step rfl rfl rfl).trans (h K H gd lv cd N)
theorem Rn.fresh {h : Heap} {g : Array GenState} {dr : Drawn} {t : Nat} {os : OsState} {s' : Shared} {k : Tok → Sem α} {a : α} (hk : Rn w n ⟨h, g, dr, t + 1, os⟩ (k t) s' a) : Rn w (n + 1) ⟨h, g, dr, t, os⟩ (.fresh k) s' a := fun K H gd lv cd N => by
  rw [show n + 1 + N = (n + N) + 1 by omega]
  exact (sg_step rfl rfl rfl).trans (hk K H gd lv cd N)
theorem Rn.alloc {h : Heap} {g : Array GenState} {dr : Drawn} {t : Nat} {os : OsState} {s' : Shared} {o : Obj} {k : Addr → Sem α} {a : α} (hk : Rn w n ⟨h.push o, g, dr, t, os⟩ (k h.objs.size) s' a) : Rn w (n + 1) ⟨h, g, dr, t, os⟩ (.alloc o k) s' a := fun K H gd lv cd N => by
  rw [show n + 1 + N = (n + N) + 1 by omega]
  exact (sg_step rfl rfl rfl).trans (hk K H gd lv cd N)
theorem Rn.load {h : Heap} {g : Array GenState} {dr : Drawn} {t : Nat} {os : OsState} {s' : Shared} {d : Addr} {p : Option Value} {o : Obj} {k : Obj → Sem α} {a : α} (ho : h.get? d = some o) (hk : Rn w n ⟨h, g, dr, t, os⟩ (k o) s' a) : Rn w (n + 1) ⟨h, g, dr, t, os⟩ (.load d p k) s' a := fun K H gd lv cd N => by
  rw [show n + 1 + N = (n + N) + 1 by omega]
  refine (sg_step rfl rfl ?_).trans (hk K H gd lv cd N)
  simp only [step, Sem.wrap, ho]
theorem Rn.update {h : Heap} {g : Array GenState} {dr : Drawn} {t : Nat} {os : OsState} {s' : Shared} {d : Addr} {p : Option Value} {o : Obj} {f : Obj → Obj} {k : Unit → Sem α} {a : α} (ho : h.get? d = some o) (hd : Nat.ble 11 d = true) (hk : Rn w n ⟨h.update d f, g, dr, t, os⟩ (k ()) s' a) : Rn w (n + 1) ⟨h, g, dr, t, os⟩ (.update d p f k) s' a := fun K H gd lv cd N => by
  rw [show n + 1 + N = (n + N) + 1 by omega]
  refine (sg_step rfl ?_ ?_).trans (hk K H gd lv cd N)
  · show (_ && (Nat.ble 11 d || _ || _ || _)) = true
    rw [hd]; rfl
  · simp only [step, Sem.wrap, ho, Option.isSome_some, if_true]
theorem Rn.stand {s : Shared} : Rn w 1 s (standAt pD) s () := fun K H gd lv cd N => by
  rw [Nat.add_comm 1 N]
  exact sg_step rfl rfl rfl
theorem Rn.cast {s s' : Shared} {x : Sem α} {a : α} {m : Nat} (e : n = m) (h : Rn w n s x s' a) : Rn w m s x s' a := e ▸ h
end

/-! the heap as a list of objects -/
def hL (l : List Obj) : Heap := ⟨l.toArray, {}⟩
theorem hL_get (A B : List Obj) (o : Obj) {d : Addr} (e : d = A.length) (ha : alive o = some o) : (hL (A ++ o :: B)).get? d = some o := by
  subst e
  have h1 : (hL (A ++ o :: B)).objs[A.length]? = some o := by
    show (A ++ o :: B).toArray[A.length]? = some o
    rw [List.getElem?_toArray, List.getElem?_append_right (Nat.le_refl _), Nat.sub_self]; rfl
  unfold Heap.get?
  rw [h1]
  obtain ⟨c, d, dt, sl⟩ := o
  cases dt <;> first | rfl | cases ha
theorem modify_at (f : Obj → Obj) : ∀ (A B : List Obj) (o : Obj), (A ++ o :: B).modify A.length f = A ++ f o :: B
  | [], _, _ => rfl
  | a :: A, B, o => by
    have := modify_at f A B o
    simpa using this
theorem hL_update (A B : List Obj) (o : Obj) {d : Addr} (e : d = A.length) (f : Obj → Obj) : (hL (A ++ o :: B)).update d f = hL (A ++ f o :: B) := by
  subst e
  show Heap.mk ((A ++ o :: B).toArray.modify A.length f) {} = Heap.mk (A ++ f o :: B).toArray {}
  congr 1
  apply Array.ext'
  rw [Array.toList_modify]
  exact modify_at f A B o
theorem hL_push (l : List Obj) (o : Obj) : (hL l).push o = hL (l ++ [o]) := by
  show Heap.mk (l.toArray.push o) {} = Heap.mk (l ++ [o]).toArray {}
  simp
theorem hL_size (l : List Obj) : (hL l).objs.size = l.length := by
  show l.toArray.size = l.length
  simp
end Hd
end Mine

namespace Mine
namespace Hd
def HashGo (w : World) : Prop := (fun (k : Int) (t : Tok) (R : Sem Value) (K : Option Value → Sem Fin) (H : Value → Sem Fin) (gd : Bool → Bool) (lv : List Value → List Value) (cd : Code) (pp : Pos) (h : Heap) (g : Array GenState) (dr : Drawn) (tk : Nat) (os : OsState) =>
    segGo treeTable prg w 11 ann 1 5 ⟨h, g, dr, tk, os⟩ ⟨(callSpecialIfBoundUnlessNone? (.int k t) "__hash__" R).wrap K H gd lv, cd, pp, [topFrame p0]⟩) =
  fun k _ _ K _ _ _ cd pp h g dr tk os => some (⟨h, g, dr, tk + 1, os⟩, ⟨K (some (.int (rawHash k) tk)), cd, pp, [topFrame p0]⟩)
theorem hash_f (w : World) : HashGo (w.withFollow "special-get-raises" false) := by
  unfold HashGo; rw [Fast.te3277212676724774461, Fast.te14364793385576792824]; kernel_rfl
theorem hash_t (w : World) : HashGo (w.withFollow "special-get-raises" true) := by
  unfold HashGo; rw [Fast.te3277212676724774461, Fast.te14364793385576792824]; kernel_rfl
theorem hash_go (w : World) : HashGo w := byRow2 "special-get-raises" (P := HashGo) hash_f hash_t w
end Hd
end Mine

namespace Mine
namespace Hd
section
variable {w : World} {g : Array GenState} {dr : Drawn} {tk : Nat} {os : OsState}
theorem spec_int (k : Int) (t : Tok) : specialOf (.int k t) "__hash__" = pure (some (.builtin "int.__hash__")) := by
  show typeLookup (.type "int") "__hash__" = _
  exact slot_int_hash.lookup
theorem Rn.special {h : Heap} {k : Int} {t : Tok} (R : Sem Value) : Rn w 5 ⟨h, g, dr, tk, os⟩ (callSpecialIfBoundUnlessNone? (.int k t) "__hash__" R) ⟨h, g, dr, tk + 1, os⟩ (some (.int (rawHash k) tk)) := fun K H gd lv cd N => by
  have e := hash_go w
  unfold HashGo at e
  have e := congrFun (congrFun (congrFun (congrFun (congrFun (congrFun (congrFun (congrFun (congrFun (congrFun (congrFun (congrFun (congrFun (congrFun e k) t) R) K) H) gd) lv) cd) pD) h) g) dr) tk) os
  exact sg_go e
theorem Rn.hash {h : Heap} {k : Int} {t : Tok} : Rn w 5 ⟨h, g, dr, tk, os⟩ (pyHash (.int k t)) ⟨h, g, dr, tk + 1, os⟩ (hashInt k) := by
  have hr := rawHash_range k
  have e1 : cRoomFor "hash" [Value.int k t] = (Sem.pure () : Sem Unit) := by
    have hv : [Value.int k t].any Value.onHeap = false := rfl
    rw [cRoomFor, if_neg (by rw [hv]; exact Bool.false_ne_true)]; rfl
  show Rn w 5 _ (pyHashByItsType (.int k t)) _ _
  unfold pyHashByItsType
  rw [e1, spec_int]
  show Rn w (5 + 0) _ (callSpecialIfBoundUnlessNone? (.int k t) "__hash__" _ >>= _) _ _
  refine Rn.bind (a := some (.int (rawHash k) tk)) (s' := ⟨h, g, dr, tk + 1, os⟩) (Rn.special _) ?_
  · show Rn w 0 _ (if (decide (-(2 : Int) ^ 63 ≤ rawHash k) && decide (rawHash k < 2 ^ 63)) = true then _ else _) _ _
    rw [if_pos (by rw [decide_eq_true hr.1, decide_eq_true hr.2]; rfl)]
    exact Rn.pure

/-- the entries of a dict display so far: `l`, and `k` is no key of them -/
def Free (es : List DictEntry) (k : Int) : Prop := ∀ e ∈ es, e.hash ≠ k
theorem places_free {es : List DictEntry} {k : Int} (hf : Free es k) : placesWithHash es.toArray.size (fun i => es.toArray[i]?.map (·.hash)) k = [] := by
  unfold placesWithHash
  rw [List.filter_eq_nil_iff]
  intro j hj
  rw [List.mem_range] at hj
  simp only [List.size_toArray] at hj
  show ¬ ((es.toArray[j]?.map (·.hash)) == some k) = true
  rw [List.getElem?_toArray, List.getElem?_eq_getElem hj]
  have := hf es[j] (List.getElem_mem hj)
  simpa using this
theorem Rn.find {h : Heap} {d : Addr} {k : Int} {t : Tok} {es : List DictEntry} {n : Nat} (ho : h.get? d = some (dObj es n)) (hf : Free es (hashInt k)) : Rn w 1 ⟨h, g, dr, tk, os⟩ (dictFind d (.int k t) (hashInt k)) ⟨h, g, dr, tk, os⟩ none := by
  have hp := places_free hf
  unfold dictFind
  refine Rn.holding ?_
  refine Rn.bind (n := 1) (m := 0) (a := es.toArray) (s' := ⟨h, g, dr, tk, os⟩) ?_ ?_
  · exact Rn.load ho Rn.pure
  · dsimp only
    rw [hp]
    exact Rn.pure
theorem Rn.keys {A B : List Obj} {d : Addr} {es : List DictEntry} {n : Nat} {e : DictEntry} {p : Option Value} (hd : d = A.length) (h11 : Nat.ble 11 d = true) (hs : es.length ≤ 1000) :
    Rn w 3 ⟨hL (A ++ dObj es n :: B), g, dr, tk, os⟩ (updateDictKeys d (·.push e) p) ⟨hL (A ++ dObj (es ++ [e]) (n + 1) :: B), g, dr, tk, os⟩ () := by
  have ho := hL_get A B (dObj es n) hd rfl
  have ho' := hL_get A B (dObj (es ++ [e]) (n + 1)) hd rfl
  have hu : (hL (A ++ dObj es n :: B)).update d (Obj.mapDictKeys (·.push e)) = hL (A ++ dObj (es ++ [e]) (n + 1) :: B) := by
    rw [hL_update A B _ hd]
    congr 3
    show Obj.mk _ _ (Data.dict (es.toArray.push e) (n + 1)) _ = Obj.mk _ _ (Data.dict (es ++ [e]).toArray (n + 1)) _
    congr 2
    simp
  unfold updateDictKeys
  refine Rn.bind (n := 1) (m := 2) (a := dObj es n) (s' := ⟨hL (A ++ dObj es n :: B), g, dr, tk, os⟩) (Rn.load ho Rn.pure) ?_
  show Rn w 2 _ (updatePart d p (Obj.mapDictKeys (·.push e)) >>= fun _ => lookBehind d p) _ _
  refine Rn.bind (n := 1) (m := 1) (a := ()) (s' := ⟨hL (A ++ dObj (es ++ [e]) (n + 1) :: B), g, dr, tk, os⟩) (Rn.update ho h11 ?_) ?_
  · rw [hu]; exact Rn.pure
  · unfold lookBehind
    refine Rn.bind (n := 1) (m := 0) (a := dObj (es ++ [e]) (n + 1)) (s' := ⟨hL (A ++ dObj (es ++ [e]) (n + 1) :: B), g, dr, tk, os⟩) (Rn.load ho' Rn.pure) ?_
    have hp : (dObj (es ++ [e]) (n + 1)).data.pastItsLine = none := by
      show (if (es ++ [e]).toArray.size > sizeLine + 1 then some "dict:memory" else none) = none
      rw [if_neg (by rw [sizeLine_eq]; simp; omega)]
    rw [hp]
    exact Rn.pure
theorem Rn.set {A B : List Obj} {d : Addr} {es : List DictEntry} {n : Nat} {k : Int} {t : Tok} {y : Str} {u : Tok} (hd : d = A.length) (h11 : Nat.ble 11 d = true) (hs : es.length ≤ 1000) (hf : Free es (hashInt k)) :
    Rn w 10 ⟨hL (A ++ dObj es n :: B), g, dr, tk, os⟩ (dictSet d (.int k t) (.str y u)) ⟨hL (A ++ dObj (es ++ [⟨hashInt k, .int k t, .str y u⟩]) (n + 1) :: B), g, dr, tk + 1, os⟩ () := by
  unfold dictSet
  refine Rn.holding ?_
  refine Rn.bind (n := 5) (m := 5) Rn.hash ?_
  unfold dictSetHashed
  refine Rn.holding ?_
  refine Rn.bind (n := 1) (m := 4) (Rn.find (hL_get A B _ hd rfl) hf) ?_
  exact Rn.rule (n := 3) (Rn.keys hd h11 hs)
theorem Rn.put {A B : List Obj} {d : Addr} {es : List DictEntry} {n : Nat} {k : Int} {t : Tok} {v : Value} (hd : d = A.length) (h11 : Nat.ble 11 d = true) (hs : es.length ≤ 1000) (hf : Free es (hashInt k)) :
    Rn w 4 ⟨hL (A ++ dObj es n :: B), g, dr, tk, os⟩ (dictPut d (hashInt k) (.int k t) v) ⟨hL (A ++ dObj (es ++ [⟨hashInt k, .int k t, v⟩]) (n + 1) :: B), g, dr, tk, os⟩ () := by
  unfold dictPut
  exact Rn.bind (n := 1) (m := 3) (Rn.find (hL_get A B _ hd rfl) hf) (Rn.keys hd h11 hs)
end
end Hd
end Mine

namespace Mine
namespace Hd
section
variable {w : World} {g : Array GenState} {dr : Drawn} {os : OsState}
noncomputable def mkE : Nat → List (Int × Str) → List DictEntry
  | _, [] => []
  | t, p :: r => ⟨hashInt p.1, .int p.1 t, .str p.2 (t + 1)⟩ :: mkE (t + 3) r
theorem mkE_length : ∀ (L : List (Int × Str)) (t : Nat), (mkE t L).length = L.length
  | [], _ => rfl
  | p :: r, t => by unfold mkE; rw [List.length_cons, List.length_cons, mkE_length r]
theorem mkE_hash : ∀ (L : List (Int × Str)) (t : Nat), (mkE t L).map (·.hash) = L.map fun p => hashInt p.1
  | [], _ => rfl
  | p :: r, t => by unfold mkE; rw [List.map_cons, List.map_cons, mkE_hash r]
def IntE (e : DictEntry) : Prop := ∃ k t v, e = ⟨hashInt k, .int k t, v⟩
theorem mkE_int : ∀ (L : List (Int × Str)) (t : Nat), ∀ e ∈ mkE t L, IntE e
  | [], _, e, h => by cases h
  | p :: r, t, e, h => by
    unfold mkE at h
    rcases List.mem_cons.mp h with rfl | h
    · exact ⟨_, _, _, rfl⟩
    · exact mkE_int r _ e h
noncomputable def trK (p : Int × Str) : Sem Value := constValue env0 (.int p.1)
noncomputable def trV (p : Int × Str) : Sem Value := do let x ← constValue env0 (.str p.2); standAt pD; pure x
noncomputable def tr (p : Int × Str) : Sem Value × Sem Value := (trK p, trV p)
def Ok (es : List DictEntry) (hs : List Int) : Prop := (es.map (·.hash) ++ hs).Nodup
theorem Ok.free {es : List DictEntry} {h : Int} {hs : List Int} (o : Ok es (h :: hs)) : Free es h := by
  intro e he q
  unfold Ok at o
  rw [List.nodup_append] at o
  exact o.2.2 _ (List.mem_map_of_mem he) _ (List.mem_cons_self ..) q
theorem Ok.next {es : List DictEntry} {e : DictEntry} {hs : List Int} (o : Ok es (e.hash :: hs)) : Ok (es ++ [e]) hs := by
  unfold Ok at o ⊢
  simpa using o

theorem rn_key {h : Heap} {t : Nat} (p : Int × Str) : Rn w 1 ⟨h, g, dr, t, os⟩ (trK p) ⟨h, g, dr, t + 1, os⟩ (.int p.1 t) := Rn.fresh Rn.pure
theorem rn_val {h : Heap} {t : Nat} (p : Int × Str) : Rn w 2 ⟨h, g, dr, t, os⟩ (trV p) ⟨h, g, dr, t + 1, os⟩ (.str p.2 t) := by
  unfold trV
  refine Rn.bind (n := 1) (m := 1) (a := .str p.2 t) (s' := ⟨h, g, dr, t + 1, os⟩) (Rn.fresh Rn.pure) ?_
  exact Rn.bind (n := 1) (m := 0) Rn.stand Rn.pure

theorem rn_store {A B : List Obj} {d : Addr} (hd : d = A.length) (h11 : Nat.ble 11 d = true) (f : Sem Value × Sem Value → PUnit → Sem (ForInStep PUnit))
    (hf : ∀ x, f x PUnit.unit = (do let kv ← x.1; let vv ← holding [kv] x.2; holding [kv, vv] (dictSet d kv vv); pure (.yield PUnit.unit))) :
    ∀ (L : List (Int × Str)) (es : List DictEntry) (n t : Nat), es.length + L.length ≤ 1000 → Ok es (L.map fun p => hashInt p.1) →
    Rn w (13 * L.length) ⟨hL (A ++ dObj es n :: B), g, dr, t, os⟩ (forIn (L.map tr) PUnit.unit f) ⟨hL (A ++ dObj (es ++ mkE t L) (n + L.length) :: B), g, dr, t + 3 * L.length, os⟩ PUnit.unit
  | [], es, n, t, _, _ => by
    rw [List.map_nil, List.forIn_nil]
    show Rn w 0 _ _ ⟨hL (A ++ dObj (es ++ []) n :: B), _, _, _, _⟩ _
    rw [List.append_nil]
    exact Rn.pure
  | p :: r, es, n, t, hs, ho => by
    rw [List.map_cons, List.forIn_cons, hf]
    rw [List.length_cons] at hs
    rw [List.map_cons] at ho
    have ih := rn_store (B := B) hd h11 f hf r (es ++ [⟨hashInt p.1, .int p.1 t, .str p.2 (t + 1)⟩]) (n + 1) (t + 3) (by rw [List.length_append, List.length_singleton]; omega) (Ok.next ho)
    have e1 : (es ++ [⟨hashInt p.1, .int p.1 t, .str p.2 (t + 1)⟩]) ++ mkE (t + 3) r = es ++ mkE t (p :: r) := by
      rw [List.append_assoc]; rfl
    have e2 : n + 1 + r.length = n + (p :: r).length := by rw [List.length_cons]; omega
    have e3 : t + 3 + 3 * r.length = t + 3 * (p :: r).length := by rw [List.length_cons]; omega
    rw [e1, e2, e3] at ih
    refine Rn.cast (n := 13 + 13 * r.length) (by rw [List.length_cons]; omega) ?_
    refine Rn.bind (n := 13) (a := .yield PUnit.unit) (s' := ⟨hL (A ++ dObj (es ++ [⟨hashInt p.1, .int p.1 t, .str p.2 (t + 1)⟩]) (n + 1) :: B), g, dr, t + 3, os⟩) ?_ ih
    refine Rn.bind (n := 1) (m := 12) (rn_key p) ?_
    refine Rn.bind (n := 2) (m := 10) (Rn.holding (rn_val p)) ?_
    exact Rn.bind (n := 10) (m := 0) (Rn.holding (Rn.set hd h11 (by omega) ho.free)) Rn.pure

theorem rn_sub {l : List Obj} {t : Nat} (L : List (Int × Str)) (h16 : 15 < L.length) (h17 : L.length ≤ 1000) (h11 : Nat.ble 11 l.length = true) (ho : (L.map fun p => hashInt p.1).Nodup) :
    Rn w (13 * L.length + 2) ⟨hL l, g, dr, t, os⟩ (subDict (L.map tr)) ⟨hL (l ++ [dObj (mkE t L) L.length]), g, dr, t + 3 * L.length, os⟩ l.length := by
  unfold subDict
  refine Rn.cast (n := 1 + (13 * L.length + 1)) (by omega) ?_
  refine Rn.bind (n := 1) (m := 13 * L.length + 1) (a := l.length) (s' := ⟨hL (l ++ [dObj [] 0]), g, dr, t, os⟩) ?_ ?_
  · have := Rn.alloc (w := w) (h := hL l) (g := g) (dr := dr) (t := t) (os := os) (o := { cls := .type "dict", data := .dict #[] }) (k := Sem.pure) (n := 0) Rn.pure
    rw [hL_push, hL_size] at this
    exact this
  · refine Rn.bind (n := 13 * L.length + 1) (m := 0) (a := ()) (s' := ⟨hL (l ++ [dObj (mkE t L) L.length]), g, dr, t + 3 * L.length, os⟩) (Rn.holding ?_) Rn.pure
    rw [if_neg (by rw [List.length_map]; omega)]
    refine Rn.rule ?_
    show Rn w (13 * L.length) _ (forIn _ _ _ >>= fun _ => Sem.pure ()) _ _
    refine Rn.cast (n := 13 * L.length + 0) (by omega) (Rn.bind (n := 13 * L.length) (m := 0) (a := PUnit.unit) ?_ Rn.pure)
    have := rn_store (w := w) (g := g) (dr := dr) (os := os) (A := l) (B := []) (d := l.length) rfl h11 (fun x _ => match x with | (k, v) => do let kv ← k; let vv ← holding [kv] v; holding [kv, vv] (dictSet l.length kv vv); pure (.yield PUnit.unit)) (fun _ => rfl) L [] 0 t (by simpa using h17) (by unfold Ok; simpa using ho)
    rw [Nat.zero_add] at this
    exact this
end
end Hd
end Mine

namespace Mine
namespace Hd
section
variable {w : World} {g : Array GenState} {dr : Drawn} {t : Nat} {os : OsState}
theorem rn_mloop {st : List DictEntry → Nat → Heap} {nw : List DictEntry} {f : Nat → PUnit → Sem (ForInStep PUnit)}
    (hf : ∀ i e es n, nw[i]? = some e → es.length ≤ 1000 → Free es e.hash → Rn w 6 ⟨st es n, g, dr, t, os⟩ (f i PUnit.unit) ⟨st (es ++ [e]) (n + 1), g, dr, t, os⟩ (.yield PUnit.unit)) :
    ∀ (rest : List DictEntry) (j : Nat) (es : List DictEntry) (n : Nat), nw.drop j = rest → es.length + rest.length ≤ 1000 → Ok es (rest.map (·.hash)) →
    Rn w (6 * rest.length) ⟨st es n, g, dr, t, os⟩ (forIn (List.range' j rest.length) PUnit.unit f) ⟨st (es ++ rest) (n + rest.length), g, dr, t, os⟩ PUnit.unit
  | [], j, es, n, _, _, _ => by
    rw [List.length_nil, List.range'_zero, List.forIn_nil, List.append_nil]
    exact Rn.pure
  | e :: r, j, es, n, hd, hs, ho => by
    rw [List.length_cons] at hs
    rw [List.map_cons] at ho
    have hj : nw[j]? = some e := by
      have := congrArg (·[0]?) hd
      simpa using this
    have hd' : nw.drop (j + 1) = r := by
      have := congrArg (List.drop 1) hd
      simpa [List.drop_drop, Nat.add_comm] using this
    have ih := rn_mloop hf r (j + 1) (es ++ [e]) (n + 1) hd' (by rw [List.length_append, List.length_singleton]; omega) (Ok.next ho)
    rw [show (es ++ [e]) ++ r = es ++ (e :: r) by simp, show n + 1 + r.length = n + (e :: r).length by rw [List.length_cons]; omega] at ih
    rw [List.length_cons, List.range'_succ, List.forIn_cons]
    refine Rn.cast (n := 6 + 6 * r.length) (by omega) ?_
    exact Rn.bind (n := 6) (a := .yield PUnit.unit) (hf j e es n hj (by omega) ho.free) ih

theorem Rn.bind0 {α β : Type} {k : Nat} {s s' : Shared} {a : α} {b : β} {f : α → Sem β} (h : Rn w k s (f a) s' b) : Rn w k s ((Pure.pure a : Sem α) >>= f) s' b := h
theorem rn_merge {A B : List Obj} {d a : Addr} {es nw : List DictEntry} {n m : Nat} (hd : d = A.length) (ha : a = (A ++ dObj es n :: B).length) (h11 : Nat.ble 11 d = true) (h1 : Nat.beq a 1 = false)
    (hne : es ≠ []) (hs : es.length + nw.length ≤ 1000) (hi : ∀ e ∈ nw, IntE e) (ho : Ok es (nw.map (·.hash))) :
    Rn w (6 * nw.length + 5) ⟨hL (A ++ dObj es n :: (B ++ [dObj nw m])), g, dr, t, os⟩ (mergeMapping d (.ref a) false) ⟨hL (A ++ dObj (es ++ nw) (n + nw.length) :: (B ++ [dObj nw m])), g, dr, t, os⟩ () := by
  have ga : ∀ es' n', (hL (A ++ dObj es' n' :: (B ++ [dObj nw m]))).get? a = some (dObj nw m) := fun es' n' => by
    have := hL_get (A ++ dObj es' n' :: B) [] (dObj nw m) (d := a) (by rw [ha]; simp) rfl
    simpa using this
  have gd : ∀ es' n', (hL (A ++ dObj es' n' :: (B ++ [dObj nw m]))).get? d = some (dObj es' n') := fun es' n' => hL_get A _ _ hd rfl
  have hm : (a == sysModules) = false := by
    refine beq_eq_false_iff_ne.mpr fun e => ?_
    rw [e] at h1
    cases h1
  unfold mergeMapping
  refine Rn.cast (n := 1 + (1 + (6 * nw.length + 3))) (by omega) ?_
  refine Rn.bind (n := 1) (a := true) (s' := ⟨hL (A ++ dObj es n :: (B ++ [dObj nw m])), g, dr, t, os⟩) ?_ ?_
  · unfold isInstance
    refine Rn.bind (n := 1) (m := 0) (a := .type "dict") (s' := ⟨hL (A ++ dObj es n :: (B ++ [dObj nw m])), g, dr, t, os⟩) ?_ ?_
    · exact Rn.bind (n := 1) (m := 0) (Rn.load (ga _ _) Rn.pure) Rn.pure
    · rw [isSubtype_dict_dict]
      exact Rn.pure
  rw [if_pos rfl]
  refine Rn.bind (n := 1) (a := some (.builtin "dict.__iter__")) (s' := ⟨hL (A ++ dObj es n :: (B ++ [dObj nw m])), g, dr, t, os⟩) ?_ ?_
  · unfold specialOf
    refine Rn.bind (n := 1) (m := 0) (a := .type "dict") (s' := ⟨hL (A ++ dObj es n :: (B ++ [dObj nw m])), g, dr, t, os⟩) ?_ ?_
    · exact Rn.bind (n := 1) (m := 0) (Rn.load (ga _ _) Rn.pure) Rn.pure
    · rw [F.slot_dict_iter.lookup]
      exact Rn.pure
  rw [beq_self_eq_true]
  refine Rn.bind0 ?_
  dsimp only
  rw [if_neg (by rw [hm]; exact Bool.false_ne_true)]
  refine Rn.cast (n := 1 + (6 * nw.length + 2)) (by omega) ?_
  refine Rn.bind (n := 1) (a := es.toArray) (s' := ⟨hL (A ++ dObj es n :: (B ++ [dObj nw m])), g, dr, t, os⟩) ?_ ?_
  · exact Rn.bind (n := 1) (m := 0) (Rn.load (gd _ _) Rn.pure) Rn.pure
  rw [if_neg (by simp [hne])]
  refine Rn.cast (n := 1 + (6 * nw.length + 1)) (by omega) ?_
  refine Rn.bind (n := 1) (a := nw.toArray) (s' := ⟨hL (A ++ dObj es n :: (B ++ [dObj nw m])), g, dr, t, os⟩) ?_ ?_
  · exact Rn.bind (n := 1) (m := 0) (Rn.load (ga _ _) Rn.pure) Rn.pure
  refine Rn.cast (n := 1 + (6 * nw.length)) (by omega) ?_
  refine Rn.bind (n := 1) (a := m) (s' := ⟨hL (A ++ dObj es n :: (B ++ [dObj nw m])), g, dr, t, os⟩) ?_ ?_
  · exact Rn.bind (n := 1) (m := 0) (Rn.load (ga _ _) Rn.pure) Rn.pure
  refine Rn.bind (n := 6 * nw.length) (m := 0) (a := PUnit.unit) (s' := ⟨hL (A ++ dObj (es ++ nw) (n + nw.length) :: (B ++ [dObj nw m])), g, dr, t, os⟩) ?_ Rn.pure
  rw [List.size_toArray, List.range_eq_range']
  refine rn_mloop (nw := nw) (st := fun es n => hL (A ++ dObj es n :: (B ++ [dObj nw m]))) (fun i e es n he hs hf => ?_) nw 0 es n rfl hs ho
  obtain ⟨k, t', v, rfl⟩ := hi e (List.mem_of_getElem? he)
  refine Rn.bind (n := 1) (m := 5) (a := nw.toArray) (s' := ⟨hL (A ++ dObj es n :: (B ++ [dObj nw m])), g, dr, t, os⟩) ?_ ?_
  · exact Rn.bind (n := 1) (m := 0) (Rn.load (ga _ _) Rn.pure) Rn.pure
  rw [List.getElem?_toArray, he]
  dsimp only
  refine Rn.bind (n := 4) (m := 1) (a := ()) (s' := ⟨hL (A ++ dObj (es ++ [⟨hashInt k, .int k t', v⟩]) (n + 1) :: (B ++ [dObj nw m])), g, dr, t, os⟩) (Rn.holding ?_) ?_
  · rw [if_neg Bool.false_ne_true]
    exact Rn.put hd h11 hs hf
  · refine Rn.bind (n := 1) (m := 0) (a := m) (s' := ⟨hL (A ++ dObj (es ++ [⟨hashInt k, .int k t', v⟩]) (n + 1) :: (B ++ [dObj nw m])), g, dr, t, os⟩) ?_ ?_
    · exact Rn.bind (n := 1) (m := 0) (Rn.load (ga _ _) Rn.pure) Rn.pure
    · rw [if_neg (by simp)]
      exact Rn.pure
end
end Hd
end Mine

namespace Mine
namespace Hd
section
variable {w : World} {g : Array GenState} {dr : Drawn} {t : Nat} {os : OsState}
noncomputable def it (p : Int × Str) : Item := (some (trK p), trV p)
theorem fD_more (p : Int × Str) (m : Option Addr) (run : List (Sem Value × Sem Value)) (h : run.length + 1 < 17) : fD (it p) (m, run) = pure (.yield (m, run ++ [tr p])) := by
  have hne : ((run ++ [(trK p, trV p)]).length == 17) = false := by simp; omega
  unfold fD fg' it
  dsimp only
  rw [if_neg (by rw [hne]; exact Bool.false_ne_true)]
  rfl
theorem fD_full {A B : List Obj} {es : List DictEntry} {n : Nat} {p : Int × Str} {run : List (Sem Value × Sem Value)} {L : List (Int × Str)} (hd : A.length = 54) (hne : es ≠ []) (hs : es.length + 17 ≤ 1000)
    (hL17 : L.length = 17) (hr : run ++ [tr p] = L.map tr) (ho : Ok es (L.map fun p => hashInt p.1)) :
    Rn w 330 ⟨hL (A ++ dObj es n :: B), g, dr, t, os⟩ (fD (it p) (some 54, run)) ⟨hL (A ++ dObj (es ++ mkE t L) (n + 17) :: (B ++ [dObj (mkE t L) 17])), g, dr, t + 51, os⟩ (.yield (some 54, [])) := by
  have hr' : run ++ [(trK p, trV p)] = L.map tr := hr
  have h17 : ((run ++ [(trK p, trV p)]).length == 17) = true := by rw [hr', List.length_map, hL17]; rfl
  unfold fD fg' it
  dsimp only
  rw [if_pos h17]
  rw [hr', if_neg (by rw [← hr']; simp)]
  have hn : (L.map fun p => hashInt p.1).Nodup := by
    unfold Ok at ho
    rw [List.nodup_append] at ho
    exact ho.2.1
  have hl : (A ++ dObj es n :: B).length = 55 + B.length := by rw [List.length_append, List.length_cons, hd]; omega
  have s1 := rn_sub (w := w) (g := g) (dr := dr) (os := os) (l := A ++ dObj es n :: B) (t := t) L (by omega) (by omega) (Nat.ble_eq_true_of_le (by omega)) hn
  rw [hL17] at s1
  have s2 := rn_merge (w := w) (g := g) (dr := dr) (os := os) (A := A) (B := B) (d := 54) (a := (A ++ dObj es n :: B).length) (es := es) (nw := mkE t L) (n := n) (m := 17) (t := t + 3 * 17) hd.symm rfl rfl
    (by rw [hl]; cases h : Nat.beq (55 + B.length) 1 with | false => rfl | true => exact absurd (Nat.eq_of_beq_eq_true h) (by omega)) hne (by rw [mkE_length, hL17]; exact hs) (mkE_int L t) (by rw [mkE_hash]; exact ho)
  rw [mkE_length, hL17] at s2
  refine Rn.bind (n := 330) (m := 0) (a := some 54) (s' := ⟨hL (A ++ dObj (es ++ mkE t L) (n + 17) :: (B ++ [dObj (mkE t L) 17])), g, dr, t + 51, os⟩) ?_ Rn.pure
  refine Rn.bind (n := 223) (m := 107) (a := (A ++ dObj es n :: B).length) (s' := ⟨hL (A ++ dObj es n :: (B ++ [dObj (mkE t L) 17])), g, dr, t + 51, os⟩) (Rn.holding ?_) ?_
  · have e : (A ++ dObj es n :: B) ++ [dObj (mkE t L) 17] = A ++ dObj es n :: (B ++ [dObj (mkE t L) 17]) := by simp
    rw [e] at s1
    exact s1
  · exact Rn.bind (n := 107) (m := 0) (Rn.onRaise (Rn.holding s2)) Rn.pure

theorem gather {m : Option Addr} {rest : List Item} : ∀ (C : List (Int × Str)) (run : List (Sem Value × Sem Value)), run.length + C.length < 17 →
    forIn (C.map it ++ rest) ((m, run) : Acc) fD = forIn rest ((m, run ++ C.map tr) : Acc) fD
  | [], run, _ => by rw [List.map_nil, List.nil_append, List.map_nil, List.append_nil]
  | p :: C, run, h => by
    rw [List.length_cons] at h
    rw [List.map_cons, List.cons_append, List.forIn_cons, fD_more p m run (by omega)]
    show forIn (C.map it ++ rest) ((m, run ++ [tr p]) : Acc) fD = _
    rw [gather C (run ++ [tr p]) (by rw [List.length_append, List.length_singleton]; omega), List.append_assoc]
    rfl

theorem forIn_step (x : Item) (rest : List Item) (b : Acc) : ∃ F : ForInStep Acc → Sem Acc, forIn (x :: rest) b fD = fD x b >>= F ∧ ∀ b', F (.yield b') = forIn rest b' fD :=
  ⟨_, List.forIn_cons .., fun _ => rfl⟩
theorem Rn.go {α β : Type} {n : Nat} {s s' : Shared} {x : Sem α} {a : α} {f : α → Sem β} {K H gd lv} {cd : Code} (h : Rn w n s x s' a) :
    segGo treeTable prg w 11 ann 1 n s ⟨(x >>= f).wrap K H gd lv, cd, pD, [topFrame p0]⟩ = some (s', ⟨(f a).wrap K H gd lv, cd, pD, [topFrame p0]⟩) := by
  rw [Sem.bind_eq_wrap', Sem.wrap_wrap]
  exact h _ _ _ _ cd 0

theorem mkE_append : ∀ (L M : List (Int × Str)) (t : Nat), mkE t (L ++ M) = mkE t L ++ mkE (t + 3 * L.length) M
  | [], M, t => rfl
  | p :: L, M, t => by
    have := mkE_append L M (t + 3)
    rw [List.cons_append, List.length_cons]
    show _ :: mkE (t + 3) (L ++ M) = _ :: (mkE (t + 3) L ++ _)
    rw [this, show t + 3 + 3 * L.length = t + 3 * (L.length + 1) by omega]

noncomputable def LD : List (Int × Str) := (ksD.zip vsD).map fun p => (intOf p.1, strOf p.2)
noncomputable def upB : List Int → Bool
  | a :: b :: r => decide (a < b) && upB (b :: r)
  | _ => true
theorem up_pair : ∀ (l : List Int), upB l = true → l.Pairwise (· < ·)
  | [], _ => .nil
  | [a], _ => by simp
  | a :: b :: r, h => by
    unfold upB at h
    rw [Bool.and_eq_true, decide_eq_true_eq] at h
    have ih := up_pair (b :: r) h.2
    refine .cons (fun c hc => ?_) ih
    rcases List.mem_cons.mp hc with rfl | hc
    · exact h.1
    · exact Int.lt_trans h.1 ((List.pairwise_cons.mp ih).1 c hc)
theorem LD_len : LD.length = 650 := by kernel_rfl
theorem LD_up : upB (LD.map fun p => hashInt p.1) = true := by kernel_rfl
theorem LD_ents : ents = mkE 290 LD := by kernel_rfl
theorem LD_items : itemsD = LD.map it := by kernel_rfl
theorem h7_len (P : Params) (led : Bool) : (h7 P led).objs.toList.length = 54 := by kernel_rfl
theorem LD_nodup : (LD.map fun p => hashInt p.1).Nodup := (up_pair _ LD_up).imp fun h => Int.ne_of_lt h

theorem run_C (k : Nat) (h1 : 1 ≤ k) (h2 : k ≤ 37) (w : World) : RunC k w := by
  unfold RunC
  funext os
  have hlen := LD_len
  have hC17 : ((LD.drop (17 * k)).take 17).length = 17 := by rw [List.length_take, List.length_drop]; omega
  have hsplit : LD.drop (17 * k) = (LD.drop (17 * k)).take 17 ++ LD.drop (17 * (k + 1)) := by
    rw [show 17 * (k + 1) = 17 * k + 17 by omega, ← List.drop_drop, List.take_append_drop]
  have htake : LD.take (17 * (k + 1)) = LD.take (17 * k) ++ (LD.drop (17 * k)).take 17 := by
    rw [show 17 * (k + 1) = 17 * k + 17 by omega, List.take_add]
  have hent : ∀ j, j ≤ 650 → ents.take j = mkE 290 (LD.take j) := fun j hj => by
    have e := mkE_append (LD.take j) (LD.drop j) 290
    rw [List.take_append_drop, ← LD_ents] at e
    rw [e, List.take_append_of_le_length (by rw [mkE_length, List.length_take]; omega), List.take_of_length_le (by rw [mkE_length, List.length_take]; omega)]
  have hsub : (ents.drop (17 * k)).take 17 = mkE (290 + 51 * k) ((LD.drop (17 * k)).take 17) := by
    have e := hent (17 * (k + 1)) (by omega)
    rw [htake, mkE_append, ← hent (17 * k) (by omega), show 17 * (k + 1) = 17 * k + 17 by omega, List.take_add] at e
    have e := List.append_cancel_left e
    rw [e, List.length_take, hlen, Nat.min_eq_left (by omega), show 290 + 3 * (17 * k) = 290 + 51 * k by omega]
  have hent' : ents.take (17 * (k + 1)) = ents.take (17 * k) ++ mkE (290 + 51 * k) ((LD.drop (17 * k)).take 17) := by
    rw [show 17 * (k + 1) = 17 * k + 17 by omega, List.take_add, hsub]
  generalize hC : (LD.drop (17 * k)).take 17 = C at *
  obtain ⟨C0, p, rfl⟩ : ∃ C0 p, C = C0 ++ [p] := by
    refine ⟨C.dropLast, C.getLast (fun q => by rw [q] at hC17; cases hC17), ?_⟩
    exact (List.dropLast_concat_getLast _).symm
  have hC0 : C0.length = 16 := by rw [List.length_append, List.length_singleton] at hC17; omega
  obtain ⟨F, hF, hF'⟩ := forIn_step (it p) (itemsD.drop (17 * (k + 1))) (some 54, C0.map tr)
  have hT : TD k = ⟨((fD (it p) ((some 54, C0.map tr) : Acc) >>= fun r => F r >>= fun x => gD x >>= KD)).wrap doneF deadEnd id id, cod, pD, [topFrame p0]⟩ := by
    unfold TD
    have e : itemsD.drop (17 * k) = C0.map it ++ (it p :: itemsD.drop (17 * (k + 1))) := by
      rw [LD_items, ← List.map_drop, hsplit, List.map_append, List.map_append, List.append_assoc, List.map_singleton, List.singleton_append, List.map_drop]
    rw [e, gather C0 [] (by rw [List.length_nil, hC0]; decide), List.nil_append, hF, bind_assoc, bind_assoc]
  rw [hT]
  have ok : Ok (ents.take (17 * k)) ((C0 ++ [p]).map fun p => hashInt p.1) := by
    unfold Ok
    rw [hent (17 * k) (by omega), mkE_hash, ← List.map_append, ← htake]
    exact List.Nodup.sublist ((List.take_sublist _ _).map _) LD_nodup
  have hne : ents.take (17 * k) ≠ [] := fun q => by
    have := congrArg List.length q
    rw [hent (17 * k) (by omega), mkE_length, List.length_take, hlen, List.length_nil] at this
    omega
  have hl : (ents.take (17 * k)).length + 17 ≤ 1000 := by
    rw [hent (17 * k) (by omega), mkE_length, List.length_take, hlen]; omega
  have hR := fD_full (w := w) (g := #[]) (dr := boot_drawn) (t := 290 + 51 * k) (os := os) (A := (h7 w.params (!w.params.followText "set-order")).objs.toList) (B := (List.range (k - 1)).map fun j => subObj (j + 1))
    (n := 17 * k) (p := p) (run := C0.map tr) (L := C0 ++ [p]) (h7_len _ _) hne hl hC17 (by rw [List.map_append]; rfl) ok
  have hg := Rn.go (f := fun r => F r >>= fun x => gD x >>= KD) (K := doneF) (H := deadEnd) (gd := id) (lv := id) (cd := cod) hR
  rw [hF'] at hg
  refine hg.trans ?_
  have hS : SD w (k + 1) os = ⟨hL ((h7 w.params (!w.params.followText "set-order")).objs.toList ++ dObj (ents.take (17 * k) ++ mkE (290 + 51 * k) (C0 ++ [p])) (17 * k + 17) :: ((List.range (k - 1)).map (fun j => subObj (j + 1)) ++ [dObj (mkE (290 + 51 * k) (C0 ++ [p])) 17])), #[], boot_drawn, 290 + 51 * k + 51, os⟩ := by
    unfold SD hD hL
    rw [hent', show 17 * (k + 1) = 17 * k + 17 by omega, show 290 + 51 * (k + 1) = 290 + 51 * k + 51 by omega]
    have er : (List.range (k + 1 - 1)).map (fun j => subObj (j + 1)) = (List.range (k - 1)).map (fun j => subObj (j + 1)) ++ [dObj (mkE (290 + 51 * k) (C0 ++ [p])) 17] := by
      rw [show k + 1 - 1 = (k - 1) + 1 by omega, List.range_succ, List.map_append, List.map_singleton, show k - 1 + 1 = k by omega]
      unfold subObj
      rw [hsub]
    rw [er]
  rw [hS]
  unfold TD
  rw [bind_assoc]
end
end Hd
end Mine

namespace Mine
namespace Hd

noncomputable def places2 : Nat → List DictEntry → Int → List Nat
  | _, [], _ => []
  | i, e :: r, h => if e.hash = h then i :: places2 (i + 1) r h else places2 (i + 1) r h
theorem places_go (f : Nat → Option Int) (h : Int) : ∀ (l : List DictEntry) (i : Nat), (∀ j, f (i + j) = (l[j]?).map (·.hash)) → (List.range' i l.length).filter (fun j => f j == some h) = places2 i l h
  | [], i, _ => rfl
  | e :: r, i, hf => by
    have ih := places_go f h r (i + 1) fun j => by
      have := hf (j + 1)
      rw [show i + (j + 1) = i + 1 + j by omega] at this
      simpa using this
    have h0 := hf 0
    rw [Nat.add_zero] at h0
    rw [List.length_cons, List.range'_succ, List.filter_cons, ih, h0]
    simp only [List.getElem?_cons_zero, Option.map_some]
    unfold places2
    by_cases he : e.hash = h
    · rw [if_pos (by simp [he]), if_pos he]
      cases r <;> rfl
    · rw [if_neg (by simp [he]), if_neg he]
      cases r <;> rfl
theorem places_fast (es : Array DictEntry) (h : Int) : placesWithHash es.size (fun i => es[i]?.map (·.hash)) h = places2 0 es.toList h := by
  unfold placesWithHash
  rw [List.range_eq_range', ← Array.length_toList]
  exact places_go _ h es.toList 0 fun j => by simp

noncomputable section
def dictFind2' : { g : Addr → Value → Int → Sem (Option Nat) // ∀ d key h, dictFind d key h = g d key h } := by
  refine ⟨?g, fun d key h => ?_⟩
  rotate_left
  · unfold dictFind; simp only [places_fast]; exact rfl
def dictPut2' : { g : Addr → Int → Value → Value → Sem Unit // ∀ d h key v, dictPut d h key v = g d h key v } := by
  refine ⟨?g, fun d h key v => ?_⟩
  rotate_left
  · unfold dictPut; simp only [dictFind2'.2]; exact rfl
def mergeMapping2' : { g : Addr → Value → Bool → Sem Unit // ∀ d m u, mergeMapping d m u = g d m u } := by
  refine ⟨?g, fun d m u => ?_⟩
  rotate_left
  · unfold mergeMapping; simp only [dictPut2'.2]; exact rfl
def fD2' : { g : Item → Acc → Sem (ForInStep Acc) // fD = g } := by
  refine ⟨?g, ?_⟩
  rotate_left
  · unfold fD fg'; dsimp only; simp only [mergeMapping2'.2]; exact rfl
def gD2' : { g : Acc → Sem Value // gD = g } := by
  refine ⟨?g, ?_⟩
  rotate_left
  · unfold gD fg'; dsimp only; simp only [mergeMapping2'.2]; exact rfl
abbrev fD2 := fD2'.1
abbrev gD2 := gD2'.1
def TD2 (k : Nat) : Thread := ⟨((forIn (itemsD.drop (17 * k)) ((some 54, []) : Acc) fD2 >>= gD2) >>= KD).wrap doneF deadEnd id id, cod, pD, [topFrame p0]⟩
theorem TD_eq (k : Nat) : TD k = TD2 k := by
  unfold TD TD2
  rw [fD2'.2, gD2'.2]
end
def RunC2 (k : Nat) (w : World) : Prop := (fun os => segGo treeTable prg w 11 ann 1 330 (SD w k os) (TD2 k)) = fun os => some (SD w (k + 1) os, TD2 (k + 1))
end Hd
end Mine

namespace Mine
namespace Hd
noncomputable section
def pB : Pos := ⟨48, 0, 48, 13⟩
def o3b (P : Params) : Obj := match (o3 P).data with
  | .dict es n => { cls := (o3 P).cls, dict := (o3 P).dict, data := .dict (es.push ⟨PyData.keyHash P "b3_exceptions", .str "b3_exceptions" 2240, .ref 54⟩) (n + 1), slots := (o3 P).slots }
  | _ => o3 P
noncomputable def mkEnts2 : Nat → List (Option Expr) → List Expr → List DictEntry
  | t, k :: ks, v :: vs => ⟨intOf k, .int (intOf k) t, .str (strOf v) (t + 1)⟩ :: mkEnts2 (t + 2) ks vs
  | _, _, _ => []
def lastEnts : List DictEntry := mkEnts2 2228 (ksD.drop 646) (vsD.drop 646)
def entsZ : List DictEntry := ents.take 646 ++ lastEnts
def h8 (P : Params) (led : Bool) : Heap := ⟨(((h7 P led).objs.toList.set 3 (o3b P)) ++ dObj entsZ 650 :: ((List.range 37).map (fun j => subObj (j + 1)) ++ [dObj lastEnts 4])).toArray, {}⟩
def S8 (w : World) (os : OsState) : Shared := ⟨h8 w.params (!w.params.followText "set-order"), #[], boot_drawn, 2241, os⟩
end
def RunE (w : World) : Prop := (fun os => segRun treeTable prg w 11 ann 1 90 (SD w 38 os) (TD2 38)) = fun os => some (Flow.next, S8 w os, cod, pB)
theorem run_E (w : World) : RunE w := by
  refine byRow2 "special-get-raises" (P := RunE) (fun w => ?_) (fun w => ?_) w
  · unfold RunE; rw [Fast.te14374325043358763698, Fast.te14364793385576792824]; kernel_rfl
  · unfold RunE; rw [Fast.te14374325043358763698, Fast.te14364793385576792824]; kernel_rfl
end Hd
end Mine

namespace Mine
namespace Hd
theorem run_tail (w : World) (os : OsState) : ∀ j : Nat, j ≤ 37 → segRun treeTable prg w 11 ann 1 (330 * j + 90) (SD w (38 - j) os) (TD (38 - j)) = some (Flow.next, S8 w os, cod, pB)
  | 0, _ => by
    rw [TD_eq]
    exact congrFun (run_E w) os
  | j + 1, h => by
    have ih := run_tail w os j (by omega)
    have hc := congrFun (run_C (38 - (j + 1)) (by omega) (by omega) w) os
    have e : 38 - (j + 1) + 1 = 38 - j := by omega
    rw [e] at hc
    have := seg_go hc ih
    rw [show 330 * (j + 1) + 90 = 330 + (330 * j + 90) by omega]
    exact this
theorem run_D (w : World) (os : OsState) : segRun treeTable prg w 11 ann 1 (225 + (330 * 37 + 90)) (S7 w os) (pieceOf stD env0 cod pA [topFrame p0]) = some (Flow.next, S8 w os, cod, pB) := by
  have hb := congrFun (run_B w) os
  have ht := run_tail w os 37 (Nat.le_refl _)
  exact seg_go hb ht

theorem bod_split : bod = bod.take 7 ++ (stD :: bod.drop 8) := by kernel_rfl
theorem chain (w : World) (os : OsState) {N : Nat} {r : Shared} (k : topRun treeTable prg w 11 ann N (S8 w os) (restOf (bod.drop 8) env0 cod pB [topFrame p0]) = some r) :
    topRun treeTable prg w 11 ann (12 + (1 + (1144 + ((225 + (330 * 37 + 90)) + N)))) ⟨boot_heap w.params, #[], boot_drawn, boot_toks, os⟩ (topStub prg) = some r := by
  refine go_top (congrFun (pre_run w) os) ?_
  refine piece_block (congrFun (block_run w) os) ?_
  have k1 := piece_cons (run_D w os) k
  have k2 := piece_app (congrFun (run_A w) os) k1
  rw [← bod_split] at k2
  exact k2
end Hd
end Mine

namespace Mine
namespace Hd
def qv : Program := view prg [1, 2, 3, 6, 8, 10, 11, 12, 13, 14, 15]
def lo : List Str := ["b1_set", "b3_exceptions"]
abbrev mods : List Str := importedModules prg.main.body
noncomputable abbrev last (w : World) (os : OsState) : Option Shared := topRun treeTable prg w 11 ann 300 (S8 w os) (restOf (bod.drop 8) env0 cod pB [topFrame p0])
abbrev fnNames : List Str := ["_iter_escaped_chars", "_strip_quoted_realnames", "_check_parenthesis", "b1_set", "in_table_b1", "b3_exceptions", "map_table_b3", "_law_unseen", "_law_piece", "_law_alone", "_law_outside", "_law_struck_out", "law", "enumerate", "ord", "chr", "len", "range"]
abbrev fnVals : List (Option Value) := [some (.ref 21), some (.ref 28), some (.ref 35), some (.ref 43), some (.ref 53), some (.ref 54), some (.ref 99), some (.ref 106), some (.ref 111), some (.ref 116), some (.ref 123), some (.ref 128), some (.ref 133), none, none, none, none, none]
def obs (s : Shared) : List (Option Value) × Option Obj × Option Obj := (fnNames.map (s.heap.nsMap mainGlobals), s.heap.get? 43, s.heap.get? 54)
noncomputable def val (w : World) : List (Option Value) × Option Obj × Option Obj := (fnVals, some (o43 (!w.params.followText "set-order")), some (dObj entsZ 650))
theorem last_ok (w : World) : (fun os => (last w os).map fun s => (staticsOk mods (boot_heap w.params) s.heap && namesBound prg s.heap && gensDone s && laidKept (boot_heap w.params) s.heap)) = fun os => some true := by
  unfold last; rw [Fast.te14082659384304107361, Fast.te14364793385576792824]; kernel_rfl
theorem last_obs (w : World) : (fun os => (last w os).map obs) = fun os => some (val w) := by
  unfold last; rw [Fast.te14082659384304107361, Fast.te14364793385576792824]; kernel_rfl
theorem last_seen (w : World) : (fun os => (last w os).map fun s => openSeen qv lo mods (fun _ => true) true s) = fun os => some (openGood qv lo) := by
  unfold last; rw [Fast.te4187177175401517315, Fast.te14082659384304107361, Fast.te14364793385576792824]; kernel_rfl
end Hd
end Mine

namespace Mine
namespace Hd
theorem open_plain : opening prg = plainProg prg.main.scope.names := by kernel_rfl
theorem fence_plain (s : Shared) : fenceModules? prg s = some s := by kernel_rfl
theorem boot_isNs (P : Params) : (boot_heap P).isNs mainGlobals = true := by kernel_rfl
theorem boot_size (P : Params) : (boot_heap P).objs.size = 11 := by kernel_rfl
theorem boot_ann (P : Params) : (boot_heap P).nsMap mainGlobals "__annotations__" = some (.ref 6) := by kernel_rfl

theorem left : LeftO prg qv lo (fun _ => true) obs val 13982 := fun w => by
  have hb := boot_open (p := prg) (N := 13982) open_plain (by rfl) fence_plain w
  obtain ⟨s₀, h0, e0⟩ := Option.map_eq_some_iff.mp hb
  have hs : s₀ = ⟨boot_heap w.params, #[], boot_drawn, boot_toks, s₀.os⟩ := by
    obtain ⟨heap, gens, drawn, toks, os⟩ := s₀
    simp only [Prod.mk.injEq] at e0
    obtain ⟨rfl, rfl, rfl, rfl⟩ := e0
    rfl
  unfold openEnds
  rw [h0]
  show (topFrom treeTable prg w 13982 s₀).map _ = _
  rw [hs]
  generalize s₀.os = os
  obtain ⟨sf, hf, hk⟩ := Option.map_eq_some_iff.mp (congrFun (last_ok w) os)
  have e1 := congrFun (last_seen w) os
  have e2 := congrFun (last_obs w) os
  simp only [hf, Option.map_some, Option.some.injEq] at e1 e2
  have hrun := chain w os hf
  unfold topFrom
  have h1 : ((boot_heap w.params).isNs mainGlobals && (#[] : Array GenState).size == 0) = true := by rw [boot_isNs]; rfl
  dsimp only
  rw [h1]
  dsimp only
  rw [boot_size, boot_ann]
  have hrun' : topRun treeTable prg w 11 (some (.ref 6)) 13982 ⟨boot_heap w.params, #[], boot_drawn, boot_toks, os⟩ (topStub prg) = some sf := hrun
  rw [hrun']
  dsimp only [Option.bind_some]
  rw [hk]
  dsimp only [Option.map_some]
  rw [e1, e2]
end Hd
end Mine

namespace Mine
namespace Hd

noncomputable def fZ (k : Int) : Option Value := findBy Value.isInt entsZ.toArray k
noncomputable def gZ (k : Int) : Option Value := (entsZ.find? fun e => Value.isInt k e.key).map (·.val)
theorem fZ_eq (k : Int) : fZ k = gZ k := by unfold fZ gZ findBy; simp
def isText (v : Option Value) (y : Str) : Bool := match v with
  | some (.str x _) => x == y
  | _ => false
theorem isText_of {v : Option Value} {y : Str} (h : isText v y = true) : ∃ t, v = some (.str y t) := by
  unfold isText at h
  split at h
  · rename_i x t
    exact ⟨t, by rw [eq_of_beq h]⟩
  · cases h
theorem z_keys : entsZ.all (fun e => decide (e.hash = hashInt e.hash) && Value.isInt e.hash e.key) = true := by kernel_rfl
theorem z_none : (decide (gZ 92 = none) && decide (gZ 40 = none) && decide (gZ 41 = none) && decide (gZ 34 = none)) = true := by kernel_rfl
theorem z_ss : isText (gZ 223) (S [115, 115]) = true := by kernel_rfl
theorem z_ffi : isText (gZ 64259) (S [102, 102, 105]) = true := by kernel_rfl
theorem z_big : (List.range 26).all (fun i => isText (gZ ((119808 + i : Nat) : Int)) (S [97 + i])) = true := by kernel_rfl

theorem b3_Z : B3 fZ := by
  have h := z_none
  simp only [Bool.and_eq_true, decide_eq_true_eq, ← fZ_eq] at h
  refine ⟨h.1.1.1, h.1.1.2, h.1.2, h.2, isText_of (by rw [fZ_eq]; exact z_ss), isText_of (by rw [fZ_eq]; exact z_ffi), fun i hi => ?_⟩
  exact isText_of (by rw [fZ_eq]; exact List.all_eq_true.mp z_big i (List.mem_range.mpr hi))
theorem map_Z {w : World} {h : Heap} (e : h.get? 54 = some (dObj entsZ 650)) : h.MapOf (intKind prg w) 54 fZ := by
  refine ⟨_, entsZ.toArray, 650, e, ⟨rfl, rfl, rfl⟩, rfl, fun en hen => ?_, fun k => rfl⟩
  have := List.all_eq_true.mp z_keys en (by simpa using hen)
  simp only [Bool.and_eq_true, decide_eq_true_eq] at this
  exact ⟨en.hash, this.2, this.1⟩
end Hd
end Mine

namespace Mine
namespace Hd

def setEs (o : Obj) : List (Int × Value) := match o.data with
  | .set es _ _ => es.toList
  | _ => []
theorem set_all (led : Bool) : (setEs (o43 led)).all (fun e => match e.2 with | .int i _ => decide (e.1 = hashInt i) && isB1 i && e.2.scannable | _ => false) = true := by cases led <;> kernel_rfl
theorem set_has (led : Bool) : b1List.all (fun k => (setEs (o43 led)).any fun e => Value.isInt k e.2) = true := by cases led <;> kernel_rfl
theorem set_Z (w : World) (led : Bool) : (o43 led).SetObjOf (intKind prg w) isB1 27 := by
  refine ⟨⟨rfl, rfl, rfl⟩, _, _, _, rfl, ?_, fun k => ⟨fun hk => ?_, fun ⟨e, he, hk⟩ => ?_⟩, by rfl, by cases led <;> rfl⟩
  · intro e he
    have := List.all_eq_true.mp (set_all led) e he
    obtain ⟨c, v⟩ := e
    cases v with
    | int i t =>
      simp only [Bool.and_eq_true, decide_eq_true_eq] at this
      exact ⟨⟨i, by show (i == i) = true; simp, this.1.1⟩, this.2⟩
    | _ => simp at this
  · have hk' : k ∈ b1List := by unfold isB1 at hk; simpa using hk
    obtain ⟨e, he, h⟩ := List.any_eq_true.mp (List.all_eq_true.mp (set_has led) k hk')
    exact ⟨e, he, h⟩
  · have := List.all_eq_true.mp (set_all led) e he
    obtain ⟨c, v⟩ := e
    cases v with
    | int i t =>
      simp only [Bool.and_eq_true, decide_eq_true_eq] at this
      have hik : (i == k) = true := hk
      rw [← eq_of_beq hik]
      exact this.1.2
    | _ => simp at this

def says (w : World) (h : Heap) : Prop :=
  (∃ o es ep, h.get? mainGlobals = some o ∧ o.data = .dict es ep ∧ fnNames.map (nsFind es) = fnVals) ∧ h.get? 43 = some (o43 (!w.params.followText "set-order")) ∧ h.get? 54 = some (dObj entsZ 650)
theorem says_of (w : World) (s : Shared) (e : obs s = val w) : says w s.heap := by
  unfold obs val at e
  simp only [Prod.mk.injEq] at e
  obtain ⟨e1, e2, e3⟩ := e
  refine ⟨?_, e2, e3⟩
  unfold Heap.nsMap at e1
  cases hg : s.heap.get? mainGlobals with
  | none => rw [hg] at e1; simp at e1
  | some o =>
    rw [hg] at e1
    cases hd : o.data with
    | dict es ep =>
      refine ⟨o, es, ep, rfl, hd, ?_⟩
      dsimp only at e1
      rw [hd] at e1
      exact e1
    | _ => dsimp only at e1; rw [hd] at e1; simp at e1
theorem says_keeps (w : World) (h h' : Heap) (x : says w h) (hk : ∀ b o, h.get? b = some o → h'.get? b = some o) : says w h' := by
  obtain ⟨⟨o, es, ep, a, b, c⟩, d, e⟩ := x
  exact ⟨⟨o, es, ep, hk _ _ a, b, c⟩, hk _ _ d, hk _ _ e⟩
theorem says_mg {w : World} {h : Heap} (x : says w h) {mg : Str → Option Value} (hg : h.Ns mainGlobals mg) : fnNames.map mg = fnVals := by
  obtain ⟨⟨o, es, ep, a, b, c⟩, _⟩ := x
  obtain ⟨o', es', ep', a', b', _, hm⟩ := hg
  rw [a] at a'
  cases a'
  rw [b] at b'
  cases b'
  rw [← c]
  exact List.map_congr_left fun n _ => (hm n).symm

theorem fn_at {XP : (Str → Option Value) → Heap → Prop} {w : World} {s₀ : Shared} {mg mb : Str → Option Value} {h : Heap} {R : WRecords} (G : Ground qv lo R XP w s₀ mg mb h) {name : Str} {t : FnText} {a : Addr} (hmg : mg name = some (.ref a))
    (e : (defOf qv name).map (fun x => (x.1.name, x.1.params, x.1.body, x.1.scope, x.2)) = some (name, t.params, t.body, t.scope, [])) (hd : t.params.defaults = []) : FnAt h a name t := by
  obtain ⟨⟨d, kw⟩, h1, h2⟩ := Option.map_eq_some_iff.mp e
  simp only [Prod.mk.injEq] at h2
  obtain ⟨n1, n2, n3, n4, n5⟩ := h2
  obtain ⟨a', o, pm, cd, doc, dV, kV, g1, g2, g3, g4, g5⟩ := G.fn h1
  rw [hmg] at g1
  cases g1
  have hdV : dV = .none := by
    rcases g5.pos with ⟨_, x⟩ | ⟨x, _⟩
    · exact x
    · rw [n2] at x; exact absurd hd x
  have hkV : kV = .none := by
    rcases g5.kw with ⟨_, x⟩ | ⟨x, _⟩
    · exact x
    · exact absurd n5 x
  obtain ⟨c, oc, vs, tk, rfl, r⟩ := g4
  subst hdV hkV
  refine ⟨o, pm, c, doc, g2, ?_, n1 ▸ ⟨c, oc, vs, tk, rfl, r⟩⟩
  rw [g3, n1, n2, n3, n4]; rfl

theorem d1 : (defOf qv "_iter_escaped_chars").map (fun x => (x.1.name, x.1.params, x.1.body, x.1.scope, x.2)) = some (("_iter_escaped_chars" : Str), tIter.params, tIter.body, tIter.scope, []) := by kernel_rfl
theorem d2 : (defOf qv "_strip_quoted_realnames").map (fun x => (x.1.name, x.1.params, x.1.body, x.1.scope, x.2)) = some (("_strip_quoted_realnames" : Str), tStrip.params, tStrip.body, tStrip.scope, []) := by kernel_rfl
theorem d3 : (defOf qv "_check_parenthesis").map (fun x => (x.1.name, x.1.params, x.1.body, x.1.scope, x.2)) = some (("_check_parenthesis" : Str), tCheck.params, tCheck.body, tCheck.scope, []) := by kernel_rfl
theorem d6 : (defOf qv "in_table_b1").map (fun x => (x.1.name, x.1.params, x.1.body, x.1.scope, x.2)) = some (("in_table_b1" : Str), tInB1.params, tInB1.body, tInB1.scope, []) := by kernel_rfl
theorem d8 : (defOf qv "map_table_b3").map (fun x => (x.1.name, x.1.params, x.1.body, x.1.scope, x.2)) = some (("map_table_b3" : Str), tMap.params, tMap.body, tMap.scope, []) := by kernel_rfl
theorem d10 : (defOf qv "_law_unseen").map (fun x => (x.1.name, x.1.params, x.1.body, x.1.scope, x.2)) = some (("_law_unseen" : Str), tUnseen.params, tUnseen.body, tUnseen.scope, []) := by kernel_rfl
theorem d11 : (defOf qv "_law_piece").map (fun x => (x.1.name, x.1.params, x.1.body, x.1.scope, x.2)) = some (("_law_piece" : Str), tPiece.params, tPiece.body, tPiece.scope, []) := by kernel_rfl
theorem d12 : (defOf qv "_law_alone").map (fun x => (x.1.name, x.1.params, x.1.body, x.1.scope, x.2)) = some (("_law_alone" : Str), tAlone.params, tAlone.body, tAlone.scope, []) := by kernel_rfl
theorem d13 : (defOf qv "_law_outside").map (fun x => (x.1.name, x.1.params, x.1.body, x.1.scope, x.2)) = some (("_law_outside" : Str), tOutside.params, tOutside.body, tOutside.scope, []) := by kernel_rfl
theorem d14 : (defOf qv "_law_struck_out").map (fun x => (x.1.name, x.1.params, x.1.body, x.1.scope, x.2)) = some (("_law_struck_out" : Str), tStruck.params, tStruck.body, tStruck.scope, []) := by kernel_rfl
theorem d15 : (defOf qv "law").map (fun x => (x.1.name, x.1.params, x.1.body, x.1.scope, x.2)) = some (("law" : Str), tLaw.params, tLaw.body, tLaw.scope, []) := by kernel_rfl

theorem top0 {XP : (Str → Option Value) → Heap → Prop} {w : World} {s₀ : Shared} {mg mb : Str → Option Value} {h : Heap} {R : WRecords} (G : Ground qv lo R XP w s₀ mg mb h) (Y : says w h) : Top0 w mg mb h ∧ FnAt h 133 "law" tLaw ∧ mg "law" = some (.ref 133) := by
  have hm := says_mg Y G.T.g
  simp only [fnNames, fnVals, List.map_cons, List.map_nil, List.cons.injEq, and_true] at hm
  obtain ⟨h1, h2, h3, h4, h5, h6, h7, h8, h9, h10, h11, h12, h13, h14, h15, h16, h17, h18⟩ := hm
  refine ⟨{ g := G.T.g, b := G.T.b, lim := G.T.nolimit, bi := G.T.builtins, nEnum := h14, nOrd := h15, nChr := h16, nLen := h17, nRange := h18, gIter := h1, gStrip := h2, gCheck := h3, gSet := h4, gInB1 := h5, gDict := h6, gMap := h7, gUnseen := h8, gPiece := h9, gAlone := h10, gOutside := h11, gStruck := h12
            fIter := fn_at G h1 d1 rfl, fStrip := fn_at G h2 d2 rfl, fCheck := fn_at G h3 d3 rfl, fInB1 := fn_at G h5 d6 rfl, fMap := fn_at G h7 d8 rfl, fUnseen := fn_at G h8 d10 rfl, fPiece := fn_at G h9 d11 rfl, fAlone := fn_at G h10 d12 rfl, fOutside := fn_at G h11 d13 rfl, fStruck := fn_at G h12 d14 rfl
            fSet := ⟨_, 27, Y.2.1, by decide, set_Z w _⟩, fDict := ⟨fZ, map_Z Y.2.2, b3_Z⟩ }, fn_at G h13 d15 rfl, h13⟩
end Hd
end Mine

namespace Mine
namespace Hd
theorem intsAre_of {R : WRecords} {cl : Str → Option Addr} {h : Heap} : ∀ {ns : List Int} {vs : List Value} {as : List Addr}, ReadsAllW R cl h vs (ns.map .int) as → IntsAre vs ns
  | [], vs, as, x => by obtain ⟨rfl, _⟩ := readsAllW_nil_inv x; exact .nil
  | n :: r, vs, as, x => by
    obtain ⟨v, vs', a1, a2, rfl, _, hv, hr⟩ := readsAllW_cons_inv x
    obtain ⟨t, rfl⟩ : ∃ t, v = .int n t := by cases hv; exact ⟨_, rfl⟩
    exact .cons n t (intsAre_of hr)

abbrev orw : OpenRow := PySem.Challenge.rw_pg0237_01.row
theorem pre_len {R : WRecords} {ns : List Int} (hcond : orw.toRowW.pre.holds R { args := [.list (ns.map .int)] } = true) : ns.length ≤ 63 := by
  change WTm.holds R (WTm.and (.not (.lt (.lit (.int ((63 : Nat) : Int))) (.len (.arg 0)))) (.lit (.bool true))) { args := [.list (ns.map .int)] } = true at hcond
  w_cond hcond
  rw [List.length_map] at *
  omega

theorem room0 : Room callerA 12 := ⟨rfl, by decide, by decide⟩

theorem walk {d : DefRec} {kwd : List (Str × Expr)} (h1 : defOf qv orw.name = some (d, kwd)) : WalkO qv lo (fun _ _ => True) says orw.toRowW d kwd (fun f vs => PySem.call f vs) := by
  intro w s₀ s₁ mg mb G Y a o pm cd doc dV kV ho hd hcd hD hmg hg args vals as hpre hlay hrd hwl hlo
  obtain ⟨T, hf, hm⟩ := top0 G Y
  have hn : d.name = "law" := defOf_name h1
  rw [hn, hm] at hmg
  cases hmg
  obtain ⟨hsh, hcond⟩ := pre_splitW hpre
  obtain ⟨x, r, rfl, hx, hr⟩ := hasAllW_cons hsh
  obtain rfl := hasAllW_nil hr
  obtain ⟨xs, rfl, hi⟩ := hasW_list hx
  obtain ⟨ns, rfl⟩ := items_int hi
  obtain ⟨v, vs, a1, a2, rfl, _, hv, hvs⟩ := readsAllW_cons_inv hrd
  obtain ⟨rfl, _⟩ := readsAllW_nil_inv hvs
  obtain ⟨l, its, as', rfl, hl, hits, _⟩ := readsW_list_inv hv
  have hlen := pre_len hcond
  have hl' : s₁.heap.IsList l its.toList.toArray := hl
  refine wpAny_mono (do_law T room0 hf hl' (intsAre_of hits) hlen lawFacts (Q := fun v s' => GoodWG orw.toRowW.claim (classAt s₀.heap) (ExcName.means s₀.heap) [.list (ns.map .int)] s₁ (.ok (.ret v)) s') fun s' K => ?_) (fun _ _ x => x) fun _ _ x => x.elim
  refine ⟨.inl ⟨.bool true, .bool true, [], rfl, fun cls => rfl, .bool true, by wrow_post, fun _ => ⟨List.nodup_nil, fun b hb => nomatch hb⟩⟩, .of_keep K.heap, K.os, K.bare ?_⟩
  rw [hg]; intro y hy; simp at hy
end Hd
end Mine

namespace Mine
namespace Hd
theorem the_def : orw.prog.theDef orw.name = some (tLaw.params, tLaw.body, tLaw.scope) := by kernel_rfl
theorem the_kw : kwWritten? tLaw.params.kwonlyargs tLaw.params.kw_defaults = some [] := by kernel_rfl
theorem row_holds (said : orw.wellSaid = true) (hw : orw.toRowW.promised) : orw.Holds := by
  obtain ⟨⟨d, kwd⟩, h1, h2⟩ := Option.map_eq_some_iff.mp d15
  simp only [Prod.mk.injEq] at h2
  obtain ⟨n1, n2, n3, n4, n5⟩ := h2
  have hp : orw.prog.theDef orw.name = some (d.params, d.body, d.scope) := by rw [n2, n3, n4]; exact the_def
  have hk : kwWritten? d.params.kwonlyargs d.params.kw_defaults = some kwd := by rw [n2, n5]; exact the_kw
  exact holds_open (q := qv) (loose := lo) (Xt := fun _ => true) (XP := fun _ _ => True) (Yf := obs) (Ya := val) (YP := says) (d := d) (kwd := kwd) (N := 13982) left says_of says_keeps (fun _ _ => trivial) (fun _ _ _ _ _ => trivial) h1 hp hk
    (fun s _ => recFacts_nil rfl) (by rfl) said (by decide +kernel) ⟨rfl, rfl, rfl, rfl, rfl, by decide +kernel⟩ hw (walk h1)
end Hd
end Mine

set_option maxRecDepth 100000 in
set_option maxHeartbeats 8000000 in
theorem PySem.Challenge.cw_pg0237_01_holds : PySem.Challenge.rw_pg0237_01.Holds := by
  w_on
  o_law
  refine Mine.Hd.row_holds (by assumption) ?_
  w_witness2
