import PyProof.Rows.All
import Wide.All
import OpenK.AllK
import Wide.FinOn
import Flt.Len
import PySem.Challenge.RW_bf6024_01
set_option Elab.async false
open PySem PySem.W PyProof.Rows
namespace Mine
set_option maxRecDepth 100000 in
set_option maxHeartbeats 8000000 in
open_top hd for PySem.Challenge.rw_bf6024_01
end Mine

section
open PySem PySem.W PyProof.Rows PySem.Calls
set_option maxRecDepth 100000
set_option linter.unusedVariables false
namespace Mine
noncomputable abbrev P0 : Program := PySem.Challenge.rw_bf6024_01.row.prog
noncomputable abbrev loose0 : List Str := looseW Mine.hd.view_39 [Str.ofString "_ansi_codes", Str.ofString "_colored_number", Str.ofString "_format"] ++
          List.map (fun x => x.name) (recsOf Mine.hd.view_39) ++
        List.map (fun x => x.fst) (litsOf Mine.hd.view_39) ++
      List.map (fun x => x.name)
        (clssOf Mine.hd.view_39
          (looseW Mine.hd.view_39
            [Str.ofString "_ansi_codes", Str.ofString "_colored_number", Str.ofString "_format"]))
noncomputable abbrev K0 (w : World) : Frag := Mine.hd.heap_39 w.params
noncomputable abbrev Tp0 (hs : Heap) (mg mb : Str → Option Value) (h : Heap) : Prop := Top topProg loose0 (ExcName.means hs) mg mb h

abbrev Led := List (Addr × Obj)

inductive V where
  | undef | none | bool (b : Bool) | int (i : Int) | str (l : List Nat) | flt (b : UInt64) | tup (vs : List V) | val (x : Value)

abbrev tupObj (xs : List Value) : Obj := { cls := .type "tuple", data := .seq xs.toArray }

mutual
inductive Rep (news : Led) : V → Value → Prop where
  | none : Rep news .none .none
  | bool (b : Bool) : Rep news (.bool b) (.bool b)
  | int (i : Int) (t : Tok) : Rep news (.int i) (.int i t)
  | str (l : List Nat) (t : Tok) : Rep news (.str l) (.str ⟨l.toArray⟩ t)
  | flt (b : UInt64) (t : Tok) : Rep news (.flt b) (.float b t)
  | val (x : Value) : Rep news (.val x) x
  | tup (vs : List V) (a : Addr) (xs : List Value) : (a, tupObj xs) ∈ news → Reps news vs xs → Rep news (.tup vs) (.ref a)
inductive Reps (news : Led) : List V → List Value → Prop where
  | nil : Reps news [] []
  | cons {v : V} {x : Value} {vs : List V} {xs : List Value} : Rep news v x → Reps news vs xs → Reps news (v :: vs) (x :: xs)
end

abbrev Sub (a b : Led) : Prop := ∀ p ∈ a, p ∈ b

mutual
theorem Rep.mono {a b : Led} (h : Sub a b) : ∀ {v : V} {x : Value}, Rep a v x → Rep b v x
  | _, _, .none => .none
  | _, _, .bool c => .bool c
  | _, _, .int i t => .int i t
  | _, _, .str l t => .str l t
  | _, _, .flt l t => .flt l t
  | _, _, .val x => .val x
  | _, _, .tup vs c xs hm hr => .tup vs c xs (h _ hm) (Reps.mono h hr)
theorem Reps.mono {a b : Led} (h : Sub a b) : ∀ {v : List V} {x : List Value}, Reps a v x → Reps b v x
  | _, _, .nil => .nil
  | _, _, .cons hx hr => .cons (Rep.mono h hx) (Reps.mono h hr)
end

structure Cx where
  w : World
  hs : Heap
  mg : Str → Option Value
  mb : Str → Option Value
  dp : Nat
  un : Nat
  gd : Option (List Code)
  cn : Str
  cs : Scope
  a : Addr
  ccd : Value
  cl : List (Str × Addr)
  outer : List Env
  A₀ : Around
  base : Heap
  h₀ : Heap
  L : Addr
  names : List Str
  sl : Addr
  svs : List Value
  sns : List Int

noncomputable abbrev Cx.env (C : Cx) : Env := envX C.cn C.cs C.L C.a C.ccd C.cl
noncomputable abbrev Cx.A (C : Cx) : Around := ktrTop C.dp C.un C.gd C.cn C.cs C.L C.a C.ccd C.cl C.outer
noncomputable abbrev Cx.M (C : Cx) : Model := model P0 C.w

structure Cx.Ok (C : Cx) (k : Nat) : Prop where
  B : Below C.A₀ C.base C.outer C.h₀
  X : (K0 C.w).In C.h₀
  T : Tp0 C.hs C.mg C.mb C.h₀
  fn : C.cs.kind = .function
  lst : C.h₀.IsList C.sl C.svs.toArray
  iar : IntsAre C.svs C.sns
  few : C.sns.length ≤ 63
  bits : ∀ n ∈ C.sns, n.natAbs.log2 < 2 ^ 21
  XB : (K0 C.w).In C.base
  TB : Tp0 C.hs C.mg C.mb C.base
  D : KtsDicts (C.outer.filterMap (·.frame)) C.h₀
  dep : C.dp + k < 990
  uni : C.un + 10 * k < 9000
theorem Cx.Ok.le {C : Cx} {j k : Nat} (ok : C.Ok k) (h : j ≤ k) : C.Ok j :=
  ⟨ok.B, ok.X, ok.T, ok.fn, ok.lst, ok.iar, ok.few, ok.bits, ok.XB, ok.TB, ok.D, by have := ok.dep; omega, by have := ok.uni; omega⟩
theorem Cx.Ok.push {C : Cx} {k : Nat} (ok : C.Ok k) {g : Heap} {m : Str → Option Value} (FG : Fr C.h₀ C.L g m) : KtsDicts ((C.env :: C.outer).filterMap (·.frame)) g := by
  intro b hb
  rcases kts_mem (name := C.cn) (scope := C.cs) (L := C.L) (a := C.a) (cd := C.ccd) hb with rfl | hb
  · obtain ⟨o, es, ep, h1, h2, _⟩ := FG.ns
    exact ⟨o, es, ep, h1, h2⟩
  · obtain ⟨o, es, n, h1, h2⟩ := ok.D b hb
    exact ⟨o, es, n, FG.keep _ _ h1, h2⟩

def Agree (names : List Str) (m : Str → Option Value) (news : Led) (ρ : List V) : Prop :=
  ∀ (i : Nat) (x : Str) (v : V), names[i]? = some x → ρ[i]? = some v → v ≠ .undef → ∃ y, m x = some y ∧ Rep news v y

theorem Agree.mono {names : List Str} {m : Str → Option Value} {a b : Led} {ρ : List V} (h : Sub a b) (g : Agree names m a ρ) : Agree names m b ρ :=
  fun i x v hn hv hu => let ⟨y, e, r⟩ := g i x v hn hv hu; ⟨y, e, r.mono h⟩

def Go {α : Type} (C : Cx) (A : Around) (m : Str → Option Value) (news : Led) (t : Sem α) (P : Led → α → Prop) : Prop :=
  ∀ (s : Shared) (Q : α → Shared → Prop) (E : Value → Shared → Prop), Fr C.h₀ C.L s.heap m → News C.h₀ C.L s.heap news →
    (∀ (x : α) (news' : Led) (h' : Heap) (tk' : Nat), Sub news news' → P news' x → Fr C.h₀ C.L h' m → News C.h₀ C.L h' news' → Q x { s with heap := h', toks := tk' }) →
    wpAny C.M A t Q E s

theorem Sub.refl (a : Led) : Sub a a := fun _ h => h
theorem Sub.trans {a b c : Led} (h : Sub a b) (g : Sub b c) : Sub a c := fun p hp => g p (h p hp)

section
variable {C : Cx} {A : Around} {m : Str → Option Value} {news : Led}
theorem Go.bind {α β : Type} {t : Sem α} {f : α → Sem β} {P : Led → α → Prop} {P' : Led → β → Prop} (h : Go C A m news t P)
    (k : ∀ x news', Sub news news' → P news' x → Go C A m news' (f x) P') : Go C A m news (t >>= f) P' := fun s Q E F N hq =>
  wpAny_bind (h s _ E F N fun x news' h' tk' sub p F' N' => k x news' sub p _ Q E F' N' fun y n2 h2 tk2 sub2 p2 F2 N2 => hq y n2 h2 tk2 (sub.trans sub2) p2 F2 N2)

theorem Go.pure {α : Type} {x : α} {P : Led → α → Prop} (h : P news x) : Go C A m news (Pure.pure x) P := fun s Q E F N hq =>
  wpAny_pure (hq x news s.heap s.toks (Sub.refl _) h F N)
theorem Go.mono {α : Type} {t : Sem α} {P P' : Led → α → Prop} (h : Go C A m news t P) (k : ∀ n x, Sub news n → P n x → P' n x) : Go C A m news t P' := fun s Q E F N hq =>
  h s Q E F N fun x n h' tk sub p F' N' => hq x n h' tk sub (k n x sub p) F' N'

/-- a step that leaves the heap as it is -/
theorem Go.still {α : Type} {t : Sem α} {P : Led → α → Prop} (h : ∀ (s : Shared) (Q : α → Shared → Prop) (E : Value → Shared → Prop), (∀ x tk, P news x → Q x { s with toks := tk }) → wpAny C.M A t Q E s) : Go C A m news t P := fun s Q E F N hq =>
  h s Q E fun x tk p => hq x news s.heap tk (Sub.refl _) p F N
end

/-- expression e under the values ρ of the frame's names comes to v -/
def Ev (C : Cx) (e : Expr) (ρ : List V) (v : V) : Prop := ∀ m news, Agree C.names m news ρ → Go C C.A m news (eval e C.env) (fun n x => Rep n v x)
def Evs (C : Cx) (es : List Expr) (ρ : List V) (vs : List V) : Prop := ∀ m news pos, Agree C.names m news ρ → Go C C.A m news (spliced (backTo pos (starEach es C.env))) (fun n xs => Reps n vs xs)
def Tst (C : Cx) (e : Expr) (ρ : List V) (b : Bool) : Prop := ∀ m news, Agree C.names m news ρ → Go C C.A m news (PySem.isTrue e C.env (eval e C.env)) (fun _ x => x = b)

section
variable {C : Cx} {ρ : List V}

theorem Ev.loc (i : Nat) {x : Str} {pos : Pos} {v : V} (hn : C.names[i]? = some x) (hv : ρ[i]? = some v) (hk : C.cs.kind = .function) (hl : C.env.kindOf x = some .local) (hd : (x == ("__debug__" : Str)) = false) (hu : v ≠ .undef := by intro h; cases h) :
    Ev C (.Name x pos) ρ v := fun m news g s Q E F N hq => by
  obtain ⟨y, e, r⟩ := g i x v hn hv hu
  exact nameX_L F e (hq y news s.heap s.toks (Sub.refl _) r F N) hk hl hd

theorem Ev.glob {x : Str} {pos : Pos} {y : Value} {k : Nat} (ok : C.Ok k) (hx : C.env.kindOf x = some .globalImplicit) (e : nsIn (K0 C.w) mainGlobals x = some (some y)) (hd : (x == ("__debug__" : Str)) = false) :
    Ev C (.Name x pos) ρ (.val y) := fun m news _ s Q E F N hq =>
  nameX_K F ok.X (topRead_of ok.T) e (hq y news s.heap s.toks (Sub.refl _) (.val y) F N) ok.fn hx hd

theorem Ev.blt {x : Str} {pos : Pos} {y : Value} {k : Nat} (ok : C.Ok k) (hx : C.env.kindOf x = some .globalImplicit) (e : nsIn (K0 C.w) mainGlobals x = some none) (hv : bootBuiltins x = some y) (hn : x ≠ "__name__") (hd : (x == ("__debug__" : Str)) = false) :
    Ev C (.Name x pos) ρ (.val y) := fun m news _ s Q E F N hq =>
  nameX_B F ok.X (topRead_of ok.T) e hv hn (hq y news s.heap s.toks (Sub.refl _) (.val y) F N) ok.fn hx hd

theorem Ev.int {i : Int} {k : Nat} {pos : Pos} : Ev C (.Constant (.int i) k pos) ρ (.int i) := fun m news _ s Q E F N hq =>
  wpAny_Constant_int (hq _ news s.heap _ (Sub.refl _) (.int i _) F N)
theorem Ev.str {x : Str} {l : List Nat} {k : Nat} {pos : Pos} (h : x = ⟨l.toArray⟩) : Ev C (.Constant (.str x) k pos) ρ (.str l) := fun m news _ s Q E F N hq => by
  subst h
  exact Constant_str (hq _ news s.heap _ (Sub.refl _) (.str l _) F N)
theorem Ev.none {k : Nat} {pos : Pos} : Ev C (.Constant .none k pos) ρ .none := fun m news _ s Q E F N hq =>
  wpAny_Constant_none (hq _ news s.heap s.toks (Sub.refl _) .none F N)
theorem Ev.bool {b : Bool} {k : Nat} {pos : Pos} : Ev C (.Constant (.bool b) k pos) ρ (.bool b) := fun m news _ s Q E F N hq =>
  wpAny_Constant_bool (hq _ news s.heap s.toks (Sub.refl _) (.bool b) F N)

theorem Ev.bin {l r : Expr} {op : Operator} {pos : Pos} {a b v : V} (hl : Ev C l ρ a) (hr : Ev C r ρ b)
    (hop : ∀ m news x y, Rep news a x → Rep news b y → Go C C.A m news (binaryOp op x y) fun n z => Rep n v z) : Ev C (.BinOp l op r pos) ρ v := fun m news g s Q E F N hq =>
  wpAny_BinOp (hl m news g s _ E F N fun x n1 h1 tk1 s1 r1 F1 N1 => hr m n1 (g.mono s1) _ _ E F1 N1 fun y n2 h2 tk2 s2 r2 F2 N2 =>
    hop m n2 x y (r1.mono s2) r2 _ Q E F2 N2 fun z n3 h3 tk3 s3 r3 F3 N3 => hq z n3 h3 tk3 (s1.trans (s2.trans s3)) r3 F3 N3)

theorem Ev.cmp {l r : Expr} {op : CmpOp} {pos : Pos} {a b v : V} (hl : Ev C l ρ a) (hr : Ev C r ρ b)
    (hop : ∀ m news x y, Rep news a x → Rep news b y → Go C C.A m news (compareOp op x y) fun n z => Rep n v z) (hb : behindInMarks op r = false := by rfl) : Ev C (.Compare l [op] [r] pos) ρ v := fun m news g s Q E F N hq =>
  wpAny_Compare1 (hl m news g s _ E F N fun x n1 h1 tk1 s1 r1 F1 N1 => hr m n1 (g.mono s1) _ _ E F1 N1 fun y n2 h2 tk2 s2 r2 F2 N2 =>
    hop m n2 x y (r1.mono s2) r2 _ Q E F2 N2 fun z n3 h3 tk3 s3 r3 F3 N3 => hq z n3 h3 tk3 (s1.trans (s2.trans s3)) r3 F3 N3) hb

theorem Tst.cmp {l r : Expr} {op : CmpOp} {pos : Pos} {a b : V} {c : Bool} (hl : Ev C l ρ a) (hr : Ev C r ρ b)
    (hop : ∀ m news x y, Rep news a x → Rep news b y → Go C C.A m news (compareOp op x y) fun n z => Rep n (.bool c) z) (hb : behindInMarks op r = false := by rfl) : Tst C (.Compare l [op] [r] pos) ρ c := fun m news g s Q E F N hq =>
  wpAny_isTrue_Compare1 (hl m news g s _ E F N fun x n1 h1 tk1 s1 r1 F1 N1 => hr m n1 (g.mono s1) _ _ E F1 N1 fun y n2 h2 tk2 s2 r2 F2 N2 =>
    hop m n2 x y (r1.mono s2) r2 _ _ E F2 N2 fun z n3 h3 tk3 s3 r3 F3 N3 => by cases r3; exact wpAny_truthy_bool (hq c n3 h3 tk3 (s1.trans (s2.trans s3)) rfl F3 N3)) hb

theorem Tst.plain {e : Expr} {v : V} {c : Bool} (he : Ev C e ρ v) (ht : ∀ m news x, Rep news v x → Go C C.A m news (truthy x) fun _ b => b = c)
    (hw : PySem.isTrue e C.env (eval e C.env) = (do let v ← eval e C.env; standAt e.pos; holding [v] (truthy v)) := by rfl) : Tst C e ρ c := fun m news g s Q E F N hq =>
  isTrue_plain (he m news g s _ E F N fun x n1 h1 tk1 s1 r1 F1 N1 => ht m n1 x r1 _ Q E F1 N1 fun b n2 h2 tk2 s2 r2 F2 N2 => hq b n2 h2 tk2 (s1.trans s2) r2 F2 N2) hw

theorem Tst.not {x : Expr} {pos : Pos} {c : Bool} (h : Tst C x ρ c) : Tst C (.UnaryOp .Not x pos) ρ (!c) := fun m news g s Q E F N hq =>
  isTrue_not (h m news g s _ E F N fun b n1 h1 tk1 s1 r1 F1 N1 => hq (!b) n1 h1 tk1 s1 (by rw [r1]) F1 N1)

def TstB (C : Cx) (op : BoolOp) (es : List Expr) (ρ : List V) (b : Bool) : Prop := ∀ m news pos w, Agree C.names m news ρ → Go C C.A m news (PySem.isTrue (.BoolOp op es pos) C.env w) (fun _ x => x = b)
theorem TstB.and_nil : TstB C .And [] ρ true := fun m news pos w g s Q E F N hq => isTrue_and_nil (hq true news s.heap s.toks (Sub.refl _) rfl F N)
theorem TstB.or_nil : TstB C .Or [] ρ false := fun m news pos w g s Q E F N hq => isTrue_or_nil (hq false news s.heap s.toks (Sub.refl _) rfl F N)
theorem TstB.and {x : Expr} {r : List Expr} {b c : Bool} (h : Tst C x ρ b) (hr : b = true → TstB C .And r ρ c) : TstB C .And (x :: r) ρ (b && c) := fun m news pos w g s Q E F N hq =>
  isTrue_and (h m news g s _ E F N fun d n1 h1 tk1 s1 r1 F1 N1 => by
    subst r1
    cases d with
    | false => exact hq _ n1 h1 tk1 s1 rfl F1 N1
    | true => exact hr rfl m n1 pos w (g.mono s1) _ Q E F1 N1 fun y n2 h2 tk2 s2 r2 F2 N2 => hq y n2 h2 tk2 (s1.trans s2) (by rw [r2]; rfl) F2 N2)
theorem TstB.or {x : Expr} {r : List Expr} {b c : Bool} (h : Tst C x ρ b) (hr : b = false → TstB C .Or r ρ c) : TstB C .Or (x :: r) ρ (b || c) := fun m news pos w g s Q E F N hq =>
  isTrue_or (h m news g s _ E F N fun d n1 h1 tk1 s1 r1 F1 N1 => by
    subst r1
    cases d with
    | true => exact hq _ n1 h1 tk1 s1 rfl F1 N1
    | false => exact hr rfl m n1 pos w (g.mono s1) _ Q E F1 N1 fun y n2 h2 tk2 s2 r2 F2 N2 => hq y n2 h2 tk2 (s1.trans s2) (by rw [r2]; rfl) F2 N2)
theorem Tst.bool {op : BoolOp} {es : List Expr} {pos : Pos} {b : Bool} (h : TstB C op es ρ b) : Tst C (.BoolOp op es pos) ρ b := fun m news g => h m news pos _ g

theorem Ev.ite {t b o : Expr} {pos : Pos} {c : Bool} {v : V} (ht : Tst C t ρ c) (h1 : c = true → Ev C b ρ v) (h2 : c = false → Ev C o ρ v) : Ev C (.IfExp t b o pos) ρ v := fun m news g s Q E F N hq =>
  IfExp_ (ht m news g s _ E F N fun d n1 h1' tk1 s1 r1 F1 N1 => by
    subst r1
    cases d with
    | true => exact h1 rfl m n1 (g.mono s1) _ Q E F1 N1 fun y n2 h2 tk2 s2 r2 F2 N2 => hq y n2 h2 tk2 (s1.trans s2) r2 F2 N2
    | false => exact h2 rfl m n1 (g.mono s1) _ Q E F1 N1 fun y n2 h2 tk2 s2 r2 F2 N2 => hq y n2 h2 tk2 (s1.trans s2) r2 F2 N2)

/-- a or b, as a value -/
theorem Ev.or {x y : Expr} {pos : Pos} {v w : V} {c : Bool} (hx : Ev C x ρ v) (ht : ∀ m news z, Rep news v z → Go C C.A m news (truthy z) fun _ b => b = c) (hy : c = false → Ev C y ρ w) (u : V) (h1 : c = true → u = v) (h2 : c = false → u = w) :
    Ev C (.BoolOp .Or [x, y] pos) ρ u := fun m news g s Q E F N hq =>
  BoolOp_or (hx m news g s _ E F N fun a n1 h1' tk1 s1 r1 F1 N1 => ht m n1 a r1 _ _ E F1 N1 fun d n2 h2' tk2 s2 r2 F2 N2 => by
    subst r2
    cases d with
    | true => exact hq a n2 h2' tk2 (s1.trans s2) (by rw [h1 rfl]; exact r1.mono s2) F2 N2
    | false => exact BoolOp_one (hy rfl m n2 (g.mono (s1.trans s2)) _ Q E F2 N2 fun y n3 h3 tk3 s3 r3 F3 N3 => hq y n3 h3 tk3 (s1.trans (s2.trans s3)) (by rw [h2 rfl]; exact r3) F3 N3))

theorem Ev.and {x y : Expr} {pos : Pos} {v w : V} {c : Bool} (hx : Ev C x ρ v) (ht : ∀ m news z, Rep news v z → Go C C.A m news (truthy z) fun _ b => b = c) (hy : c = true → Ev C y ρ w) (u : V) (h1 : c = false → u = v) (h2 : c = true → u = w) :
    Ev C (.BoolOp .And [x, y] pos) ρ u := fun m news g s Q E F N hq =>
  BoolOp_and (hx m news g s _ E F N fun a n1 h1' tk1 s1 r1 F1 N1 => ht m n1 a r1 _ _ E F1 N1 fun d n2 h2' tk2 s2 r2 F2 N2 => by
    subst r2
    cases d with
    | false => exact hq a n2 h2' tk2 (s1.trans s2) (by rw [h1 rfl]; exact r1.mono s2) F2 N2
    | true => exact BoolOp_one (hy rfl m n2 (g.mono (s1.trans s2)) _ Q E F2 N2 fun y n3 h3 tk3 s3 r3 F3 N3 => hq y n3 h3 tk3 (s1.trans (s2.trans s3)) (by rw [h2 rfl]; exact r3) F3 N3))

theorem Evs.nil : Evs C [] ρ [] := fun m news pos g s Q E F N hq => spliced_none (hq [] news s.heap s.toks (Sub.refl _) .nil F N)
theorem Evs.cons {e : Expr} {es : List Expr} {v : V} {vs : List V} (h : Ev C e ρ v) (hr : Evs C es ρ vs) (hs : starEach (e :: es) C.env = (false, eval e C.env) :: starEach es C.env := by rfl) : Evs C (e :: es) ρ (v :: vs) := fun m news pos g s Q E F N hq =>
  spliced_more (h m news g s _ E F N fun x n1 h1 tk1 s1 r1 F1 N1 => hr m n1 pos (g.mono s1) _ _ E F1 N1 fun xs n2 h2 tk2 s2 r2 F2 N2 => hq (x :: xs) n2 h2 tk2 (s1.trans s2) (.cons (r1.mono s2) r2) F2 N2) hs

theorem Ev.tuple {es : List Expr} {k : Nat} {pos : Pos} {vs : List V} (h : Evs C es ρ vs) (hl : vs.length ≤ 100) : Ev C (.Tuple es k pos) ρ (.tup vs) := fun m news g s Q E F N hq =>
  Tuple_ (h m news pos g s _ E F N fun xs n1 h1 tk1 s1 r1 F1 N1 => by
    have e : ∀ {a : List V} {b : List Value}, Reps n1 a b → a.length = b.length := by
      intro a
      induction a with
      | nil => intro b h; cases h; rfl
      | cons x r ih => intro b h; cases h with | cons _ h2 => simp only [List.length_cons]; rw [ih h2]
    have hle : xs.length ≤ sizeLine := by rw [← e r1, sizeLine]; omega
    refine newTuple_N F1 N1 (fun h' F' N' => hq (.ref h1.objs.size) _ h' tk1 (fun p hp => .tail _ (s1 p hp)) (.tup vs _ xs (.head _) (r1.mono fun p hp => .tail _ hp)) F' N') hle)

theorem Ev.callB {f : Expr} {e : Expr} {es : List Expr} {pos : Pos} {id : String} {vs : List V} {v : V} (hf : Ev C f ρ (.val (.builtin id))) (ha : Evs C (e :: es) ρ vs)
    (hop : ∀ m news xs, Reps news vs xs → Go C C.A m news (call (.builtin id) xs) fun n z => Rep n v z)
    (h0 : eval (.Call f (e :: es) [] pos) C.env = (do let g ← eval f C.env; callWith pos g [] (backTo pos (starEach (e :: es) C.env)) (backToKw pos (keywordEach [] C.env))) := by rfl)
    (h1 : starEach (e :: es) C.env = (false, eval e C.env) :: starEach es C.env := by rfl)
    (h2 : ((backTo pos (starEach es C.env)).any fun x => x.1) = false := by rfl) : Ev C (.Call f (e :: es) [] pos) ρ v := fun m news g s Q E F N hq =>
  Call_ (hf m news g s _ E F N fun fv n1 h1' tk1 s1 r1 F1 N1 => by
    cases r1
    exact PyProof.Rows.callWith_builtin1 (ha m n1 pos (g.mono s1) _ _ E F1 N1 fun xs n2 h2' tk2 s2 r2 F2 N2 => hop m n2 xs r2 _ Q E F2 N2 fun z n3 h3 tk3 s3 r3 F3 N3 => hq z n3 h3 tk3 (s1.trans (s2.trans s3)) r3 F3 N3) h1 h2) h0

theorem Ev.callT {f : Expr} {e : Expr} {es : List Expr} {pos : Pos} {id : String} {vs : List V} {v : V} (hf : Ev C f ρ (.val (.type id))) (ha : Evs C (e :: es) ρ vs)
    (hop : ∀ m news xs, Reps news vs xs → Go C C.A m news (call (.type id) xs) fun n z => Rep n v z)
    (h0 : eval (.Call f (e :: es) [] pos) C.env = (do let g ← eval f C.env; callWith pos g [] (backTo pos (starEach (e :: es) C.env)) (backToKw pos (keywordEach [] C.env))) := by rfl)
    (h1 : starEach (e :: es) C.env = (false, eval e C.env) :: starEach es C.env := by rfl)
    (h2 : ((backTo pos (starEach es C.env)).any fun x => x.1) = false := by rfl) : Ev C (.Call f (e :: es) [] pos) ρ v := fun m news g s Q E F N hq =>
  Call_ (hf m news g s _ E F N fun fv n1 h1' tk1 s1 r1 F1 N1 => by
    cases r1
    exact PyProof.Rows.callWith_type1 (ha m n1 pos (g.mono s1) _ _ E F1 N1 fun xs n2 h2' tk2 s2 r2 F2 N2 => hop m n2 xs r2 _ Q E F2 N2 fun z n3 h3 tk3 s3 r3 F3 N3 => hq z n3 h3 tk3 (s1.trans (s2.trans s3)) r3 F3 N3) h1 h2) h0

theorem Ev.callF {f : Expr} {e : Expr} {es : List Expr} {pos : Pos} {fv : Value} {vs : List V} {v : V} {k : Nat} (ok : C.Ok k) (hkeep : keepIn (K0 C.w) fv = true) (hf : Ev C f ρ (.val fv)) (ha : Evs C (e :: es) ρ vs)
    (hop : ∀ m news xs, Reps news vs xs → Go C C.A m news (call fv xs) fun n z => Rep n v z)
    (h0 : eval (.Call f (e :: es) [] pos) C.env = (do let g ← eval f C.env; callWith pos g [] (backTo pos (starEach (e :: es) C.env)) (backToKw pos (keywordEach [] C.env))) := by rfl)
    (h1 : starEach (e :: es) C.env = (false, eval e C.env) :: starEach es C.env := by rfl)
    (h2 : ((backTo pos (starEach es C.env)).any fun x => x.1) = false := by rfl) : Ev C (.Call f (e :: es) [] pos) ρ v := fun m news g s Q E F N hq =>
  Call_ (hf m news g s _ E F N fun fv' n1 h1' tk1 s1 r1 F1 N1 => by
    cases r1
    exact callWith_K ok.X hkeep (ha m n1 pos (g.mono s1) _ _ E F1 N1 fun xs n2 h2' tk2 s2 r2 F2 N2 => ⟨ok.X.keeps F2.keep, hop m n2 xs r2 _ Q E F2 N2 fun z n3 h3 tk3 s3 r3 F3 N3 => hq z n3 h3 tk3 (s1.trans (s2.trans s3)) r3 F3 N3⟩) h1 h2) h0

end
end Mine

end
section
open PySem PySem.W PyProof.Rows PySem.Calls
set_option maxRecDepth 100000
set_option linter.unusedVariables false
namespace Mine

inductive Out where
  | next (ρ : List V)
  | ret (v : V)

def OutRep (names : List Str) (o : Out) (news : Led) (m : Str → Option Value) (fl : Flow) : Prop :=
  match o with
  | .next ρ => fl = .next ∧ Agree names m news ρ
  | .ret v => ∃ x, fl = .ret x ∧ Rep news v x

def GoS (C : Cx) (m : Str → Option Value) (news : Led) (t : Sem Flow) (o : Out) : Prop :=
  ∀ (s : Shared) (Q : Flow → Shared → Prop) (E : Value → Shared → Prop), Fr C.h₀ C.L s.heap m → News C.h₀ C.L s.heap news →
    (∀ (fl : Flow) (m' : Str → Option Value) (news' : Led) (h' : Heap) (tk' : Nat), Sub news news' → OutRep C.names o news' m' fl → Fr C.h₀ C.L h' m' → News C.h₀ C.L h' news' → Q fl { s with heap := h', toks := tk' }) →
    wpAny C.M C.A t Q E s

def Ex (C : Cx) (ss : List Stmt) (ρ : List V) (o : Out) : Prop := ∀ m news, Agree C.names m news ρ → GoS C m news (execs ss C.env) o
def Ex1 (C : Cx) (st : Stmt) (ρ : List V) (o : Out) : Prop := ∀ m news, Agree C.names m news ρ → GoS C m news (exec st C.env) o

structure Cx.Nm (C : Cx) : Prop where
  nd : C.names.Nodup
  loc : ∀ x ∈ C.names, C.env.kindOf x = some .local
  dbg : ∀ x ∈ C.names, (x == ("__debug__" : Str)) = false
  fn : C.cs.kind = .function

theorem Agree.set {names : List Str} {m : Str → Option Value} {news : Led} {ρ : List V} {i : Nat} {x : Str} {v : V} {y : Value} (hnd : names.Nodup) (hx : names[i]? = some x) (g : Agree names m news ρ) (r : Rep news v y) :
    Agree names (fun z => if z = x then some y else m z) news (ρ.set i v) := by
  intro j z u hz hu hun
  by_cases hij : i = j
  · subst hij
    rw [hx] at hz
    cases hz
    rw [List.getElem?_set] at hu
    simp only [if_true] at hu
    split at hu
    · cases hu; exact ⟨y, by simp, r⟩
    · cases hu
  · rw [List.getElem?_set_ne hij] at hu
    obtain ⟨w, e, rw'⟩ := g j z u hz hu hun
    refine ⟨w, ?_, rw'⟩
    have hne : z ≠ x := by
      intro e2
      subst e2
      have hi : i < names.length := by
        rw [List.getElem?_eq_some_iff] at hx; exact hx.1
      exact hij ((List.getElem?_inj hi hnd).mp (hx.trans hz.symm))
    simp only [if_neg hne]; exact e

section
variable {C : Cx} {ρ : List V}

theorem Ev.nm {x : Str} {pos : Pos} {v : V} (nm : C.Nm) (i : Nat) (hn : C.names[i]? = some x) (hv : ρ[i]? = some v) (hu : v ≠ .undef := by intro h; cases h) : Ev C (.Name x pos) ρ v :=
  Ev.loc i hn hv nm.fn (nm.loc x (List.mem_of_getElem? hn)) (nm.dbg x (List.mem_of_getElem? hn)) hu

theorem Ex.nil : Ex C [] ρ (.next ρ) := fun m news g s Q E F N hq => wpAny_execs_nil (hq .next m news s.heap s.toks (Sub.refl _) ⟨rfl, g⟩ F N)
theorem Ex.cons {st : Stmt} {rest : List Stmt} {ρ' : List V} {o : Out} (h : Ex1 C st ρ (.next ρ')) (hr : Ex C rest ρ' o) : Ex C (st :: rest) ρ o := fun m news g s Q E F N hq =>
  wpAny_execs_cons (h m news g s _ E F N fun fl m1 n1 h1 tk1 s1 o1 F1 N1 => by
    obtain ⟨rfl, g1⟩ := o1
    exact hr m1 n1 g1 _ Q E F1 N1 fun fl m2 n2 h2 tk2 s2 o2 F2 N2 => hq fl m2 n2 h2 tk2 (s1.trans s2) o2 F2 N2)
theorem Ex.consR {st : Stmt} {rest : List Stmt} {v : V} (h : Ex1 C st ρ (.ret v)) : Ex C (st :: rest) ρ (.ret v) := fun m news g s Q E F N hq =>
  wpAny_execs_cons (h m news g s _ E F N fun fl m1 n1 h1 tk1 s1 o1 F1 N1 => by
    obtain ⟨x, rfl, r⟩ := o1
    exact hq (.ret x) m1 n1 h1 tk1 s1 ⟨x, rfl, r⟩ F1 N1)

theorem Ex1.ret {e : Expr} {pos : Pos} {v : V} (h : Ev C e ρ v) : Ex1 C (.Return (some e) pos) ρ (.ret v) := fun m news g s Q E F N hq =>
  wpAny_Return_some (h m news g s _ E F N fun x n1 h1 tk1 s1 r1 F1 N1 => hq (.ret x) m n1 h1 tk1 s1 ⟨x, rfl, r1⟩ F1 N1)

theorem Ex1.ite {t : Expr} {b o : List Stmt} {pos : Pos} {c : Bool} {w : Out} (ht : Tst C t ρ c) (h1 : c = true → Ex C b ρ w) (h2 : c = false → Ex C o ρ w) : Ex1 C (.If t b o pos) ρ w := fun m news g s Q E F N hq =>
  wpAny_If (ht m news g s _ E F N fun d n1 h1' tk1 s1 r1 F1 N1 => by
    subst r1
    cases d with
    | true => exact h1 rfl m n1 (g.mono s1) _ Q E F1 N1 fun y m2 n2 h2 tk2 s2 r2 F2 N2 => hq y m2 n2 h2 tk2 (s1.trans s2) r2 F2 N2
    | false => exact h2 rfl m n1 (g.mono s1) _ Q E F1 N1 fun y m2 n2 h2 tk2 s2 r2 F2 N2 => hq y m2 n2 h2 tk2 (s1.trans s2) r2 F2 N2)

/-- an if one of whose ways returns, with what stands behind it -/
theorem Ex.iteR {t : Expr} {b o rest : List Stmt} {pos : Pos} {c : Bool} {v : V} (ht : Tst C t ρ c) (h1 : c = true → Ex C b ρ (.ret v)) (h2 : c = false → Ex C (o ++ rest) ρ (.ret v)) (hw : o = []) : Ex C (.If t b o pos :: rest) ρ (.ret v) := by
  subst hw
  cases c with
  | true => exact Ex.consR (Ex1.ite ht h1 fun h => by cases h)
  | false => exact Ex.cons (Ex1.ite ht (fun h => by cases h) fun _ => Ex.nil) (h2 rfl)

theorem store_slot {i : Nat} {x : Str} {v : V} {y : Value} {m : Str → Option Value} {news : Led} {s : Shared} {Q : Unit → Shared → Prop} {E : Value → Shared → Prop} (nm : C.Nm) (hx : C.names[i]? = some x) (F : Fr C.h₀ C.L s.heap m) (N : News C.h₀ C.L s.heap news)
    (g : Agree C.names m news ρ) (r : Rep news v y)
    (h : ∀ m' h' tk', Agree C.names m' news (ρ.set i v) → Fr C.h₀ C.L h' m' → News C.h₀ C.L h' news → Q () { s with heap := h', toks := tk' }) : wpAny C.M C.A (storeName C.env x y) Q E s :=
  storeX_L F N (fun h' F' N' => h _ h' (s.toks + 1) (g.set nm.nd hx r) F' N') nm.fn (nm.loc x (List.mem_of_getElem? hx))

theorem Ex1.assign (i : Nat) {x : Str} {p pos : Pos} {e : Expr} {v : V} (nm : C.Nm) (hx : C.names[i]? = some x) (h : Ev C e ρ v) (hs : swapsWith e (some (.Name x p)) pos.line C.env = pure false := by rfl) :
    Ex1 C (.Assign [.Name x p] e pos) ρ (.next (ρ.set i v)) := fun m news g s Q E F N hq =>
  wpAny_Assign_Name (h m news g s _ E F N fun y n1 h1 tk1 s1 r1 F1 N1 => store_slot nm hx F1 N1 (g.mono s1) r1 fun m' h' tk' g' F' N' => hq .next m' n1 h' tk' s1 ⟨rfl, g'⟩ F' N') hs

/-- several stores, one behind the other -/
def setAll : List V → List Nat → List V → List V
  | ρ, i :: is, v :: vs => setAll (ρ.set i v) is vs
  | ρ, _, _ => ρ

theorem stores_order (nm : C.Nm) {news : Led} {E : Value → Shared → Prop} {f : Str → Value → Sem Unit} (hf : ∀ x y (Q : Unit → Shared → Prop) s, wpAny C.M C.A (storeName C.env x y) Q E s → wpAny C.M C.A (f x y) Q E s) :
    ∀ (xs : List Str) (is : List Nat) (vs : List V) (ys : List Value) (ρ : List V) (m : Str → Option Value) (s : Shared) (Q : Unit → Shared → Prop), is.map (C.names[·]?) = xs.map some → vs.length = xs.length → Reps news vs ys →
    Fr C.h₀ C.L s.heap m → News C.h₀ C.L s.heap news → Agree C.names m news ρ →
    (∀ m' h' tk', Agree C.names m' news (setAll ρ is vs) → Fr C.h₀ C.L h' m' → News C.h₀ C.L h' news → Q () { s with heap := h', toks := tk' }) →
    wpAny C.M C.A (assignInOrder (xs.map f) ys) Q E s
  | [], is, vs, ys, ρ, m, s, Q, hi, hl, hr, F, N, g, h => by
    cases is with
    | cons a b => cases hi
    | nil => cases vs with
      | cons a b => cases hl
      | nil => cases hr; exact wpAny_pure (h m s.heap s.toks g F N)
  | x :: xs, is, vs, ys, ρ, m, s, Q, hi, hl, hr, F, N, g, h => by
    cases is with
    | nil => cases hi
    | cons i is => cases vs with
      | nil => cases hl
      | cons v vs => cases hr with
        | cons r rs =>
          rename_i y ys
          simp only [List.map_cons, List.cons.injEq] at hi
          show wpAny _ _ (do holding ys (f x y); assignInOrder (xs.map f) ys) Q E s
          refine wpAny_bind (wpAny_holding (hf x y _ s (store_slot nm hi.1 F N g r fun m' h' tk' g' F' N' => ?_)))
          exact stores_order nm hf xs is vs ys _ m' _ Q hi.2 (by simpa using hl) rs F' N' g' h

theorem Ex1.assignT {xs : List (Str × Pos)} {k : Nat} {tp pos : Pos} {e : Expr} {vs : List V} (is : List Nat) (nm : C.Nm) (hi : is.map (C.names[·]?) = (xs.map (·.1)).map some) (hl : vs.length = xs.length) (h : Ev C e ρ (.tup vs))
    (hs : swapsWithSole [.Tuple (xs.map fun x => .Name x.1 x.2) k tp] e pos.line C.env = pure false)
    (hw : swappedStores [.Tuple (xs.map fun x => .Name x.1 x.2) k tp] e C.env = pure none)
    (hn : (assignEach (xs.map fun x => .Name x.1 x.2) C.env).length = xs.length)
    (hm : (assignEach (xs.map fun x => .Name x.1 x.2) C.env).map (·.2) = xs.map fun x => PySem.assign (.Name x.1 x.2) C.env)
    (hstar : (assignEach (xs.map fun x => .Name x.1 x.2) C.env).findIdx? (·.1) = none) :
    Ex1 C (.Assign [.Tuple (xs.map fun x => .Name x.1 x.2) k tp] e pos) ρ (.next (setAll ρ is vs)) := fun m news g s Q E F N hq =>
  Assign_Tuple (h m news g s _ E F N fun y n1 h1 tk1 s1 r1 F1 N1 => by
    cases r1 with
    | tup _ a ys hmem hr =>
    have hlen : ys.length = vs.length := by
      have : ∀ {a : List V} {b : List Value}, Reps n1 a b → b.length = a.length := by
        intro a
        induction a with
        | nil => intro b h; cases h; rfl
        | cons x r ih => intro b h; cases h with | cons _ h2 => simp only [List.length_cons]; rw [ih h2]
      exact this hr
    refine unpackN_ F1 N1 (N1.isTup hmem) rfl (by rw [hn, List.size_toArray, hlen, hl]) hstar fun h' F' N' => ?_
    rw [hm]
    have e1 : (xs.map fun x => PySem.assign (.Name x.1 x.2) C.env) = xs.map fun x => PySem.assign (.Name x.1 x.2) C.env := rfl
    have key : ∀ (zs : List (Str × Pos)) (is : List Nat) (vs : List V) (ys : List Value) (ρ : List V) (m : Str → Option Value) (s : Shared) (Q : Unit → Shared → Prop), is.map (C.names[·]?) = (zs.map (·.1)).map some → vs.length = zs.length → Reps n1 vs ys →
        Fr C.h₀ C.L s.heap m → News C.h₀ C.L s.heap n1 → Agree C.names m n1 ρ →
        (∀ m' h' tk', Agree C.names m' n1 (setAll ρ is vs) → Fr C.h₀ C.L h' m' → News C.h₀ C.L h' n1 → Q () { s with heap := h', toks := tk' }) →
        wpAny C.M C.A (assignInOrder (zs.map fun x => PySem.assign (.Name x.1 x.2) C.env) ys) Q E s := by
      intro zs
      induction zs with
      | nil =>
        intro is vs ys ρ m s Q hi hl hr F N g h
        cases is with
        | cons a b => cases hi
        | nil => cases vs with
          | cons a b => cases hl
          | nil => cases hr; exact wpAny_pure (h m s.heap s.toks g F N)
      | cons z zs ih =>
        intro is vs ys ρ m s Q hi hl hr F N g h
        cases is with
        | nil => cases hi
        | cons i is => cases vs with
          | nil => cases hl
          | cons v vs => cases hr with
            | cons r rs =>
              rename_i y ys
              simp only [List.map_cons, List.cons.injEq] at hi
              show wpAny _ _ (do holding ys (PySem.assign (.Name z.1 z.2) C.env y); assignInOrder (zs.map fun x => PySem.assign (.Name x.1 x.2) C.env) ys) Q E s
              refine wpAny_bind (wpAny_holding (assign_Name (store_slot nm hi.1 F N g r fun m' h' tk' g' F' N' => ?_)))
              exact ih is vs ys _ m' _ Q hi.2 (by simpa using hl) rs F' N' g' h
    exact key xs is vs ys ρ m _ _ hi hl hr F' N' (g.mono s1) fun m' h2 tk2 g2 F2 N2 => hq .next m' n1 h2 tk2 s1 ⟨rfl, g2⟩ F2 N2) hs hw

theorem Reps.reverse {news : Led} {vs : List V} {xs : List Value} (h : Reps news vs xs) : Reps news vs.reverse xs.reverse := by
  have app : ∀ {a : List V} {x : List Value} {b : List V} {y : List Value}, Reps news a x → Reps news b y → Reps news (a ++ b) (x ++ y) := by
    intro a
    induction a with
    | nil => intro x b y h1 h2; cases h1; exact h2
    | cons v r ih => intro x b y h1 h2; cases h1 with | cons p q => exact .cons p (ih q h2)
  have go : ∀ (vs : List V) (xs : List Value), Reps news vs xs → Reps news vs.reverse xs.reverse := by
    intro vs
    induction vs with
    | nil => intro xs h; cases h; exact .nil
    | cons v r ih => intro xs h; cases h with | cons p q => rw [List.reverse_cons, List.reverse_cons]; exact app (ih _ q) (.cons p .nil)
  exact go _ _ h

theorem Reps.length {n1 : Led} : ∀ {a : List V} {b : List Value}, Reps n1 a b → b.length = a.length := by
  intro a
  induction a with
  | nil => intro b h; cases h; rfl
  | cons x r ih => intro b h; cases h with | cons _ h2 => simp only [List.length_cons]; rw [ih h2]

/-- a written tuple to two or three names: the stores come from behind -/
theorem Ex1.assignS {ts : List Expr} {k : Nat} {tp pos : Pos} {e : Expr} {vs : List V} (xs : List Str) (is : List Nat) (nm : C.Nm) (hi : is.map (C.names[·]?) = xs.map some) (hl : vs.length = xs.length) (h : Ev C e ρ (.tup vs))
    (hs : swapsWithSole [.Tuple ts k tp] e pos.line C.env = pure false)
    (hw : swappedStores [.Tuple ts k tp] e C.env = pure (some xs)) :
    Ex1 C (.Assign [.Tuple ts k tp] e pos) ρ (.next (setAll ρ is.reverse vs.reverse)) := fun m news g s Q E F N hq =>
  Assign_Tuple_swapped (h m news g s _ E F N fun y n1 h1 tk1 s1 r1 F1 N1 => by
    cases r1 with
    | tup _ a ys hmem hr =>
    refine unpackItemsN_ F1 N1 (N1.isTup hmem) rfl (by rw [List.size_toArray, hr.length, hl]) fun h' F' N' => ?_
    exact stores_order nm (f := fun x y => bindName C.env x y) (fun x y Q s h => bindName_ h) xs.reverse is.reverse vs.reverse ys.reverse ρ m _ _ (by rw [List.map_reverse, hi, List.map_reverse]) (by simpa using hl) hr.reverse F' N' (g.mono s1)
      fun m' h2 tk2 g2 F2 N2 => hq .next m' n1 h2 tk2 s1 ⟨rfl, g2⟩ F2 N2) hs hw
end

/-- a def of the text: what it gives back for vs; k: the frames that it may want above its own -/
def Fn (sl : Addr) (sns : List Int) (f : Addr) (k : Nat) (vs : List V) (v : V) : Prop := ∀ (C : Cx) (m : Str → Option Value) (news : Led) (xs : List Value), C.sl = sl → C.sns = sns → C.Ok (k + 1) → Reps news vs xs → Go C C.A m news (call (.ref f) xs) fun n z => Rep n v z

theorem lookup_of_mem_nd {α : Type} : ∀ {l : List (Str × α)} {x : Str} {y : α}, (l.map (·.1)).Nodup → (x, y) ∈ l → l.lookup x = some y
  | [], _, _, _, h => nomatch h
  | (a, b) :: r, x, y, hn, h => by
    rw [List.lookup_cons]
    simp only [List.map_cons, List.nodup_cons] at hn
    rcases List.mem_cons.mp h with e | e
    · cases e; simp
    · have hne : (x == a) = false := by
        rw [beq_eq_false_iff_ne]
        intro h2; subst h2
        exact hn.1 (List.mem_map.mpr ⟨_, e, rfl⟩)
      rw [hne]; exact lookup_of_mem_nd hn.2 e

theorem agree_init {names ps : List Str} {news : Led} {vs : List V} {xs : List Value} {k : Nat} (hnd : names.Nodup) (hp : names.take ps.length = ps) (hl : ps.length = vs.length) (r : Reps news vs xs) :
    Agree names (fun y => List.lookup y (ps.zip xs).reverse) news (vs ++ List.replicate k .undef) := by
  intro i x v hx hv hu
  have hi : i < vs.length := by
    by_cases h : i < vs.length
    · exact h
    · exfalso
      rw [List.getElem?_append_right (by omega), List.getElem?_replicate] at hv
      split at hv
      · cases hv; exact hu rfl
      · cases hv
  rw [List.getElem?_append_left hi] at hv
  have get : ∀ {a : List V} {b : List Value} {i : Nat} {v : V}, Reps news a b → a[i]? = some v → ∃ y, b[i]? = some y ∧ Rep news v y := by
    intro a
    induction a with
    | nil => intro b i v h e; simp at e
    | cons w r ih =>
      intro b i v h e
      cases h with
      | cons p q =>
        cases i with
        | zero => simp at e; subst e; exact ⟨_, rfl, p⟩
        | succ i => simp at e; obtain ⟨y, e1, r1⟩ := ih q e; exact ⟨y, by simpa using e1, r1⟩
  obtain ⟨y, hy, ry⟩ := get r hv
  refine ⟨y, ?_, ry⟩
  have hpx : ps[i]? = some x := by
    rw [← hp, List.getElem?_take]
    have : i < ps.length := by omega
    simp [this, hx]
  have hz : (ps.zip xs)[i]? = some (x, y) := by
    rw [List.getElem?_zip_eq_some]; exact ⟨hpx, hy⟩
  have hm : (x, y) ∈ (ps.zip xs).reverse := List.mem_reverse.mpr (List.mem_of_getElem? hz)
  refine lookup_of_mem_nd ?_ hm
  rw [List.map_reverse]
  have e1 : (ps.zip xs).map (·.1) = ps := by
    have : ps.length ≤ xs.length := by rw [r.length]; omega
    rw [List.map_fst_zip this]
  rw [e1]
  have : ps.Nodup := by rw [← hp]; exact hnd.sublist (List.take_sublist _ _)
  exact (List.reverse_perm ps).nodup_iff.mpr this

theorem Fn.mk {sl : Addr} {sns : List Int} {f : Addr} {k : Nat} {vs : List V} {v : V} {name qual : Str} {params : Arguments} {body : List Stmt} {scope : Scope} {dV kV doc pm cdv ct oc : Value} {an od : Option Addr} {osl : Array (Option Value)} (names ps : List Str) (j : Nat)
    (ho : ∀ w, List.lookup f (K0 w) = some { cls := oc, dict := od, data := .func (fnOf name qual params body scope dV kV doc pm an cdv ct), slots := osl })
    (hcd : ∀ w, codeIn (K0 w) cdv qual = true)
    (hbind : ∀ xs : List Value, xs.length = ps.length → bindArgs (fnOf name qual params body scope dV kV doc pm an cdv ct) ⟨xs, []⟩ = pure (ps.zip xs))
    (hkinds : (names.all fun x => scope.names.lookup x == some .local && !(x == ("__debug__" : Str))) = true) (hnd : names.Nodup) (hp : names.take ps.length = ps) (hl : ps.length = vs.length)
    (hco : scope.isCoroutine = false) (hgen : scope.isGenerator = false) (hk : scope.kind = .function) (hcell : (scope.names.all fun x => x.2 != .cell) = true)
    (hbody : ∀ C : Cx, C.sl = sl → C.sns = sns → C.Ok k → C.Nm → C.cs = scope → C.names = names → Ex C body (vs ++ List.replicate j .undef) (.ret v)) : Fn sl sns f k vs v := by
  intro C m news xs hsl hsns ok hr s Q E F N hq
  have hkl : ∀ x ∈ names, scope.names.lookup x = some .local := fun x hx => by have := List.all_eq_true.mp hkinds x hx; simp only [Bool.and_eq_true] at this; simpa using this.1
  have hdb : ∀ x ∈ names, (x == ("__debug__" : Str)) = false := fun x hx => by have := List.all_eq_true.mp hkinds x hx; simp only [Bool.and_eq_true] at this; simpa using this.2
  refine wpAny_call (code_def (binds := ps.zip xs) (dV := dV) (kV := kV) ok.B F ok.X N ok.T rfl rfl ok.fn (ho C.w) (hcd C.w) (by have := ok.dep; show C.dp < 1000; omega) (BindsTo.of_eq (hbind xs (by rw [hr.length, hl]))) ?_ ?_ hco hgen hk ?_)
  · intro y hy
    refine hkl y.1 ?_
    rw [← hp] at hy
    exact List.mem_of_mem_take (List.of_mem_zip hy).1
  · intro g L' h₁ FG F' N' B' X' T'
    let C' : Cx := { C with dp := C.dp + 1, un := C.un + 3, cn := qual, cs := scope, a := f, ccd := cdv, cl := [], outer := C.env :: C.outer, A₀ := C.A, h₀ := g, L := L', names := names }
    have ok' : C'.Ok k := ⟨B', X', T', hk, (let ⟨o, e, r⟩ := ok.lst; ⟨o, FG.keep _ _ e, r⟩), ok.iar, ok.few, ok.bits, ok.XB, ok.TB, ok.push FG, (by have := ok.dep; show C.dp + 1 + k < 990; omega), (by have := ok.uni; show C.un + 3 + 10 * k < 9000; omega)⟩
    have nm' : C'.Nm := ⟨hnd, hkl, hdb, hk⟩
    refine hbody C' hsl hsns ok' nm' rfl rfl _ news (agree_init hnd hp hl hr) _ _ _ F' N' ?_
    intro fl m' news' h' tk' sub o F2 N2
    obtain ⟨x, rfl, rx⟩ := o
    exact ⟨L', m', news', F2, N2, fun F3 N3 => hq x news' h' tk' sub rx F3 N3⟩
  · intro x hx e
    have := List.all_eq_true.mp hcell x hx
    rw [e] at this
    exact absurd this (by decide)

end Mine

end
section
open PySem PySem.W PyProof.Rows PySem.Calls
set_option maxRecDepth 100000
set_option linter.unusedVariables false
namespace Mine
theorem str_app (a b : List Nat) : (⟨a.toArray⟩ : Str) ++ ⟨b.toArray⟩ = ⟨(a ++ b).toArray⟩ := by
  show Str.append _ _ = _
  simp [Str.append]
theorem str_len (a : List Nat) : (⟨a.toArray⟩ : Str).length = a.length := by simp [Str.length]
theorem line_is : sizeLine = 16777216 := rfl

section
variable {C : Cx} {A : Around} {m : Str → Option Value} {news : Led}

theorem op_add {a b : Int} {x y : Value} (hx : Rep news (.int a) x) (hy : Rep news (.int b) y) : Go C A m news (binaryOp .Add x y) fun n z => Rep n (.int (a + b)) z := by
  cases hx; cases hy; exact .still fun s Q E h => add_int (h _ _ (.int _ _))
theorem op_sub {a b : Int} {x y : Value} (hx : Rep news (.int a) x) (hy : Rep news (.int b) y) : Go C A m news (binaryOp .Sub x y) fun n z => Rep n (.int (a - b)) z := by
  cases hx; cases hy; exact .still fun s Q E h => sub_int (h _ _ (.int _ _))
theorem op_mul {a b : Int} {x y : Value} (hok : IntMulOk a b) (hx : Rep news (.int a) x) (hy : Rep news (.int b) y) : Go C A m news (binaryOp .Mult x y) fun n z => Rep n (.int (a * b)) z := by
  cases hx; cases hy; exact .still fun s Q E h => PyProof.Rows.mul_int (h _ _ (.int _ _)) hok
theorem op_div {a b : Int} {x y : Value} (hb : 0 < b) (hb2 : b < 1073741824) (hx : Rep news (.int a) x) (hy : Rep news (.int b) y) : Go C A m news (binaryOp .FloorDiv x y) fun n z => Rep n (.int (a / b)) z := by
  cases hx; cases hy
  refine .still fun s Q E h => floordiv_int (by omega) ?_ (.inl (PyProof.noPylong_small (by omega)))
  rw [Int.fdiv_eq_ediv_of_nonneg _ (by omega)]
  exact h _ _ (.int _ _)
theorem op_mod {a b : Int} {x y : Value} (hb : 0 < b) (hx : Rep news (.int a) x) (hy : Rep news (.int b) y) : Go C A m news (binaryOp .Mod x y) fun n z => Rep n (.int (a % b)) z := by
  cases hx; cases hy
  refine .still fun s Q E h => PyProof.Rows.mod_int (by omega) ?_
  rw [Int.fmod_eq_emod_of_nonneg _ (by omega)]
  exact h _ _ (.int _ _)
theorem op_pow {a b : Int} {x y : Value} (h0 : 0 ≤ b) (h1 : b ≤ 1000000) (ha : a.natAbs < 2 ^ 64) (hx : Rep news (.int a) x) (hy : Rep news (.int b) y) : Go C A m news (binaryOp .Pow x y) fun n z => Rep n (.int (a ^ b.toNat)) z := by
  cases hx; cases hy; exact .still fun s Q E h => pow_int_small h0 h1 ha (h _ _ (.int _ _))
theorem op_cat {a b : List Nat} {x y : Value} (hl : a.length + b.length ≤ 16000000) (hx : Rep news (.str a) x) (hy : Rep news (.str b) y) : Go C A m news (binaryOp .Add x y) fun n z => Rep n (.str (a ++ b)) z := by
  cases hx; cases hy
  refine .still fun s Q E h => PyProof.Rows.add_str (fun t' tk => ?_) (by rw [str_len, str_len, line_is]; omega)
  rw [str_app]; exact h _ _ (.str _ _)

theorem foldl_app (a : Array Nat) : ∀ n : Nat, (List.foldl (fun (x1 x2 : Array Nat) => x1 ++ x2) #[] (List.replicate n a)).toList = (List.replicate n a.toList).flatten := by
  have : ∀ (n : Nat) (b : Array Nat), (List.foldl (fun (x1 x2 : Array Nat) => x1 ++ x2) b (List.replicate n a)).toList = b.toList ++ (List.replicate n a.toList).flatten := by
    intro n
    induction n with
    | zero => intro b; simp
    | succ n ih => intro b; rw [List.replicate_succ, List.foldl_cons, ih, List.replicate_succ, List.flatten_cons, Array.toList_append, List.append_assoc]
  intro n; rw [this]; simp

theorem op_rep {a : Nat} {b : Int} {x y : Value} (hb : b < 1000000) (hb2 : -1000000 < b) (hx : Rep news (.str [a]) x) (hy : Rep news (.int b) y) : Go C A m news (binaryOp .Mult x y) fun n z => Rep n (.str (List.replicate b.toNat a)) z := by
  cases hx; cases hy
  have e : Txt.mul ⟨[a].toArray⟩ b = ⟨(List.replicate b.toNat a).toArray⟩ := by
    unfold Txt.mul
    by_cases h1 : b < 1
    · rw [if_pos h1, show b.toNat = 0 by omega]; rfl
    · rw [if_neg h1]
      by_cases h2 : b = 1
      · subst h2; rfl
      · have : (b == 1 || (⟨[a].toArray⟩ : Str).length == 0) = false := by
          rw [str_len]; simp [h2]
        rw [this]
        simp only [Bool.false_eq_true, if_false]
        congr 1
        apply Array.ext'
        rw [foldl_app]
        have : ∀ n : Nat, (List.replicate n [a]).flatten = List.replicate n a := by
          intro n
          induction n with
          | zero => rfl
          | succ n ih => rw [List.replicate_succ, List.flatten_cons, ih]; rfl
        simpa using this b.toNat
  have hok : MulOk ⟨[a].toArray⟩ b := by
    refine ⟨by simp; omega, fun h1 h2 => ?_, fun h1 h2 => ?_⟩
    · rw [str_len]
      have : 1 ≤ (2 ^ 63 - 1 : Int) / b := by
        rw [Int.le_ediv_iff_mul_le (by omega)]; omega
      simp only [List.length_cons, List.length_nil]
      omega
    · rw [str_len]
      show decide _ = false
      simp only [List.length_cons, List.length_nil]
      rw [decide_eq_false_iff_not, line_is]
      omega
  refine .still fun s Q E h => SB.mul hok fun t' k => ?_
  rw [e]; exact h _ _ (.str _ _)

theorem cmp_lt {a b : Int} {x y : Value} (hx : Rep news (.int a) x) (hy : Rep news (.int b) y) : Go C A m news (compareOp .Lt x y) fun n z => Rep n (.bool (decide (a < b))) z := by
  cases hx; cases hy; exact .still fun s Q E h => lt_int (h _ s.toks (.bool _))
theorem cmp_gt {a b : Int} {x y : Value} (hx : Rep news (.int a) x) (hy : Rep news (.int b) y) : Go C A m news (compareOp .Gt x y) fun n z => Rep n (.bool (decide (b < a))) z := by
  cases hx; cases hy; exact .still fun s Q E h => gt_int (h _ s.toks (.bool _))
theorem cmp_eq {a b : Int} {x y : Value} (hx : Rep news (.int a) x) (hy : Rep news (.int b) y) : Go C A m news (compareOp .Eq x y) fun n z => Rep n (.bool (a == b)) z := by
  cases hx; cases hy; exact .still fun s Q E h => PyProof.Rows.eq_int (h _ s.toks (.bool _))
theorem cmp_eqS {a b : List Nat} {x y : Value} (hx : Rep news (.str a) x) (hy : Rep news (.str b) y) : Go C A m news (compareOp .Eq x y) fun n z => Rep n (.bool (a == b)) z := by
  cases hx; cases hy
  refine .still fun s Q E h => PyProof.Rows.eq_str ?_
  have e : ((⟨a.toArray⟩ : Str) == ⟨b.toArray⟩) = (a == b) := by
    rw [Bool.eq_iff_iff]; simp
  rw [e]; exact h _ s.toks (.bool _)
theorem cmp_isNone {v : V} {x y : Value} {b : Bool} (hx : Rep news v x) (hy : Rep news .none y) (hb : ∀ z, Rep news v z → (z == .none) = b) : Go C A m news (compareOp .Is x y) fun n z => Rep n (.bool b) z := by
  have := hb x hx
  cases hy
  refine .still fun s Q E h => PySem.is_none ?_
  rw [this]; exact h _ s.toks (.bool _)
theorem cmp_isType {a b : String} {x y : Value} (hx : Rep news (.val (.type a)) x) (hy : Rep news (.val (.type b)) y) : Go C A m news (compareOp .Is x y) fun n z => Rep n (.bool (Value.type a == Value.type b)) z := by
  cases hx; cases hy; exact .still fun s Q E h => wpAny_is_plain rfl (h _ s.toks (.bool _))

theorem tr_bool {b : Bool} {x : Value} (hx : Rep news (.bool b) x) : Go C A m news (truthy x) fun _ c => c = b := by
  cases hx; exact .still fun s Q E h => wpAny_truthy_bool (h _ s.toks rfl)
theorem tr_str {a : List Nat} {x : Value} (hl : a.length < 16000000) (hx : Rep news (.str a) x) : Go C A m news (truthy x) fun _ c => c = !a.isEmpty := by
  cases hx
  refine .still fun s Q E h => PySem.P.truthy_str (by rw [str_len]; omega) (h _ _ ?_)
  rw [str_len]; cases a <;> simp; omega
theorem tr_none {x : Value} (hx : Rep news .none x) : Go C A m news (truthy x) fun _ c => c = false := by
  cases hx; exact .still fun s Q E h => truthy_none (h _ s.toks rfl)

theorem call_len {a : List Nat} {xs : List Value} (hl : a.length < 16000000) (hx : Reps news [.str a] xs) : Go C A m news (call (.builtin "len") xs) fun n z => Rep n (.int a.length) z := by
  cases hx with
  | cons h1 h2 =>
    cases h2; cases h1
    refine .still fun s Q E h => SBL.len (by rw [str_len]; omega) ?_
    rw [str_len]; exact h _ _ (.int _ _)
theorem call_abs {a : Int} {xs : List Value} (hx : Reps news [.int a] xs) : Go C A m news (call (.builtin "abs") xs) fun n z => Rep n (.int a.natAbs) z := by
  cases hx with
  | cons h1 h2 =>
    cases h2; cases h1
    refine .still fun s Q E h => call_abs_int fun u tk => ?_
    rw [show (if a < 0 then -a else a) = (a.natAbs : Int) by split <;> omega]
    exact h _ _ (.int _ _)
end

section
variable {C : Cx} {ρ : List V}
theorem Ev.itemS {e i : Expr} {pos : Pos} {a : List Nat} {k : Int} {c : Nat} (he : Ev C e ρ (.str a)) (hi : Ev C i ρ (.int k)) (hl : a.length < 16000000) (hk : (seqIndex? k a.length).bind (a[·]?) = some c)
    (h1 : ∀ x t j u, subscripted i false (.str x t) (.int j u) = operate [.str x t, .int j u] (getItem (.str x t) (.int j u)) := by intros; with_unfolding_all rfl)
    (h2 : ∀ x t r, letTemporaryGo e (.str x t) r = pure () := by intros; with_unfolding_all rfl) : Ev C (.Subscript e i pos) ρ (.str [c]) := fun m news g s Q E F N hq =>
  Subscript_ (he m news g s _ E F N fun x n1 h1' tk1 s1 r1 F1 N1 => hi m n1 (g.mono s1) _ _ E F1 N1 fun y n2 h2' tk2 s2 r2 F2 N2 => by
    cases r1; cases r2
    have hb : -(a.length : Int) ≤ k ∧ k < a.length := by
      cases hs : seqIndex? k a.length with
      | none => rw [hs] at hk; cases hk
      | some j =>
        unfold seqIndex? at hs
        simp only at hs
        by_cases hk0 : k < 0
        · simp only [hk0, if_true] at hs
          split at hs
          · rename_i hc; simp at hc; omega
          · cases hs
        · simp only [hk0, if_false] at hs
          split at hs
          · rename_i hc; simp at hc; omega
          · cases hs
    refine item_str (by unfold fitsSsize; simp; omega) (by rw [str_len]; omega) (by rw [str_len]; omega) (fun _ => ?_) (h1 _ _ _ _) (h2 _ _)
    have e : Txt.item ⟨a.toArray⟩ k = ⟨[c].toArray⟩ := by
      unfold Txt.item Txt.charAt
      rw [str_len]
      have : ((seqIndex? k a.length).bind fun x => (⟨a.toArray⟩ : Str).cps[x]?) = some c := by rw [← hk]; congr 1; funext x; simp
      rw [this]; rfl
    rw [e]
    exact hq _ n2 h2' _ (s1.trans s2) (.str _ _) F2 N2)
end

end Mine

end
section
open PySem PySem.W PyProof.Rows PySem.Calls
set_option maxRecDepth 100000
set_option linter.unusedVariables false
namespace Mine

theorem Ex1.while_ {C : Cx} {ρ : List V} {test : Expr} {body : List Stmt} {pos : Pos} (R : Nat → List V) (T : Nat) (h0 : R 0 = ρ)
    (ht : ∀ i, i < T → Tst C test (R i) true) (hb : ∀ i, i < T → Ex C body (R i) (.next (R (i + 1)))) (hf : Tst C test (R T) false) :
    Ex1 C (.While test body [] pos) ρ (.next (R T)) := fun m news g s Q E F N hq => by
  subst h0
  refine wpAny_mono (E := fun _ _ => False) (While_inv (fun n m₁ news₁ => ∃ i, i ≤ T ∧ n = T - i ∧ Sub news news₁ ∧ Agree C.names m₁ news₁ (R i)) (n₀ := T) F N ⟨0, Nat.zero_le _, by omega, Sub.refl _, g⟩ ?_ PassesOwn.never) (fun _ _ h => h) fun _ _ h => h.elim
  rintro n m₁ news₁ h₁ tk₁ F₁ N₁ ⟨i, hi, rfl, sub, g₁⟩
  by_cases hlt : i < T
  · refine ht i hlt m₁ news₁ g₁ _ _ _ F₁ N₁ fun b n2 h2 tk2 s2 r2 F2 N2 => ?_
    subst r2
    simp only [if_true]
    refine hb i hlt m₁ n2 (g₁.mono s2) _ _ _ F2 N2 fun fl m3 n3 h3 tk3 s3 o3 F3 N3 => ?_
    obtain ⟨rfl, g3⟩ := o3
    exact WhileStep.intro (n' := T - (i + 1)) F3 N3 (by omega) ⟨i + 1, hlt, rfl, sub.trans (s2.trans s3), g3⟩
  · have : i = T := by omega
    subst this
    refine hf m₁ news₁ g₁ _ _ _ F₁ N₁ fun b n2 h2 tk2 s2 r2 F2 N2 => ?_
    subst r2
    simp only [Bool.false_eq_true, if_false]
    exact hq .next m₁ n2 h2 tk2 (sub.trans s2) ⟨rfl, g₁.mono s2⟩ F2 N2

def Flat (v : V) : Prop := ∀ a b x, Rep a v x → Rep b v x
theorem Flat.undef : Flat .undef := fun _ _ _ h => nomatch h
theorem Flat.none : Flat .none := fun _ _ _ h => by cases h; exact .none
theorem Flat.int (i : Int) : Flat (.int i) := fun _ _ _ h => by cases h; exact .int _ _
theorem Flat.str (i : List Nat) : Flat (.str i) := fun _ _ _ h => by cases h; exact .str _ _
theorem Flat.bool (i : Bool) : Flat (.bool i) := fun _ _ _ h => by cases h; exact .bool _
theorem Flat.val (i : Value) : Flat (.val i) := fun _ _ _ h => by cases h; exact .val _
theorem Agree.flat {names : List Str} {m : Str → Option Value} {a b : Led} {ρ : List V} (hf : ∀ v ∈ ρ, Flat v) (g : Agree names m a ρ) : Agree names m b ρ :=
  fun i x v hn hv hu => let ⟨y, e, r⟩ := g i x v hn hv hu; ⟨y, e, hf v (List.mem_of_getElem? hv) a b y r⟩

theorem Ex1.forRange {C : Cx} {ρ : List V} {k : Nat} (ok : C.Ok k) {x : Str} {px pos p : Pos} {f e : Expr} {body : List Stmt} {n : Int} (ik : Nat) (nm : C.Nm) (hx : C.names[ik]? = some x)
    (hr : Ev C f ρ (.val (.type "range"))) (he : Ev C e ρ (.int n)) (h0n : 0 ≤ n) (hn : n < 2 ^ 40) (R : Nat → List V) (h0 : R 0 = ρ) (hflat : ∀ i, ∀ v ∈ R i, Flat v)
    (hstep : ∀ i : Nat, i < n.toNat → Ex C body ((R i).set ik (.int i)) (.next (R (i + 1))))
    (hs : ∀ x, foldedSetIterable (.Call f [e] [] p) C.env x = pure x := by intro _; rfl)
    (hc0 : eval (.Call f [e] [] p) C.env = (do let g ← eval f C.env; callWith p g [] (backTo p (starEach [e] C.env)) (backToKw p (keywordEach [] C.env))) := by rfl)
    (hc1 : starEach [e] C.env = (false, eval e C.env) :: starEach [] C.env := by rfl)
    (hc2 : ((backTo p (starEach [] C.env)).any fun x => x.1) = false := by rfl) :
    Ex1 C (.For (.Name x px) (.Call f [e] [] p) body [] pos) ρ (.next (R n.toNat)) := fun m news g s Q E F N hq => by
  subst h0
  have hxl : C.env.kindOf x = some .local := nm.loc x (List.mem_of_getElem? hx)
  refine wpAny_mono (E := fun _ _ => False) (For_invV C.h₀ hxl (by show (C.cs.kind == .class || (C.cs.kind == .module && C.L != mainGlobals)) = false; rw [nm.fn]; rfl) ?_ hs PassesOwn.never) (fun _ _ h => h) fun _ _ h => h.elim
  refine Call_ (hr m news g s _ _ F N fun fv n1 h1 tk1 s1 r1 F1 N1 => ?_) hc0
  cases r1
  refine PyProof.Rows.callWith_type1 (Evs.cons he Evs.nil hc1 m n1 p (g.mono s1) _ _ _ F1 N1 fun xs n2 h2 tk2 s2 r2 F2 N2 => ?_) hc1 hc2
  cases r2 with
  | cons ra rb =>
  cases rb; cases ra
  refine range1_rows F2 N2 fun h3 tk3 t₁ u₁ v₁ hrange F3 N3 keep3 => ?_
  refine wpAny_pyIter_range hrange (small_one (by decide) (by decide) (by omega) (by omega)) ?_
  have hsz : (Builtin.Range.rangeSize 0 n 1) = n := by rw [rangeSize_one]; split <;> omega
  have W := Walks.range (prog := P0) (w := C.w) (A := C.A) rfl h3.objs.size 0 1 n.toNat
  refine ⟨h3.objs.size, [h3.objs.size], [h3.objs.size], n.toNat, _, _, m, n2, (fun i m₁ news₁ => news₁ = n2 ∧ Agree C.names m₁ n2 (R i)), rfl, W, ?_, ?_, ?_, ?_, F3.push _, (fun p hp => ⟨Heap.get?_push_of_some _ (N3 p hp).1, (N3 p hp).2⟩), ⟨rfl, g.mono (s1.trans s2)⟩, ?_, ?_⟩
  · intro hm
    exact absurd F3.ns.lt ((List.mem_singleton.mp hm : C.L = _) ▸ Nat.lt_irrefl _)
  · intro b hb
    rw [List.mem_singleton.mp hb]
    exact next_is_new F3
  · intro p hp hI
    exact absurd (Heap.lt_size (N3 p hp).1) ((List.mem_singleton.mp hI) ▸ Nat.lt_irrefl _)
  · show IsRangeIter _ _ _ _ _
    rw [hsz]
    have : (n.toNat : Int) = n := by omega
    simp only [Int.natCast_zero, Int.zero_mul, Int.add_zero, Int.sub_zero, this]
    exact Heap.get?_push_size _ rfl
  · rintro i v m₁ news₁ s₁ own ⟨hh', tk', rfl⟩ hin ⟨t, rfl⟩ ⟨rfl, hJ⟩ hoff _ _ _ _ F₄ N₄
    have hi0 : (0 + (i : Int) * 1) = (i : Int) := by omega
    have hg : Agree C.names (fun y => if y = x then some (Value.int (0 + (i : Int) * 1) t) else m₁ y) (own ++ news₁) ((R i).set ik (.int i)) := by
      rw [hi0]
      exact (hJ.mono fun p hp => List.mem_append_right _ hp).set nm.nd hx (.int _ _)
    refine hstep i hin _ _ hg _ _ _ F₄ N₄ fun fl m5 n5 h5 tk5 s5 o5 F5 N5 => ?_
    obtain ⟨rfl, g5⟩ := o5
    exact LoopStepV.next (LoopStepU.intro (news₂ := news₁) F5 (fun p hp => N5 p (s5 p hp)) hoff ⟨rfl, g5.flat (hflat (i + 1))⟩)
  · rintro h' tk m' news' F' N' _ ⟨rfl, hJ⟩
    exact hq .next m' news' h' tk (s1.trans s2) ⟨rfl, hJ⟩ F' N'
end Mine

end
section
open PySem PySem.W PyProof.Rows PySem.Calls
set_option maxRecDepth 100000
set_option linter.unusedVariables false
namespace Mine

def txt (s : String) : List Nat := s.toList.map Char.toNat
theorem ofString_txt (s : String) : Str.ofString s = ⟨(txt s).toArray⟩ := Str.ofString_eq_toList s

section
variable {C : Cx} {A : Around} {m : Str → Option Value} {news : Led}

theorem cmp_in {c : Nat} {a : List Nat} {x y : Value} (hx : Rep news (.str [c]) x) (hy : Rep news (.str a) y) : Go C A m news (compareOp .In x y) fun n z => Rep n (.bool (a.contains c)) z := by
  cases hx; cases hy
  refine .still fun s Q E h => PyProof.Rows.in_str ?_
  have e := StrLaws.found_one ⟨a.toArray⟩ c
  have e2 : (!(Builtin.Str.occurrences ⟨a.toArray⟩ ⟨[c].toArray⟩ 0 (⟨a.toArray⟩ : Str).length 1).isEmpty) = a.contains c := by
    refine e.trans ?_
    rw [List.contains_eq_mem]
  rw [e2]; exact h _ s.toks (.bool _)

def cutEnd (c : Nat) (a : List Nat) : List Nat := (a.reverse.dropWhile (· == c)).reverse

theorem rstrip_one (a : List Nat) (c : Nat) : Txt.rstripChars ⟨a.toArray⟩ ⟨[c].toArray⟩ = ⟨(cutEnd c a).toArray⟩ := by
  unfold Txt.rstripChars
  rw [PyProof.Rows.stripBy_eq]
  apply Str.ext'
  apply Array.ext'
  rw [StrLaws.strSub_toList]
  have hg : (⟨[c].toArray⟩ : Str).cps.contains = (· == c) := by
    funext x
    simp [Array.contains, eq_comm]
  rw [hg]
  show ((a.drop 0).take _) = cutEnd c a
  have hl : stripLo (fun x => x == c) false ⟨a.toArray⟩ = 0 := rfl
  rw [hl]
  unfold stripHi cutEnd
  simp only [if_true, List.drop_zero, Nat.sub_zero, str_len]
  have key : ∀ (p : Nat → Bool) (l : List Nat), l.take (l.length - (l.reverse.takeWhile p).length) = (l.reverse.dropWhile p).reverse := by
    intro p l
    have h1 : l.reverse.takeWhile p ++ l.reverse.dropWhile p = l.reverse := List.takeWhile_append_dropWhile
    have h2 : (l.reverse.dropWhile p).reverse ++ (l.reverse.takeWhile p).reverse = l := by
      have := congrArg List.reverse h1
      rwa [List.reverse_append, List.reverse_reverse] at this
    have h3 : l.length - (l.reverse.takeWhile p).length = (l.reverse.dropWhile p).reverse.length := by
      have := congrArg List.length h1
      simp only [List.length_append, List.length_reverse] at this ⊢
      omega
    rw [h3]
    generalize (l.reverse.dropWhile p).reverse = u at *
    rw [← h2, List.take_left']
    rfl
  exact key _ a

theorem call_rstrip {a : List Nat} {c : Nat} {xs : List Value} (hl : a.length ≤ 16000000) (hx : Reps news [.str a, .str [c]] xs) : Go C A m news (call (.builtin "str.rstrip") xs) fun n z => Rep n (.str (cutEnd c a)) z := by
  cases hx with
  | cons h1 h2 => cases h2 with
    | cons h2 h3 =>
      cases h3; cases h1; cases h2
      refine .still fun s Q E h => SCL.rstripChars (fun t' k _ => ?_) (by rw [str_len, line_is]; omega)
      rw [rstrip_one]; exact h _ _ (.str _ _)

theorem call_str {a : Int} {xs : List Value} (hl : a.natAbs < 2 ^ 200) (hx : Reps news [.int a] xs) : Go C A m news (call (.type "str") xs) fun n z => Rep n (.str (txt (toString a))) z := by
  cases hx with
  | cons h1 h2 =>
    cases h2; cases h1
    refine .still fun s Q E h => PySem.P.str_of_int ?_ ?_
    · by_cases h0 : a.natAbs = 0
      · rw [h0]; decide
      · exact (Nat.log2_lt h0).mpr (Nat.lt_of_lt_of_le hl (Nat.pow_le_pow_right (by decide) (by decide)))
    · rw [ofString_txt]; exact h _ _ (.str _ _)
theorem call_strS {a : List Nat} {xs : List Value} (hx : Reps news [.str a] xs) : Go C A m news (call (.type "str") xs) fun n z => Rep n (.str a) z := by
  cases hx with
  | cons h1 h2 => cases h2; cases h1; exact .still fun s Q E h => PySem.P.str_of_str (h _ s.toks (.str _ _))
theorem call_strB {b : Bool} {xs : List Value} (hx : Reps news [.bool b] xs) : Go C A m news (call (.type "str") xs) fun n z => Rep n (.str (txt (if b then "True" else "False"))) z := by
  cases hx with
  | cons h1 h2 =>
    cases h2; cases h1
    refine .still fun s Q E h => PySem.P.str_of_bool ?_
    cases b <;> (simp only [Bool.false_eq_true, if_true, if_false]; rw [ofString_txt]; exact h _ _ (.str _ _))
end

theorem slice_to {a : List Nat} {j : Int} (h0 : 0 ≤ j) : Txt.slice ⟨a.toArray⟩ none (some j) = ⟨(a.take j.toNat).toArray⟩ := by
  apply Str.ext'
  unfold Txt.slice
  have e : Builtin.Str.strSliceIndices none (some j) 1 (⟨a.toArray⟩ : Str).length = List.range (min j.toNat a.length) := by
    rw [str_len]
    unfold Builtin.Str.strSliceIndices
    simp only [show (1 : Int) > 0 by decide, if_true, if_neg (show ¬ j < 0 by omega)]
    have e1 : max 0 (min j (a.length : Int)) = ((min j.toNat a.length : Nat) : Int) := by omega
    rw [e1]
    have := sliceRange_one 0 (min j.toNat a.length)
    rw [show ((0 : Nat) : Int) = 0 from rfl] at this
    rw [this]
    simp
  rw [e, List.length_range, str_len]
  have hk : ∀ n, n ≤ a.length → (List.range n).filterMap (fun x => a[x]?) = a.take n := by
    intro n
    induction n with
    | zero => intro _; simp
    | succ n ih =>
      intro hn
      rw [List.range_succ, List.filterMap_append, ih (by omega), List.take_add_one, List.getElem?_eq_getElem (show n < a.length by omega)]
      simp [List.getElem?_eq_getElem (show n < a.length by omega)]
  split
  · rename_i hc
    simp only [beq_self_eq_true, Bool.true_and, beq_iff_eq] at hc
    rw [List.take_of_length_le (by omega)]
  · simp only [List.getElem?_toArray]
    rw [hk _ (by omega)]
    congr 1
    apply List.take_eq_take_iff.mpr
    omega

theorem slice_from {a : List Nat} {i : Int} (h0 : 0 ≤ i) : Txt.slice ⟨a.toArray⟩ (some i) none = ⟨(a.drop i.toNat).toArray⟩ := by
  apply Str.ext'
  unfold Txt.slice
  have e : Builtin.Str.strSliceIndices (some i) none 1 (⟨a.toArray⟩ : Str).length = (List.range (a.length - min i.toNat a.length)).map (min i.toNat a.length + ·) := by
    rw [str_len]
    unfold Builtin.Str.strSliceIndices
    simp only [show (1 : Int) > 0 by decide, if_true, if_neg (show ¬ i < 0 by omega)]
    have e1 : max 0 (min i (a.length : Int)) = ((min i.toNat a.length : Nat) : Int) := by omega
    rw [e1]
    exact sliceRange_one _ _
  rw [e, List.length_map, List.length_range, str_len]
  have hk : ∀ n k, n + k ≤ a.length → ((List.range n).map (k + ·)).filterMap (fun x => a[x]?) = (a.drop k).take n := by
    intro n
    induction n with
    | zero => intro k _; simp
    | succ n ih =>
      intro k hn
      rw [List.range_succ, List.map_append, List.filterMap_append, ih k (by omega), List.take_add_one, List.getElem?_drop]
      simp [List.getElem?_eq_getElem (show k + n < a.length by omega)]
  split
  · rename_i hc
    simp only [beq_self_eq_true, Bool.true_and, beq_iff_eq] at hc
    by_cases hz : a = []
    · subst hz; simp
    · have : 0 < a.length := List.length_pos_iff.mpr hz
      have h3 : i.toNat = 0 := by omega
      rw [h3]; rfl
  · simp only [List.getElem?_toArray]
    rw [hk _ _ (by omega)]
    by_cases hi : i.toNat ≤ a.length
    · rw [Nat.min_eq_left hi, List.take_of_length_le (by simp)]
    · rw [Nat.min_eq_right (by omega)]; simp; omega

section
variable {C : Cx} {ρ : List V}

theorem Ev.sliceTo {e u : Expr} {p pos : Pos} {a : List Nat} {j : Int} (he : Ev C e ρ (.str a)) (hj : Ev C u ρ (.int j)) (hl : a.length < 16000000) (h0 : 0 ≤ j)
    (h1 : ∀ x t r, subscripted (.Slice Option.none (some u) Option.none p) false (.str x t) (.ref r) = operate [.ref r, .str x t] (getItem (.str x t) (.ref r)) := by intros; with_unfolding_all rfl)
    (h2 : ∀ x t r, letTemporaryGo e (.str x t) r = pure () := by intros; with_unfolding_all rfl) : Ev C (.Subscript e (.Slice Option.none (some u) Option.none p) pos) ρ (.str (a.take j.toNat)) := fun m news g s Q E F N hq =>
  Subscript_ (he m news g s _ E F N fun x n1 h1' tk1 s1 r1 F1 N1 => wpAny_Slice (evalPart_none_step (evalPart_some_step (hj m n1 (g.mono s1) _ _ E F1 N1 fun y n2 h2' tk2 s2 r2 F2 N2 => evalPart_none_step (by
    cases r1; cases r2
    refine slice_strN_ns (s := { s with heap := h2', toks := tk2 }) F2 N2 (fun h' t' k F' N' => ?_) (h1 _ _ _) (h2 _ _) (by rw [str_len, line_is]; omega)
    rw [slice_to h0]
    exact hq _ n2 h' k (s1.trans s2) (.str _ _) F' N')))))

theorem Ev.sliceFrom {e u : Expr} {p pos : Pos} {a : List Nat} {j : Int} (he : Ev C e ρ (.str a)) (hj : Ev C u ρ (.int j)) (hl : a.length < 16000000) (h0 : 0 ≤ j)
    (h1 : ∀ x t r, subscripted (.Slice (some u) Option.none Option.none p) false (.str x t) (.ref r) = operate [.ref r, .str x t] (getItem (.str x t) (.ref r)) := by intros; with_unfolding_all rfl)
    (h2 : ∀ x t r, letTemporaryGo e (.str x t) r = pure () := by intros; with_unfolding_all rfl) : Ev C (.Subscript e (.Slice (some u) Option.none Option.none p) pos) ρ (.str (a.drop j.toNat)) := fun m news g s Q E F N hq =>
  Subscript_ (he m news g s _ E F N fun x n1 h1' tk1 s1 r1 F1 N1 => wpAny_Slice (evalPart_some_step (hj m n1 (g.mono s1) _ _ E F1 N1 fun y n2 h2' tk2 s2 r2 F2 N2 => evalPart_none_step (evalPart_none_step (by
    cases r1; cases r2
    refine slice_strN_sn (s := { s with heap := h2', toks := tk2 }) F2 N2 (fun h' t' k F' N' => ?_) (h1 _ _ _) (h2 _ _) (by rw [str_len, line_is]; omega)
    rw [slice_from h0]
    exact hq _ n2 h' k (s1.trans s2) (.str _ _) F' N')))))

/-- a method of a text, with one argument or more -/
theorem Ev.meth {o e : Expr} {es : List Expr} {name : Str} {apos pos : Pos} {id : String} {a : List Nat} {vs : List V} {v : V} (ho : Ev C o ρ (.str a)) (ha : Evs C (e :: es) ρ vs)
    (hg : ∀ (x : Str) (t : Tok) (s : Shared) (Q : Value × List Value → Shared → Prop) (E : Value → Shared → Prop) (pl : Sem Bool), Q (.builtin id, [.str x t]) s → wpAny C.M C.A (getMethod (.str x t) name pl) Q E s)
    (hop : ∀ m news xs, Reps news (.str a :: vs) xs → Go C C.A m news (call (.builtin id) xs) fun n z => Rep n v z)
    (pl : Sem Bool)
    (h0 : eval (.Call (.Attribute o name apos) (e :: es) [] pos) C.env = (do let ov ← eval o C.env; standAt apos.atName; let (f, first) ← holding [ov] (getMethod ov name pl); callWith pos f first (backTo pos (starEach (e :: es) C.env)) []))
    (h1 : starEach (e :: es) C.env = (false, eval e C.env) :: starEach es C.env := by rfl)
    (h2 : ((backTo pos (starEach es C.env)).any fun x => x.1) = false := by rfl) : Ev C (.Call (.Attribute o name apos) (e :: es) [] pos) ρ v := fun m news g s Q E F N hq =>
  MethodCall_ (pl := pl) (ho m news g s _ E F N fun ov n1 h1' tk1 s1 r1 F1 N1 => by
    cases r1
    refine hg _ _ _ _ E pl ?_
    refine callWith_method1 (ha m n1 pos (g.mono s1) _ _ E F1 N1 fun xs n2 h2' tk2 s2 r2 F2 N2 => hop m n2 (_ :: xs) (.cons (.str _ _) r2) _ Q E F2 N2 fun z n3 h3 tk3 s3 r3 F3 N3 => hq z n3 h3 tk3 (s1.trans (s2.trans s3)) r3 F3 N3) h1 h2) h0
end
end Mine

end
section
open PySem PySem.W PyProof.Rows PySem.Calls
set_option maxRecDepth 100000
set_option linter.unusedVariables false
namespace Mine
/-- the law's own functions, over signs' numbers -/
def dec (n : Nat) : List Nat := (Nat.toDigits 10 n).map Char.toNat
def outAt (t : List Nat) : Nat → List Nat
  | 0 => []
  | i + 1 => (outAt t i ++ if 0 < i ∧ (t.length - i) % 3 = 0 then [44] else []) ++ [t.getD i 0]
def lawGroup (t : List Nat) : List Nat := outAt t t.length
def roundE (size : Nat) : Nat := if size % 8 > 4 ∨ (size % 8 = 4 ∧ size / 8 % 2 = 1) then size / 8 + 1 else size / 8
def padTo (k : Nat) (t : List Nat) : List Nat := List.replicate (k - t.length) 48 ++ t
def lawFixed (n : Int) (places : Nat) (comma plus : Bool) : List Nat :=
  let t := padTo (places + 1) (dec (roundE (n.natAbs * 10 ^ places)))
  let head := t.take (t.length - places)
  let tail := t.drop (t.length - places)
  ((if n < 0 then [45] else if plus then [43] else []) ++ (if comma then lawGroup head else head)) ++ (if places > 0 then [46] ++ tail else [])
def lawSix (n : Int) : List Nat :=
  let whole := n.natAbs / 8
  let t := lawFixed n (if whole > 0 then 6 - (dec whole).length else 6) false false
  if t.contains 46 then cutEnd 46 (cutEnd 48 t) else t
def numPart (n : Int) (long : Bool) : List Nat :=
  let part := padTo 3 (dec (n.natAbs % 8 * 125))
  if long then part else if (cutEnd 48 part).isEmpty then [48] else cutEnd 48 part
def lawNumeral (n : Int) (long comma : Bool) : List Nat :=
  (((if n < 0 then [45] else []) ++ (if comma then lawGroup (dec (n.natAbs / 8)) else dec (n.natAbs / 8))) ++ [46]) ++ numPart n long
def figs : List Nat := [48, 49, 50, 51, 52, 53, 54, 55, 56, 57, 97, 98, 99, 100, 101, 102]
def baseAt (b n : Nat) : Nat → List Nat
  | 0 => []
  | i + 1 => figs.getD (n / b ^ i % b) 0 :: baseAt b n i
/-- how many turns: the first power that is over n -/
def baseLen (b n : Nat) : Nat → Nat → Nat
  | 0, i => i
  | f + 1, i => if n / b ^ i = 0 then i else baseLen b n f (i + 1)
def lawInBase (m : Int) (b : Nat) : List Nat :=
  let t := baseAt b m.natAbs (baseLen b m.natAbs 64 0)
  (if m < 0 then [45] else []) ++ (if t.isEmpty then [48] else t)

theorem txt_nat (n : Nat) : txt (toString (n : Int)) = dec n := by
  show (Nat.repr n).toList.map Char.toNat = _
  rw [Nat.toList_repr]; rfl
theorem txt_int (n : Int) : txt (toString n) = (if n < 0 then [45] else []) ++ dec n.natAbs := by
  cases n with
  | ofNat k => rw [if_neg (by simp)]; exact txt_nat k
  | negSucc k =>
    rw [if_pos (Int.negSucc_lt_zero k)]
    show ("-" ++ Nat.repr (k + 1)).toList.map Char.toNat = _
    rw [String.toList_append, List.map_append, Nat.toList_repr]
    rfl
theorem digit_char {d : Nat} (h : d < 10) : (Nat.digitChar d).toNat = 48 + d := by
  have : ∀ d : Fin 10, (Nat.digitChar d.val).toNat = 48 + d.val := by decide
  exact this ⟨d, h⟩
theorem dec_small {n : Nat} (h : n < 10) : dec n = [48 + n] := by
  unfold dec
  rw [Nat.toDigits_of_lt_base h]
  simp [digit_char h]
theorem dec_step {n : Nat} (h : 10 ≤ n) : dec n = dec (n / 10) ++ [48 + n % 10] := by
  unfold dec
  rw [Nat.toDigits_of_base_le (by decide) h, List.map_append]
  simp [digit_char (Nat.mod_lt n (by decide : 0 < 10))]
theorem dec_digits : ∀ (n : Nat), ∀ c ∈ dec n, 48 ≤ c ∧ c ≤ 57 := by
  intro n
  induction n using Nat.strongRecOn with
  | ind n ih =>
    intro c hc
    by_cases h : n < 10
    · rw [dec_small h] at hc; simp at hc; omega
    · rw [dec_step (by omega)] at hc
      rcases List.mem_append.mp hc with h1 | h1
      · exact ih (n / 10) (by omega) c h1
      · simp at h1; omega
theorem dec_pos (n : Nat) : 0 < (dec n).length := by
  by_cases h : n < 10
  · rw [dec_small h]; simp
  · rw [dec_step (by omega)]; simp
theorem dec_len_le : ∀ (k n : Nat), n < 10 ^ (k + 1) → (dec n).length ≤ k + 1 := by
  intro k
  induction k with
  | zero => intro n h; rw [dec_small (by simpa using h)]; simp
  | succ k ih =>
    intro n h
    by_cases h10 : n < 10
    · rw [dec_small h10]; simp
    · rw [dec_step (by omega)]
      have := ih (n / 10) (by rw [Nat.pow_succ] at h; omega)
      simp; omega
end Mine

end
section
open PySem PySem.W PyProof.Rows PySem.Calls
set_option maxRecDepth 100000
set_option linter.unusedVariables false
namespace Mine
section
variable {C : Cx} {ρ : List V}
theorem Ev.gl {k : Nat} (ok : C.Ok k) {sc : Scope} (hcs : C.cs = sc) {x : Str} {pos : Pos} {y : Value} (e : ∀ w, nsIn (K0 w) mainGlobals x = some (some y)) (hx : sc.names.lookup x = some .globalImplicit := by rfl) (hd : (x == ("__debug__" : Str)) = false := by decide +kernel) : Ev C (.Name x pos) ρ (.val y) :=
  Ev.glob ok (by subst hcs; exact hx) (e C.w) hd
theorem Ev.bl {k : Nat} (ok : C.Ok k) {sc : Scope} (hcs : C.cs = sc) {x : Str} {pos : Pos} {y : Value} (e : ∀ w, nsIn (K0 w) mainGlobals x = some Option.none) (hv : bootBuiltins x = some y) (hx : sc.names.lookup x = some .globalImplicit := by rfl) (hn : x ≠ "__name__" := by decide +kernel) (hd : (x == ("__debug__" : Str)) = false := by decide +kernel) : Ev C (.Name x pos) ρ (.val y) :=
  Ev.blt ok (by subst hcs; exact hx) (e C.w) hv hn hd

theorem Tst.script {k : Nat} (ok : C.Ok k) {e : Expr} (he : Ev C e ρ (.val (.ref C.sl)))
    (hw : PySem.isTrue e C.env (eval e C.env) = (do let v ← eval e C.env; standAt e.pos; holding [v] (truthy v)) := by rfl) : Tst C e ρ (!C.sns.isEmpty) :=
  Tst.plain he (fun m news x r s Q E F N h => by
    cases r
    have hl : s.heap.IsList C.sl C.svs.toArray := let ⟨o, e, q⟩ := ok.lst; ⟨o, F.keep _ _ e, q⟩
    have := ok.iar.length
    have h63 := ok.few
    refine wpAny_truthy_list hl (by rw [List.size_toArray]; omega) (h _ news s.heap _ (Sub.refl _) ?_ F N)
    rw [List.isEmpty_toArray]
    cases hv : C.svs <;> cases hn : C.sns <;> simp_all) hw
end
theorem call_len_script {C : Cx} {m : Str → Option Value} {news : Led} {k : Nat} (ok : C.Ok k) {xs : List Value} (hx : Reps news [.val (.ref C.sl)] xs) : Go C C.A m news (call (.builtin "len") xs) fun n z => Rep n (.int C.sns.length) z := by
  cases hx with
  | cons h1 h2 =>
    cases h2; cases h1
    intro s Q E F N h
    have hl : s.heap.IsList C.sl C.svs.toArray := let ⟨o, e, q⟩ := ok.lst; ⟨o, F.keep _ _ e, q⟩
    have := ok.iar.length
    have h63 := ok.few
    refine len_list hl (by rw [List.size_toArray]; omega) ?_
    rw [List.size_toArray, ok.iar.length]
    exact h _ news s.heap _ (Sub.refl _) (.int _ _) F N
theorem Ev.itemL {C : Cx} {ρ : List V} {n : Nat} (ok : C.Ok n) {e i : Expr} {pos : Pos} {k : Int} {v : Int} (he : Ev C e ρ (.val (.ref C.sl))) (hi : Ev C i ρ (.int k)) (h0 : 0 ≤ k) (hk : C.sns[k.toNat]? = some v)
    (h1 : ∀ x j u, subscripted i false (.ref x) (.int j u) = operate [.ref x, .int j u] (getItem (.ref x) (.int j u)) := by intros; with_unfolding_all rfl)
    (h2 : ∀ x r, letTemporaryGo e (.ref x) r = pure () := by intros; with_unfolding_all rfl) : Ev C (.Subscript e i pos) ρ (.int v) := fun m news g s Q E F N hq =>
  Subscript_ (he m news g s _ E F N fun x n1 h1' tk1 s1 r1 F1 N1 => hi m n1 (g.mono s1) _ _ E F1 N1 fun y n2 h2' tk2 s2 r2 F2 N2 => by
    cases r1; cases r2
    have hl : h2'.IsList C.sl C.svs.toArray := let ⟨o, e, q⟩ := ok.lst; ⟨o, F2.keep _ _ e, q⟩
    obtain ⟨t, hx⟩ := ok.iar.get k.toNat v hk
    have hlt : k.toNat < C.sns.length := (List.getElem?_eq_some_iff.mp hk).1
    have h63 := ok.few
    exact item_list hl h0 (by omega) (by simpa using hx) (hq _ n2 h2' tk2 (s1.trans s2) (.int v t) F2 N2) (h1 _ _ _) (h2 _))


theorem g_len : ∀ w, nsIn (K0 w) mainGlobals (Str.ofString "len") = some none := fun w => by rfl
theorem b_len : bootBuiltins (Str.ofString "len") = some (.builtin "len") := by decide +kernel

def lawAt (ns : List Int) (k : Int) : Int :=
  let x := (if ns.length = 0 then 0 else ns.getD (k % ns.length).toNat 0) * 7919 + 104729 * (k + 1)
  (x * x + x / 3) % 1000003

theorem mulOk_small {a b : Int} (h : b.natAbs < 2 ^ 64) : IntMulOk a b := by
  unfold IntMulOk
  intro hc
  simp only [Bool.and_eq_true, decide_eq_true_eq] at hc
  have h2 := hc.1.2
  unfold Builtin.Int.intBits at h2
  split at h2
  · omega
  · rename_i h0
    have : b.natAbs.log2 < 64 := (Nat.log2_lt (by intro e; apply h0; simp; omega)).mpr h
    have : (shortFactorBits : Nat) = 64 := rfl
    omega
theorem mulOk_bits {a b : Int} (h : a.natAbs.log2 < 2 ^ 22) (h2 : b.natAbs.log2 < 2 ^ 22) : IntMulOk a b := by
  unfold IntMulOk
  intro hc
  simp only [Bool.and_eq_true, decide_eq_true_eq] at hc
  have h3 := hc.2
  unfold Builtin.Int.intTooBig at h3
  have ha : Builtin.Int.intBits a ≤ 2 ^ 22 := by unfold Builtin.Int.intBits; split <;> omega
  have hb : Builtin.Int.intBits b ≤ 2 ^ 22 := by unfold Builtin.Int.intBits; split <;> omega
  have hl : bitsLine = 2 ^ 27 := by rfl
  simp only [decide_eq_true_eq] at h3
  rw [hl] at h3
  omega

set_option maxHeartbeats 1000000 in
theorem at_fn (sl : Addr) (sns : List Int) (k : Int) (h0 : 0 ≤ k) (h1 : k < 100) : Fn sl sns 67 0 [.val (.ref sl), .int k] (.int (lawAt sns k)) := by
  refine Fn.mk [Str.ofString "script", Str.ofString "k", Str.ofString "x"] [Str.ofString "script", Str.ofString "k"] 1 (fun w => by rfl) (fun w => by rfl) (fun xs h => ?_) (by decide +kernel) (by decide +kernel) (by decide +kernel) rfl rfl rfl rfl (by decide +kernel) ?_
  · match xs, h with
    | [a, b], _ => rfl
  · intro C hsl hsns ok nm hcs hnames
    subst hsl hsns
    have N : ∀ {i : Nat} {x : Str}, [Str.ofString "script", Str.ofString "k", Str.ofString "x"][i]? = some x → C.names[i]? = some x := fun h => by rw [hnames]; exact h
    let y : Int := if C.sns.length = 0 then 0 else C.sns.getD (k % C.sns.length).toNat 0
    have hy : y.natAbs.log2 < 2 ^ 21 := by
      show (if C.sns.length = 0 then (0 : Int) else C.sns.getD (k % C.sns.length).toNat 0).natAbs.log2 < _
      split
      · decide
      · rename_i hne
        refine ok.bits _ ?_
        have hlt : (k % C.sns.length).toNat < C.sns.length := by
          have := Int.emod_lt_of_pos k (show (0 : Int) < C.sns.length by omega)
          have := Int.emod_nonneg k (show (C.sns.length : Int) ≠ 0 by omega)
          omega
        rw [List.getD_eq_getElem?_getD, List.getElem?_eq_getElem hlt]
        exact List.getElem_mem _
    let x : Int := y * 7919 + 104729 * (k + 1)
    have hxb : x.natAbs.log2 < 2 ^ 22 := by
      have h2 : y.natAbs < 2 ^ (2 ^ 21) := by
        by_cases h : y.natAbs = 0
        · rw [h]; exact Nat.pow_pos (by decide)
        · exact (Nat.log2_lt h).mp hy
      by_cases h : x.natAbs = 0
      · rw [h]; decide
      · refine (Nat.log2_lt h).mpr ?_
        have e : (2 : Nat) ^ (2 ^ 22) = 2 ^ (2 ^ 21) * 2 ^ (2 ^ 21) := by rw [← Nat.pow_add]
        have e2 : 2 ^ 30 ≤ (2 : Nat) ^ (2 ^ 21) := Nat.pow_le_pow_right (by decide) (by decide)
        rw [e]
        generalize (2 : Nat) ^ (2 ^ 21) = z at *
        have h4 : x.natAbs ≤ y.natAbs * 7919 + 104729 * 100 := by
          show (y * 7919 + 104729 * (k + 1)).natAbs ≤ _
          omega
        have h5 : z * 2 ^ 30 ≤ z * z := Nat.mul_le_mul_left z e2
        omega
    refine Ex.cons (Ex1.assign 2 nm (N rfl) (v := .int x) (Ev.bin (Ev.bin (a := .int y) (Ev.ite (Tst.script ok (Ev.nm nm 0 (N rfl) rfl)) (fun hc => ?_) (fun hc => ?_)) Ev.int fun m n x y => op_mul (mulOk_small (by decide))) (Ev.bin Ev.int (Ev.bin (Ev.nm nm 1 (N rfl) rfl) Ev.int fun m n x y => op_add) fun m n x y => op_mul (mulOk_small (by omega))) fun m n x y => op_add)) (Ex.consR (Ex1.ret (v := .int (lawAt C.sns k)) ?_))
    · have hne : 0 < C.sns.length := by
        cases hs : C.sns with
        | nil => rw [hs] at hc; cases hc
        | cons a b => simp
      have hlt : (k % C.sns.length).toNat < C.sns.length := by
        have := Int.emod_lt_of_pos k (show (0 : Int) < C.sns.length by omega)
        have := Int.emod_nonneg k (show (C.sns.length : Int) ≠ 0 by omega)
        omega
      have hy2 : y = C.sns[(k % C.sns.length).toNat] := by
        show (if C.sns.length = 0 then (0 : Int) else C.sns.getD (k % C.sns.length).toNat 0) = _
        rw [if_neg (by omega), List.getD_eq_getElem?_getD, List.getElem?_eq_getElem hlt]; rfl
      refine Ev.itemL ok (Ev.nm nm 0 (N rfl) rfl) (Ev.bin (Ev.nm nm 1 (N rfl) rfl) (Ev.callB (Ev.bl ok hcs g_len b_len) (Evs.cons (Ev.nm nm 0 (N rfl) rfl) Evs.nil) fun m n xs => call_len_script ok) fun m n x y => op_mod (by omega)) (Int.emod_nonneg _ (by omega)) ?_
      rw [List.getElem?_eq_getElem hlt, hy2]
    · have hne : C.sns.length = 0 := by
        cases hs : C.sns with
        | nil => rfl
        | cons a b => rw [hs] at hc; cases hc
      have hy2 : y = 0 := by
        show (if C.sns.length = 0 then (0 : Int) else C.sns.getD (k % C.sns.length).toNat 0) = _
        rw [if_pos hne]
      rw [hy2]; exact Ev.int
    · exact Ev.bin (Ev.bin (Ev.bin (Ev.nm nm 2 (N rfl) rfl) (Ev.nm nm 2 (N rfl) rfl) fun m n x y => op_mul (mulOk_bits hxb hxb)) (Ev.bin (Ev.nm nm 2 (N rfl) rfl) Ev.int fun m n x y => op_div (by decide) (by decide)) fun m n x y => op_add) Ev.int fun m n x y => op_mod (by decide)
end Mine

end
section
open PySem PySem.W PyProof.Rows PySem.Calls
set_option maxRecDepth 100000
set_option linter.unusedVariables false
namespace Mine
theorem g_range : ∀ w, nsIn (K0 w) mainGlobals (Str.ofString "range") = some none := fun w => by rfl
theorem b_range : bootBuiltins (Str.ofString "range") = some (.type "range") := by decide +kernel
theorem g_str : ∀ w, nsIn (K0 w) mainGlobals (Str.ofString "str") = some none := fun w => by rfl
theorem b_str : bootBuiltins (Str.ofString "str") = some (.type "str") := by decide +kernel
theorem g_int : ∀ w, nsIn (K0 w) mainGlobals (Str.ofString "int") = some none := fun w => by rfl
theorem b_int : bootBuiltins (Str.ofString "int") = some (.type "int") := by decide +kernel
theorem g_float : ∀ w, nsIn (K0 w) mainGlobals (Str.ofString "float") = some none := fun w => by rfl
theorem b_float : bootBuiltins (Str.ofString "float") = some (.type "float") := by decide +kernel
theorem g_bool : ∀ w, nsIn (K0 w) mainGlobals (Str.ofString "bool") = some none := fun w => by rfl
theorem b_bool : bootBuiltins (Str.ofString "bool") = some (.type "bool") := by decide +kernel
theorem g_abs : ∀ w, nsIn (K0 w) mainGlobals (Str.ofString "abs") = some none := fun w => by rfl
theorem b_abs : bootBuiltins (Str.ofString "abs") = some (.builtin "abs") := by decide +kernel
theorem g_isinstance : ∀ w, nsIn (K0 w) mainGlobals (Str.ofString "isinstance") = some none := fun w => by rfl
theorem b_isinstance : bootBuiltins (Str.ofString "isinstance") = some (.builtin "isinstance") := by decide +kernel
theorem g_format : ∀ w, nsIn (K0 w) mainGlobals (Str.ofString "format") = some none := fun w => by rfl
theorem b_format : bootBuiltins (Str.ofString "format") = some (.builtin "format") := by decide +kernel
theorem g_law_at : ∀ w, nsIn (K0 w) mainGlobals (Str.ofString "_law_at") = some (some (.ref 67)) := fun w => by rfl
theorem g_law_group : ∀ w, nsIn (K0 w) mainGlobals (Str.ofString "_law_group") = some (some (.ref 74)) := fun w => by rfl
theorem g_law_fixed : ∀ w, nsIn (K0 w) mainGlobals (Str.ofString "_law_fixed") = some (some (.ref 81)) := fun w => by rfl
theorem g_law_six : ∀ w, nsIn (K0 w) mainGlobals (Str.ofString "_law_six_figures") = some (some (.ref 88)) := fun w => by rfl
theorem g_law_decimal : ∀ w, nsIn (K0 w) mainGlobals (Str.ofString "_law_decimal") = some (some (.ref 95)) := fun w => by rfl
theorem g_law_numeral : ∀ w, nsIn (K0 w) mainGlobals (Str.ofString "_law_numeral") = some (some (.ref 102)) := fun w => by rfl
theorem g_law_in_base : ∀ w, nsIn (K0 w) mainGlobals (Str.ofString "_law_in_base") = some (some (.ref 109)) := fun w => by rfl
theorem g_law_whole : ∀ w, nsIn (K0 w) mainGlobals (Str.ofString "_law_whole") = some (some (.ref 116)) := fun w => by rfl
theorem g_law_point_cell : ∀ w, nsIn (K0 w) mainGlobals (Str.ofString "_law_point_cell") = some (some (.ref 123)) := fun w => by rfl
theorem g_law_case : ∀ w, nsIn (K0 w) mainGlobals (Str.ofString "_law_case") = some (some (.ref 130)) := fun w => by rfl
theorem g_law_told : ∀ w, nsIn (K0 w) mainGlobals (Str.ofString "_law_told") = some (some (.ref 137)) := fun w => by rfl
theorem g_fmt : ∀ w, nsIn (K0 w) mainGlobals (Str.ofString "_format") = some (some (.ref 56)) := fun w => by rfl
theorem g_strip : ∀ w, nsIn (K0 w) mainGlobals (Str.ofString "_strip_ansi") = some (some (.ref 48)) := fun w => by rfl
theorem g_ansi : ∀ w, nsIn (K0 w) mainGlobals (Str.ofString "_ansi_codes") = some (some (.ref 36)) := fun w => by rfl
theorem g_wforms : ∀ w, nsIn (K0 w) mainGlobals (Str.ofString "_law_whole_forms") = some (some (.ref 57)) := fun w => by rfl
theorem g_pforms : ∀ w, nsIn (K0 w) mainGlobals (Str.ofString "_law_point_forms") = some (some (.ref 58)) := fun w => by rfl
theorem g_gaps : ∀ w, nsIn (K0 w) mainGlobals (Str.ofString "_law_gaps") = some (some (.ref 59)) := fun w => by rfl
theorem g_words : ∀ w, nsIn (K0 w) mainGlobals (Str.ofString "_law_words") = some (some (.ref 60)) := fun w => by rfl
theorem g_figs : ∀ w, nsIn (K0 w) mainGlobals (Str.ofString "_law_figures") = some (some (.str (Str.ofString "0123456789abcdef") 596)) := fun w => by rfl
theorem keep_fn {a : Addr} (h : a ∈ [67, 74, 81, 88, 95, 102, 109, 116, 123, 130, 137, 56, 48]) : ∀ w, keepIn (K0 w) (.ref a) = true := by
  simp only [List.mem_cons, List.not_mem_nil, or_false] at h
  intro w
  rcases h with rfl | rfl | rfl | rfl | rfl | rfl | rfl | rfl | rfl | rfl | rfl | rfl | rfl <;> rfl
end Mine

end
section
open PySem PySem.W PyProof.Rows PySem.Calls
set_option maxRecDepth 100000
set_option linter.unusedVariables false
namespace Mine

theorem outAt_len (t : List Nat) : ∀ i, (outAt t i).length ≤ 2 * i := by
  intro i
  induction i with
  | zero => simp [outAt]
  | succ i ih =>
    unfold outAt
    simp only [List.length_append, List.length_cons, List.length_nil]
    split <;> simp <;> omega

set_option maxHeartbeats 1000000 in
theorem group_fn (sl : Addr) (sns : List Int) (t : List Nat) (ht : t.length ≤ 1000) : Fn sl sns 74 0 [.str t] (.str (lawGroup t)) := by
  refine Fn.mk [Str.ofString "t", Str.ofString "out", Str.ofString "k"] [Str.ofString "t"] 2 (fun w => by rfl) (fun w => by rfl) (fun xs h => ?_) (by decide +kernel) (by decide +kernel) (by decide +kernel) rfl rfl rfl rfl (by decide +kernel) ?_
  · match xs, h with
    | [a], _ => rfl
  · intro C hsl hsns ok nm hcs hnames
    have N : ∀ {i : Nat} {x : Str}, [Str.ofString "t", Str.ofString "out", Str.ofString "k"][i]? = some x → C.names[i]? = some x := fun h => by rw [hnames]; exact h
    refine Ex.cons (Ex1.assign 1 nm (N rfl) (Ev.str (l := []) (by decide +kernel))) ?_
    refine Ex.cons (Ex1.forRange ok 2 nm (N rfl) (Ev.bl ok hcs g_range b_range) (Ev.callB (Ev.bl ok hcs g_len b_len) (Evs.cons (Ev.nm nm 0 (N rfl) rfl) Evs.nil) fun m n xs => call_len (by omega)) (by omega) (by omega)
      (fun i => [.str t, .str (outAt t i), if i = 0 then .undef else .int (i - 1 : Nat)]) rfl ?_ ?_) ?_
    · intro i v hv
      simp only [List.mem_cons, List.not_mem_nil, or_false] at hv
      rcases hv with rfl | rfl | rfl
      · exact .str _
      · exact .str _
      · split
        · exact .undef
        · exact .int _
    · intro i hi
      have hi' : i < t.length := by omega
      have hol := outAt_len t i
      refine Ex.cons (ρ' := [.str t, .str (outAt t i ++ if 0 < i ∧ (t.length - i) % 3 = 0 then [44] else []), .int i]) (Ex1.ite (c := decide ((0 : Int) < i) && ((((t.length : Int) - i) % 3 == 0) && true)) (Tst.bool (TstB.and (Tst.cmp (Ev.nm nm 2 (N rfl) rfl) Ev.int fun m n x y => cmp_gt) fun _ => TstB.and (Tst.cmp (Ev.bin (Ev.bin (Ev.callB (Ev.bl ok hcs g_len b_len) (Evs.cons (Ev.nm nm 0 (N rfl) rfl) Evs.nil) fun m n xs => call_len (by omega)) (Ev.nm nm 2 (N rfl) rfl) fun m n x y => op_sub) Ev.int fun m n x y => op_mod (by decide)) Ev.int fun m n x y => cmp_eq) fun _ => TstB.and_nil)) (fun hc => ?_) (fun hc => ?_)) ?_
      · have hcc : 0 < i ∧ (t.length - i) % 3 = 0 := by
          simp only [Bool.and_true, Bool.and_eq_true, decide_eq_true_eq, beq_iff_eq] at hc
          omega
        rw [if_pos hcc]
        exact Ex.cons (Ex1.assign 1 nm (N rfl) (Ev.bin (Ev.nm nm 1 (N rfl) rfl) (Ev.str (l := [44]) (by decide +kernel)) fun m n x y => op_cat (by simp; omega))) Ex.nil
      · have hcc : ¬ (0 < i ∧ (t.length - i) % 3 = 0) := by
          intro h
          simp only [Bool.and_true, Bool.and_eq_false_iff, decide_eq_false_iff_not, beq_eq_false_iff_ne] at hc
          omega
        rw [if_neg hcc, List.append_nil]
        exact Ex.nil
      · refine Ex.cons (Ex1.assign 1 nm (N rfl) (v := .str (outAt t (i + 1))) (Ev.bin (b := .str [t.getD i 0]) (Ev.nm nm 1 (N rfl) rfl) (Ev.itemS (Ev.nm nm 0 (N rfl) rfl) (Ev.nm nm 2 (N rfl) rfl) (by omega) ?_) fun m n x y => op_cat (by simp; split <;> simp <;> omega))) Ex.nil
        have : seqIndex? (i : Int) t.length = some i := by
          unfold seqIndex?
          simp only [if_neg (show ¬ (i : Int) < 0 by omega)]
          rw [if_pos (by simp; omega)]
          simp
        rw [this]
        show t[i]? = some (t.getD i 0)
        rw [List.getD_eq_getElem?_getD, List.getElem?_eq_getElem hi']
        rfl
    · exact Ex.consR (Ex1.ret (by
        have := Ev.nm (C := C) (ρ := [V.str t, V.str (outAt t (t.length : Int).toNat), if (t.length : Int).toNat = 0 then V.undef else V.int (((t.length : Int).toNat - 1 : Nat) : Int)]) (pos := ⟨60, 11, 60, 14⟩) nm 1 (N rfl) rfl
        simpa only [lawGroup, Int.toNat_natCast] using this))
end Mine

end
section
open PySem PySem.W PyProof.Rows PySem.Calls
set_option maxRecDepth 100000
set_option linter.unusedVariables false
namespace Mine

theorem toNat_nat (n : Nat) : ((n : Int)).toNat = n := rfl
theorem pow10_le {p : Nat} (h : p ≤ 6) : 10 ^ p ≤ 1000000 := by
  have : (10 : Nat) ^ p ≤ 10 ^ 6 := Nat.pow_le_pow_right (by decide) h
  simpa using this

set_option maxHeartbeats 2000000 in
theorem fixed_fn (sl : Addr) (sns : List Int) (n : Int) (places : Nat) (comma plus : Bool) (hn : n.natAbs ≤ 80000) (hp : places ≤ 6) :
    Fn sl sns 81 1 [.int n, .int places, .bool comma, .bool plus] (.str (lawFixed n places comma plus)) := by
  refine Fn.mk [Str.ofString "n", Str.ofString "places", Str.ofString "comma", Str.ofString "plus", Str.ofString "size", Str.ofString "whole", Str.ofString "rest", Str.ofString "t", Str.ofString "head", Str.ofString "tail", Str.ofString "sign"]
    [Str.ofString "n", Str.ofString "places", Str.ofString "comma", Str.ofString "plus"] 7 (fun w => by rfl) (fun w => by rfl) (fun xs h => ?_) (by decide +kernel) (by decide +kernel) (by decide +kernel) rfl rfl rfl rfl (by decide +kernel) ?_
  · match xs, h with
    | [a, b, c, d], _ => rfl
  · intro C hsl hsns ok nm hcs hnames
    have N : ∀ {i : Nat} {x : Str}, [Str.ofString "n", Str.ofString "places", Str.ofString "comma", Str.ofString "plus", Str.ofString "size", Str.ofString "whole", Str.ofString "rest", Str.ofString "t", Str.ofString "head", Str.ofString "tail", Str.ofString "sign"][i]? = some x → C.names[i]? = some x := fun h => by rw [hnames]; exact h
    have h10 := pow10_le hp
    let z : Nat := n.natAbs * 10 ^ places
    have hz : z ≤ 80000000000 := by
      show n.natAbs * 10 ^ places ≤ _
      have := Nat.mul_le_mul hn h10
      omega
    let w : Nat := roundE z
    have hw : w ≤ 10000000001 := by
      show (if z % 8 > 4 ∨ (z % 8 = 4 ∧ z / 8 % 2 = 1) then z / 8 + 1 else z / 8) ≤ _
      split <;> omega
    let t0 := dec w
    have ht0 : t0.length ≤ 11 := dec_len_le 10 w (by omega)
    let t := padTo (places + 1) t0
    have ht : t.length ≤ 20 ∧ places + 1 ≤ t.length := by
      show (List.replicate (places + 1 - t0.length) 48 ++ t0).length ≤ 20 ∧ _ ≤ (List.replicate (places + 1 - t0.length) 48 ++ t0).length
      simp; omega
    let head := t.take (t.length - places)
    let tail := t.drop (t.length - places)
    let sign : List Nat := if n < 0 then [45] else if plus then [43] else []
    have hsg : sign.length ≤ 1 := by show (if n < 0 then [45] else if plus then [43] else []).length ≤ 1; (split; simp; (split <;> simp))
    have hhl : head.length ≤ 20 := by show (t.take _).length ≤ _; simp; omega
    have htl : tail.length ≤ 20 := by show (t.drop _).length ≤ _; simp; omega
    have hgl : (lawGroup head).length ≤ 40 := by have := outAt_len head head.length; unfold lawGroup; omega
    refine Ex.cons (ρ' := [.int n, .int places, .bool comma, .bool plus, .int z, .undef, .undef, .undef, .undef, .undef, .undef]) (Ex1.assign 4 nm (N rfl) (Ev.bin (b := .int ((10 ^ places : Nat) : Int)) (v := .int z) (Ev.callB (Ev.bl ok hcs g_abs b_abs) (Evs.cons (Ev.nm nm 0 (N rfl) rfl) Evs.nil) fun m n xs => call_abs) (Ev.bin Ev.int (Ev.nm nm 1 (N rfl) rfl) fun _ _ _ _ hx hy => ?_) fun _ _ _ _ hx hy => ?_)) ?_
    · rw [show (((10 ^ places : Nat) : Int)) = (10 : Int) ^ ((places : Int)).toNat from Int.natCast_pow 10 places]
      exact op_pow (by omega) (by omega) (by decide) hx hy
    · rw [show ((z : Nat) : Int) = (n.natAbs : Int) * ((10 ^ places : Nat) : Int) from Int.natCast_mul _ _]
      exact op_mul (mulOk_small (by rw [Int.natAbs_natCast]; omega)) hx hy
    refine Ex.cons (ρ' := [.int n, .int places, .bool comma, .bool plus, .int z, .int ((z / 8 : Nat) : Int), .int ((z % 8 : Nat) : Int), .undef, .undef, .undef, .undef])
      (Ex1.assignS (vs := [.int ((z / 8 : Nat) : Int), .int ((z % 8 : Nat) : Int)]) [Str.ofString "whole", Str.ofString "rest"] [5, 6] nm (by rw [hnames]; rfl) rfl
        (Ev.tuple (Evs.cons (Ev.bin (Ev.nm nm 4 (N rfl) rfl) Ev.int fun m n x y => op_div (by decide) (by decide)) (Evs.cons (Ev.bin (Ev.nm nm 4 (N rfl) rfl) Ev.int fun m n x y => op_mod (by decide)) Evs.nil)) (by simp)) rfl
        (by show swappedStores _ _ (envX C.cn C.cs C.L C.a C.ccd C.cl) = _; rw [hcs]; rfl)) ?_
    refine Ex.cons (ρ' := [.int n, .int places, .bool comma, .bool plus, .int z, .int w, .int ((z % 8 : Nat) : Int), .undef, .undef, .undef, .undef])
      (Ex1.ite (c := decide ((4 : Int) < ((z % 8 : Nat) : Int)) || (((((z % 8 : Nat) : Int) == 4) && ((((z / 8 : Nat) : Int) % 2 == 1) && true)) || false))
        (Tst.bool (TstB.or (Tst.cmp (Ev.nm nm 6 (N rfl) rfl) Ev.int fun m n x y => cmp_gt) fun _ => TstB.or (Tst.bool (TstB.and (Tst.cmp (Ev.nm nm 6 (N rfl) rfl) Ev.int fun m n x y => cmp_eq) fun _ => TstB.and (Tst.cmp (Ev.bin (Ev.nm nm 5 (N rfl) rfl) Ev.int fun m n x y => op_mod (by decide)) Ev.int fun m n x y => cmp_eq) fun _ => TstB.and_nil)) fun _ => TstB.or_nil))
        (fun hc => ?_) (fun hc => ?_)) ?_
    · have hcc : z % 8 > 4 ∨ (z % 8 = 4 ∧ z / 8 % 2 = 1) := by
        simp only [Bool.and_true, Bool.or_false, Bool.or_eq_true, Bool.and_eq_true, decide_eq_true_eq, beq_iff_eq] at hc
        omega
      have hw2 : w = z / 8 + 1 := by show (if z % 8 > 4 ∨ (z % 8 = 4 ∧ z / 8 % 2 = 1) then z / 8 + 1 else z / 8) = _; rw [if_pos hcc]
      rw [hw2]
      exact Ex.cons (Ex1.assign 5 nm (N rfl) (Ev.bin (Ev.nm nm 5 (N rfl) rfl) Ev.int fun m n x y => op_add)) Ex.nil
    · have hcc : ¬ (z % 8 > 4 ∨ (z % 8 = 4 ∧ z / 8 % 2 = 1)) := by
        intro h
        simp only [Bool.and_true, Bool.or_false, Bool.or_eq_false_iff, Bool.and_eq_false_iff, decide_eq_false_iff_not, beq_eq_false_iff_ne] at hc
        omega
      have hw2 : w = z / 8 := by show (if z % 8 > 4 ∨ (z % 8 = 4 ∧ z / 8 % 2 = 1) then z / 8 + 1 else z / 8) = _; rw [if_neg hcc]
      rw [hw2]
      exact Ex.nil
    refine Ex.cons (ρ' := [.int n, .int places, .bool comma, .bool plus, .int z, .int w, .int ((z % 8 : Nat) : Int), .str t0, .undef, .undef, .undef])
      (Ex1.assign 7 nm (N rfl) (v := .str t0) (Ev.callT (Ev.bl ok hcs g_str b_str) (Evs.cons (Ev.nm nm 5 (N rfl) rfl) Evs.nil) fun m n xs hx => ?_)) ?_
    · have := call_str (C := C) (A := C.A) (m := m) (by show w < _; omega) hx
      rwa [txt_nat] at this
    refine Ex.cons (ρ' := [.int n, .int places, .bool comma, .bool plus, .int z, .int w, .int ((z % 8 : Nat) : Int), .str t, .undef, .undef, .undef])
      (Ex1.assign 7 nm (N rfl) (v := .str t) (Ev.bin (a := .str (List.replicate (places + 1 - t0.length) 48)) (Ev.bin (Ev.str (l := [48]) (by decide +kernel)) (Ev.bin (Ev.bin (Ev.nm nm 1 (N rfl) rfl) Ev.int fun m n x y => op_add) (Ev.callB (Ev.bl ok hcs g_len b_len) (Evs.cons (Ev.nm nm 7 (N rfl) rfl) Evs.nil) fun m n xs => call_len (by omega)) fun m n x y => op_sub) fun m n x y hx hy => ?_) (Ev.nm nm 7 (N rfl) rfl) fun m n x y => op_cat (by simp; omega))) ?_
    · have := op_rep (C := C) (A := C.A) (m := m) (by omega) (by omega) hx hy
      rwa [show ((places : Int) + 1 - (t0.length : Int)).toNat = places + 1 - t0.length by omega] at this
    have hsub : ((t.length : Int) - (places : Int)).toNat = t.length - places := by omega
    refine Ex.cons (ρ' := [.int n, .int places, .bool comma, .bool plus, .int z, .int w, .int ((z % 8 : Nat) : Int), .str t, .str head, .str tail, .undef])
      (Ex1.assignS (vs := [.str head, .str tail]) [Str.ofString "head", Str.ofString "tail"] [8, 9] nm (by rw [hnames]; rfl) rfl
        (Ev.tuple (Evs.cons (v := .str head) ?_ (Evs.cons (v := .str tail) ?_ Evs.nil)) (by simp)) rfl
        (by show swappedStores _ _ (envX C.cn C.cs C.L C.a C.ccd C.cl) = _; rw [hcs]; rfl)) ?_
    · show Ev C _ _ (.str (t.take (t.length - places)))
      rw [← hsub]
      exact Ev.sliceTo (Ev.nm nm 7 (N rfl) rfl) (Ev.bin (Ev.callB (Ev.bl ok hcs g_len b_len) (Evs.cons (Ev.nm nm 7 (N rfl) rfl) Evs.nil) fun m n xs => call_len (by omega)) (Ev.nm nm 1 (N rfl) rfl) fun m n x y => op_sub) (by omega) (by omega)
    · show Ev C _ _ (.str (t.drop (t.length - places)))
      rw [← hsub]
      exact Ev.sliceFrom (Ev.nm nm 7 (N rfl) rfl) (Ev.bin (Ev.callB (Ev.bl ok hcs g_len b_len) (Evs.cons (Ev.nm nm 7 (N rfl) rfl) Evs.nil) fun m n xs => call_len (by omega)) (Ev.nm nm 1 (N rfl) rfl) fun m n x y => op_sub) (by omega) (by omega)
    refine Ex.cons (ρ' := [.int n, .int places, .bool comma, .bool plus, .int z, .int w, .int ((z % 8 : Nat) : Int), .str t, .str head, .str tail, .str sign])
      (Ex1.assign 10 nm (N rfl) (v := .str sign) (Ev.ite (Tst.cmp (Ev.nm nm 0 (N rfl) rfl) Ev.int fun m n x y => cmp_lt) (fun hc => ?_) (fun hc => Ev.ite (c := plus) (Tst.plain (Ev.nm nm 3 (N rfl) rfl) fun m n x => tr_bool) (fun hc2 => ?_) (fun hc2 => ?_)))) ?_
    · have hs : sign = [45] := by show (if n < 0 then [45] else if plus then [43] else []) = _; rw [if_pos (by simpa using hc)]
      rw [hs]; exact Ev.str (by decide +kernel)
    · have hs : sign = [43] := by show (if n < 0 then [45] else if plus then [43] else []) = _; rw [if_neg (by simpa using hc), if_pos hc2]
      rw [hs]; exact Ev.str (by decide +kernel)
    · have hs : sign = [] := by show (if n < 0 then [45] else if plus then [43] else []) = _; rw [if_neg (by simpa using hc), if_neg (by simp [hc2])]
      rw [hs]; exact Ev.str (by decide +kernel)
    refine Ex.consR (Ex1.ret (v := .str ((sign ++ (if comma then lawGroup head else head)) ++ (if places > 0 then [46] ++ tail else []))) (Ev.bin (a := .str (sign ++ (if comma then lawGroup head else head))) (b := .str (if places > 0 then [46] ++ tail else [])) (Ev.bin (b := .str (if comma then lawGroup head else head)) (Ev.nm nm 10 (N rfl) rfl) (Ev.ite (c := comma) (Tst.plain (Ev.nm nm 2 (N rfl) rfl) fun m n x => tr_bool) (fun hc => ?_) (fun hc => ?_)) fun m n x y => op_cat ?_) (Ev.ite (Tst.cmp (Ev.nm nm 1 (N rfl) rfl) Ev.int fun m n x y => cmp_gt) (fun hc => ?_) (fun hc => ?_)) fun m n x y => op_cat ?_))
    · rw [if_pos hc]
      exact Ev.callF ok (keep_fn (by decide) C.w) (Ev.gl ok hcs g_law_group) (Evs.cons (Ev.nm nm 8 (N rfl) rfl) Evs.nil) fun m n xs hx => group_fn sl sns head (by omega) C m n xs hsl hsns ok hx
    · rw [if_neg (by simp [hc])]
      exact Ev.nm nm 8 (N rfl) rfl
    · split <;> omega
    · have : places > 0 := by simp at hc; omega
      rw [if_pos this]
      exact Ev.bin (Ev.str (l := [46]) (by decide +kernel)) (Ev.nm nm 9 (N rfl) rfl) fun m n x y => op_cat (by simp; omega)
    · have : ¬ places > 0 := by simp at hc; omega
      rw [if_neg this]
      exact Ev.str (by decide +kernel)
    · simp only [List.length_append]
      have : (if comma = true then lawGroup head else head).length ≤ 40 := by split <;> omega
      have : (if places > 0 then [46] ++ tail else []).length ≤ 30 := by split <;> simp <;> omega
      omega
end Mine

end
section
open PySem PySem.W PyProof.Rows PySem.Calls
set_option maxRecDepth 100000
set_option linter.unusedVariables false
namespace Mine

theorem padTo_len (k : Nat) (t : List Nat) : (padTo k t).length ≤ k + t.length ∧ k ≤ (padTo k t).length := by
  unfold padTo; simp; omega
theorem roundE_le (z : Nat) : roundE z ≤ z / 8 + 1 := by unfold roundE; split <;> omega
theorem fixed_len (n : Int) (places : Nat) (comma plus : Bool) (hn : n.natAbs ≤ 80000) (hp : places ≤ 6) : (lawFixed n places comma plus).length ≤ 100 := by
  have h10 := pow10_le hp
  have hz : n.natAbs * 10 ^ places ≤ 80000000000 := by have := Nat.mul_le_mul hn h10; omega
  unfold lawFixed
  have hw := roundE_le (n.natAbs * 10 ^ places)
  have ht0 : (dec (roundE (n.natAbs * 10 ^ places))).length ≤ 11 := dec_len_le 10 _ (by omega)
  have ht := padTo_len (places + 1) (dec (roundE (n.natAbs * 10 ^ places)))
  generalize padTo (places + 1) (dec (roundE (n.natAbs * 10 ^ places))) = t at *
  have h1 : (lawGroup (t.take (t.length - places))).length ≤ 40 := by
    unfold lawGroup
    have := outAt_len (t.take (t.length - places)) (t.take (t.length - places)).length
    have h2 : (t.take (t.length - places)).length ≤ t.length := by simp
    omega
  have h2 : (t.take (t.length - places)).length ≤ 20 := by simp; omega
  have h3 : (t.drop (t.length - places)).length ≤ 20 := by simp; omega
  simp only [List.length_append]
  have a1 : (if n < 0 then [45] else if plus = true then [43] else ([] : List Nat)).length ≤ 1 := by split; simp; (split <;> simp)
  have a2 : (if comma = true then lawGroup (t.take (t.length - places)) else t.take (t.length - places)).length ≤ 40 := by split <;> omega
  have a3 : (if places > 0 then [46] ++ t.drop (t.length - places) else []).length ≤ 30 := by split <;> simp <;> omega
  omega

theorem cutEnd_len (c : Nat) (a : List Nat) : (cutEnd c a).length ≤ a.length := by
  unfold cutEnd
  rw [List.length_reverse]
  have := (List.dropWhile_sublist (· == c) (l := a.reverse)).length_le
  rwa [List.length_reverse] at this

set_option maxHeartbeats 2000000 in
theorem six_fn (sl : Addr) (sns : List Int) (n : Int) (hn : n.natAbs ≤ 80000) : Fn sl sns 88 2 [.int n] (.str (lawSix n)) := by
  refine Fn.mk [Str.ofString "n", Str.ofString "whole", Str.ofString "t"] [Str.ofString "n"] 2 (fun w => by rfl) (fun w => by rfl) (fun xs h => ?_) (by decide +kernel) (by decide +kernel) (by decide +kernel) rfl rfl rfl rfl (by decide +kernel) ?_
  · match xs, h with
    | [a], _ => rfl
  · intro C hsl hsns ok nm hcs hnames
    have N : ∀ {i : Nat} {x : Str}, [Str.ofString "n", Str.ofString "whole", Str.ofString "t"][i]? = some x → C.names[i]? = some x := fun h => by rw [hnames]; exact h
    let w := n.natAbs / 8
    have hwl : (dec w).length ≤ 5 := dec_len_le 4 w (by show n.natAbs / 8 < _; omega)
    let p : Nat := if w > 0 then 6 - (dec w).length else 6
    have hp : p ≤ 6 := by show (if w > 0 then 6 - (dec w).length else 6) ≤ 6; split <;> omega
    let t := lawFixed n p false false
    have htl : t.length ≤ 100 := fixed_len n p false false hn hp
    refine Ex.cons (ρ' := [.int n, .int w, .undef]) (Ex1.assign 1 nm (N rfl) (v := .int w) (Ev.bin (Ev.callB (Ev.bl ok hcs g_abs b_abs) (Evs.cons (Ev.nm nm 0 (N rfl) rfl) Evs.nil) fun m n xs => call_abs) Ev.int fun m n x y => op_div (by decide) (by decide))) ?_
    refine Ex.cons (ρ' := [.int n, .int w, .str t]) (Ex1.assign 2 nm (N rfl) (v := .str t) (Ev.callF ok (keep_fn (by decide) C.w) (Ev.gl ok hcs g_law_fixed) (Evs.cons (Ev.nm nm 0 (N rfl) rfl) (Evs.cons (v := .int p) (Ev.ite (Tst.cmp (Ev.nm nm 1 (N rfl) rfl) Ev.int fun m n x y => cmp_gt) (fun hc => ?_) (fun hc => ?_)) (Evs.cons Ev.bool (Evs.cons Ev.bool Evs.nil)))) fun m nn xs hx => fixed_fn sl sns n p false false hn hp C m nn xs hsl hsns ok hx)) ?_
    · have hc' : w > 0 := by simp at hc; omega
      rw [show (p : Int) = 6 - ((dec w).length : Int) by show ((if w > 0 then 6 - (dec w).length else 6 : Nat) : Int) = _; rw [if_pos hc']; omega]
      refine Ev.bin Ev.int (Ev.callB (Ev.bl ok hcs g_len b_len) (Evs.cons (Ev.callT (Ev.bl ok hcs g_str b_str) (Evs.cons (Ev.nm nm 1 (N rfl) rfl) Evs.nil) fun m nn xs hx => ?_) Evs.nil) fun m n xs => call_len (by omega)) fun m n x y => op_sub
      have := call_str (C := C) (A := C.A) (m := m) (by show n.natAbs / 8 < _; omega) hx
      rwa [txt_nat] at this
    · have hc' : ¬ w > 0 := by simp at hc; omega
      rw [show (p : Int) = 6 by show ((if w > 0 then 6 - (dec w).length else 6 : Nat) : Int) = _; rw [if_neg hc']; rfl]
      exact Ev.int
    refine Ex.consR (Ex1.ret (v := .str (if t.contains 46 then cutEnd 46 (cutEnd 48 t) else t)) (Ev.ite (Tst.cmp (Ev.str (l := [46]) (by decide +kernel)) (Ev.nm nm 2 (N rfl) rfl) fun m n x y => cmp_in) (fun hc => ?_) (fun hc => ?_)))
    · rw [if_pos hc]
      have := cutEnd_len 48 t
      refine Ev.meth (Ev.meth (Ev.nm nm 2 (N rfl) rfl) (Evs.cons (Ev.str (l := [48]) (by decide +kernel)) Evs.nil) (fun _ _ _ _ _ _ h => GM.rstrip h) (fun _ _ _ => call_rstrip (by omega)) _ (by rfl)) (Evs.cons (Ev.str (l := [46]) (by decide +kernel)) Evs.nil) (fun _ _ _ _ _ _ h => GM.rstrip h) (fun _ _ _ => call_rstrip (by omega)) _ (by rfl)
    · rw [if_neg (by simp only [hc]; decide)]
      exact Ev.nm nm 2 (N rfl) rfl
end Mine

end
section
open PySem PySem.W PyProof.Rows PySem.Calls
set_option maxRecDepth 100000
set_option linter.unusedVariables false
namespace Mine

def pform : Nat → List Nat
  | 0 => [103] | 1 => [46, 48, 102] | 2 => [46, 49, 102] | 3 => [46, 50, 102] | 4 => [46, 51, 102] | 5 => [43, 46, 50, 102] | _ => [44, 46, 49, 102]
def lawDecimal (n : Int) : Nat → List Nat
  | 0 => lawSix n | 1 => lawFixed n 0 false false | 2 => lawFixed n 1 false false | 3 => lawFixed n 2 false false | 4 => lawFixed n 3 false false | 5 => lawFixed n 2 false true | _ => lawFixed n 1 true false
def wform : Nat → List Nat
  | 0 => [] | 1 => [44] | 2 => [98] | 3 => [120] | 4 => [43] | _ => [48, 56]
def lawWhole (m : Int) : Nat → List Nat
  | 0 => (if m < 0 then [45] else []) ++ dec m.natAbs
  | 1 => (if m < 0 then [45] else []) ++ lawGroup (dec m.natAbs)
  | 2 => lawInBase m 2
  | 3 => lawInBase m 16
  | 4 => (if m < 0 then [45] else [43]) ++ dec m.natAbs
  | _ => ((if m < 0 then [45] else []) ++ List.replicate (8 - (if m < 0 then 1 else 0) - (dec m.natAbs).length) 48) ++ dec m.natAbs

theorem call_intS {C : Cx} {A : Around} {m : Str → Option Value} {news : Led} {p : Nat} (hp : p ≤ 3) {xs : List Value} (hx : Reps news [.str [48 + p]] xs) : Go C A m news (call (.type "int") xs) fun n z => Rep n (.int p) z := by
  cases hx with
  | cons h1 h2 =>
    cases h2; cases h1
    refine .still fun s Q E h => PySem.W.KIN.call_text (n := p) ?_ (by rw [str_len]; simp) (h _ _ (.int _ _))
    have : p = 0 ∨ p = 1 ∨ p = 2 ∨ p = 3 := by omega
    rcases this with rfl | rfl | rfl | rfl <;> decide +kernel

theorem op_neg {C : Cx} {A : Around} {m : Str → Option Value} {news : Led} {a : Int} {x : Value} (hx : Rep news (.int a) x) : Go C A m news (unaryOp .USub x) fun n z => Rep n (.int (-a)) z := by
  cases hx; exact .still fun s Q E h => neg_int (h _ _ (.int _ _))
theorem Ev.neg {C : Cx} {ρ : List V} {x : Expr} {pos : Pos} {a : Int} (hx : Ev C x ρ (.int a)) : Ev C (.UnaryOp .USub x pos) ρ (.int (-a)) := fun m news g s Q E F N hq =>
  UnaryOp_ (hx m news g s _ E F N fun y n1 h1 tk1 s1 r1 F1 N1 => op_neg r1 _ Q E F1 N1 fun z n2 h2 tk2 s2 r2 F2 N2 => hq z n2 h2 tk2 (s1.trans s2) r2 F2 N2)

set_option maxHeartbeats 2000000 in
theorem decimal_fn (sl : Addr) (sns : List Int) (n : Int) (k : Nat) (hn : n.natAbs ≤ 80000) : Fn sl sns 95 3 [.int n, .str (pform k)] (.str (lawDecimal n k)) := by
  refine Fn.mk [Str.ofString "n", Str.ofString "form"] [Str.ofString "n", Str.ofString "form"] 0 (fun w => by rfl) (fun w => by rfl) (fun xs h => ?_) (by decide +kernel) (by decide +kernel) (by decide +kernel) rfl rfl rfl rfl (by decide +kernel) ?_
  · match xs, h with
    | [a, b], _ => rfl
  · intro C hsl hsns ok nm hcs hnames
    have N : ∀ {i : Nat} {x : Str}, [Str.ofString "n", Str.ofString "form"][i]? = some x → C.names[i]? = some x := fun h => by rw [hnames]; exact h
    by_cases hk : k = 0
    · subst hk
      exact Ex.iteR (c := true) (Tst.cmp (Ev.nm nm 1 (N rfl) rfl) (Ev.str (l := [103]) (by decide +kernel)) fun _ _ _ _ => cmp_eqS) (fun _ => Ex.consR (Ex1.ret (Ev.callF ok (keep_fn (by decide) C.w) (Ev.gl ok hcs g_law_six) (Evs.cons (Ev.nm nm 0 (N rfl) rfl) Evs.nil) fun m nn xs hx => six_fn sl sns n hn C m nn xs hsl hsns ok hx))) (fun h => by cases h) rfl
    · have hf : ∃ p cm pl, p ≤ 3 ∧ (pform k == [103]) = false ∧ (seqIndex? (-2) (pform k).length).bind ((pform k)[·]?) = some (48 + p) ∧ (pform k).contains 44 = cm ∧ (pform k).contains 43 = pl ∧ (pform k).length < 10 ∧ lawDecimal n k = lawFixed n p cm pl := by
        match k, hk with
        | 1, _ => exact ⟨0, false, false, by decide, by decide, by decide, by decide, by decide, by decide, rfl⟩
        | 2, _ => exact ⟨1, false, false, by decide, by decide, by decide, by decide, by decide, by decide, rfl⟩
        | 3, _ => exact ⟨2, false, false, by decide, by decide, by decide, by decide, by decide, by decide, rfl⟩
        | 4, _ => exact ⟨3, false, false, by decide, by decide, by decide, by decide, by decide, by decide, rfl⟩
        | 5, _ => exact ⟨2, false, true, by decide, by decide, by decide, by decide, by decide, by decide, rfl⟩
        | _ + 6, _ => exact ⟨1, true, false, by decide, rfl, rfl, rfl, rfl, (by show 4 < 10; decide), rfl⟩
      obtain ⟨p, cm, pl, hp, hne, hix, hcm, hpl, hlen, he⟩ := hf
      rw [he]
      refine Ex.iteR (c := false) (Tst.cmp (Ev.nm nm 1 (N rfl) rfl) (Ev.str (l := [103]) (by decide +kernel)) fun m _ x y hx hy => ?_) (fun h => by cases h) (fun _ => Ex.consR (Ex1.ret ?_)) rfl
      · have := cmp_eqS (C := C) (A := C.A) (m := m) hx hy
        rwa [hne] at this
      · refine Ev.callF ok (keep_fn (by decide) C.w) (Ev.gl ok hcs g_law_fixed) (Evs.cons (Ev.nm nm 0 (N rfl) rfl) (Evs.cons (v := .int p) (Ev.callT (Ev.bl ok hcs g_int b_int) (Evs.cons (Ev.itemS (Ev.nm nm 1 (N rfl) rfl) (Ev.neg Ev.int) (by omega) hix) Evs.nil) fun _ _ _ => call_intS hp) (Evs.cons (v := .bool cm) (Ev.cmp (Ev.str (l := [44]) (by decide +kernel)) (Ev.nm nm 1 (N rfl) rfl) fun m _ x y hx hy => ?_) (Evs.cons (v := .bool pl) (Ev.cmp (Ev.str (l := [43]) (by decide +kernel)) (Ev.nm nm 1 (N rfl) rfl) fun m _ x y hx hy => ?_) Evs.nil)))) fun m nn xs hx => fixed_fn sl sns n p cm pl hn (by omega) C m nn xs hsl hsns (ok.le (by omega)) hx
        · have := cmp_in (C := C) (A := C.A) (m := m) hx hy
          rwa [hcm] at this
        · have := cmp_in (C := C) (A := C.A) (m := m) hx hy
          rwa [hpl] at this

theorem numPart_len (n : Int) (long : Bool) : (numPart n long).length ≤ 20 := by
  unfold numPart
  have h1 : (dec (n.natAbs % 8 * 125)).length ≤ 3 := dec_len_le 2 _ (by omega)
  have h2 := padTo_len 3 (dec (n.natAbs % 8 * 125))
  have h3 := cutEnd_len 48 (padTo 3 (dec (n.natAbs % 8 * 125)))
  simp only
  split
  · omega
  · split
    · simp
    · omega

set_option maxHeartbeats 2000000 in
theorem numeral_fn (sl : Addr) (sns : List Int) (n : Int) (long comma : Bool) (hn : n.natAbs ≤ 80000) : Fn sl sns 102 1 [.int n, .bool long, .bool comma] (.str (lawNumeral n long comma)) := by
  refine Fn.mk [Str.ofString "n", Str.ofString "long_one", Str.ofString "comma", Str.ofString "whole", Str.ofString "part"] [Str.ofString "n", Str.ofString "long_one", Str.ofString "comma"] 2 (fun w => by rfl) (fun w => by rfl) (fun xs h => ?_) (by decide +kernel) (by decide +kernel) (by decide +kernel) rfl rfl rfl rfl (by decide +kernel) ?_
  · match xs, h with
    | [a, b, c], _ => rfl
  · intro C hsl hsns ok nm hcs hnames
    have N : ∀ {i : Nat} {x : Str}, [Str.ofString "n", Str.ofString "long_one", Str.ofString "comma", Str.ofString "whole", Str.ofString "part"][i]? = some x → C.names[i]? = some x := fun h => by rw [hnames]; exact h
    let w := n.natAbs / 8
    let p0 := dec (n.natAbs % 8 * 125)
    have hp0 : p0.length ≤ 3 := dec_len_le 2 _ (by omega)
    let p1 := padTo 3 p0
    have hp1 : p1.length ≤ 6 := by have := padTo_len 3 p0; show (padTo 3 p0).length ≤ 6; omega
    have hwl : (dec w).length ≤ 5 := dec_len_le 4 w (by show n.natAbs / 8 < _; omega)
    have hp2 := numPart_len n long
    refine Ex.cons (ρ' := [.int n, .bool long, .bool comma, .int w, .str p0])
      (Ex1.assignS (vs := [.int w, .str p0]) [Str.ofString "whole", Str.ofString "part"] [3, 4] nm (by rw [hnames]; rfl) rfl
        (Ev.tuple (Evs.cons (v := .int w) (Ev.bin (Ev.callB (Ev.bl ok hcs g_abs b_abs) (Evs.cons (Ev.nm nm 0 (N rfl) rfl) Evs.nil) fun _ _ _ => call_abs) Ev.int fun _ _ _ _ => op_div (by decide) (by decide))
          (Evs.cons (v := .str p0) (Ev.callT (Ev.bl ok hcs g_str b_str) (Evs.cons (v := .int ((n.natAbs % 8 * 125 : Nat) : Int)) (Ev.bin (Ev.bin (Ev.callB (Ev.bl ok hcs g_abs b_abs) (Evs.cons (Ev.nm nm 0 (N rfl) rfl) Evs.nil) fun _ _ _ => call_abs) Ev.int fun _ _ _ _ => op_mod (by decide)) Ev.int fun _ _ _ _ => op_mul (mulOk_small (by decide))) Evs.nil) fun m nn xs hx => ?_) Evs.nil)) (by simp)) rfl
        (by show swappedStores _ _ (envX C.cn C.cs C.L C.a C.ccd C.cl) = _; rw [hcs]; rfl)) ?_
    · have := call_str (C := C) (A := C.A) (m := m) (by omega) hx
      rwa [txt_nat] at this
    refine Ex.cons (ρ' := [.int n, .bool long, .bool comma, .int w, .str p1])
      (Ex1.assign 4 nm (N rfl) (v := .str p1) (Ev.bin (a := .str (List.replicate (3 - p0.length) 48)) (Ev.bin (Ev.str (l := [48]) (by decide +kernel)) (Ev.bin Ev.int (Ev.callB (Ev.bl ok hcs g_len b_len) (Evs.cons (Ev.nm nm 4 (N rfl) rfl) Evs.nil) fun _ _ _ => call_len (by omega)) fun _ _ _ _ => op_sub) fun m _ x y hx hy => ?_) (Ev.nm nm 4 (N rfl) rfl) fun _ _ _ _ => op_cat (by simp; omega))) ?_
    · have := op_rep (C := C) (A := C.A) (m := m) (by omega) (by omega) hx hy
      rwa [show (3 - (p0.length : Int)).toNat = 3 - p0.length by omega] at this
    refine Ex.cons (ρ' := [.int n, .bool long, .bool comma, .int w, .str (numPart n long)])
      (Ex1.assign 4 nm (N rfl) (v := .str (numPart n long)) (Ev.ite (c := long) (Tst.plain (Ev.nm nm 1 (N rfl) rfl) fun _ _ _ => tr_bool) (fun hc => ?_) (fun hc => ?_))) ?_
    · have : numPart n long = p1 := by unfold numPart; rw [if_pos hc]
      rw [this]; exact Ev.nm nm 4 (N rfl) rfl
    · have e : numPart n long = if (cutEnd 48 p1).isEmpty then [48] else cutEnd 48 p1 := by unfold numPart; rw [if_neg (by simp [hc])]
      have h3 := cutEnd_len 48 p1
      refine Ev.or (v := .str (cutEnd 48 p1)) (w := .str [48]) (c := !(cutEnd 48 p1).isEmpty) (Ev.meth (Ev.nm nm 4 (N rfl) rfl) (Evs.cons (Ev.str (l := [48]) (by decide +kernel)) Evs.nil) (fun _ _ _ _ _ _ h => GM.rstrip h) (fun _ _ _ => call_rstrip (by omega)) _ (by rfl)) (fun _ _ _ => tr_str (by omega)) (fun _ => Ev.str (by decide +kernel)) _ (fun hc2 => ?_) (fun hc2 => ?_)
      · rw [e, if_neg (by simpa using hc2)]
      · rw [e, if_pos (by simpa using hc2)]
    refine Ex.consR (Ex1.ret (v := .str (lawNumeral n long comma)) (Ev.bin (a := .str (((if n < 0 then [45] else []) ++ (if comma then lawGroup (dec w) else dec w)) ++ [46])) (Ev.bin (a := .str ((if n < 0 then [45] else []) ++ (if comma then lawGroup (dec w) else dec w))) (Ev.bin (a := .str (if n < 0 then [45] else [])) (b := .str (if comma then lawGroup (dec w) else dec w)) (Ev.ite (Tst.cmp (Ev.nm nm 0 (N rfl) rfl) Ev.int fun _ _ _ _ => cmp_lt) (fun hc => ?_) (fun hc => ?_)) (Ev.ite (c := comma) (Tst.plain (Ev.nm nm 2 (N rfl) rfl) fun _ _ _ => tr_bool) (fun hc => ?_) (fun hc => ?_)) fun _ _ _ _ => op_cat ?_) (Ev.str (l := [46]) (by decide +kernel)) fun _ _ _ _ => op_cat ?_) (Ev.nm nm 4 (N rfl) rfl) fun _ _ _ _ => op_cat ?_))
    · rw [if_pos (by simpa using hc)]; exact Ev.str (by decide +kernel)
    · rw [if_neg (by simpa using hc)]; exact Ev.str (by decide +kernel)
    · rw [if_pos hc]
      refine Ev.callF ok (keep_fn (by decide) C.w) (Ev.gl ok hcs g_law_group) (Evs.cons (v := .str (dec w)) (Ev.callT (Ev.bl ok hcs g_str b_str) (Evs.cons (Ev.nm nm 3 (N rfl) rfl) Evs.nil) fun m nn xs hx => ?_) Evs.nil) fun m nn xs hx => group_fn sl sns (dec w) (by omega) C m nn xs hsl hsns ok hx
      have := call_str (C := C) (A := C.A) (m := m) (by show n.natAbs / 8 < _; omega) hx
      rwa [txt_nat] at this
    · rw [if_neg (by simp [hc])]
      refine Ev.callT (Ev.bl ok hcs g_str b_str) (Evs.cons (Ev.nm nm 3 (N rfl) rfl) Evs.nil) fun m nn xs hx => ?_
      have := call_str (C := C) (A := C.A) (m := m) (by show n.natAbs / 8 < _; omega) hx
      rwa [txt_nat] at this
    all_goals
      have hg := outAt_len (dec w) (dec w).length
      have a1 : (if n < 0 then [45] else ([] : List Nat)).length ≤ 1 := by split <;> simp
      have a2 : (if comma = true then lawGroup (dec w) else dec w).length ≤ 40 := by unfold lawGroup; split <;> omega
      (try simp only [List.length_append, List.length_cons, List.length_nil])
      omega
end Mine

end
section
open PySem PySem.W PyProof.Rows PySem.Calls
set_option maxRecDepth 100000
set_option linter.unusedVariables false
namespace Mine

theorem Ev.valStr {C : Cx} {ρ : List V} {e : Expr} {x : Str} {l : List Nat} {t : Tok} (h : Ev C e ρ (.val (.str x t))) (hx : x = ⟨l.toArray⟩) : Ev C e ρ (.str l) := fun m news g s Q E F N hq =>
  h m news g s Q E F N fun y n h' tk sub r F' N' => hq y n h' tk sub (by cases r; subst hx; exact .str _ _) F' N'

theorem baseLen_spec (b n : Nat) (hb : 2 ≤ b) : ∀ f i, n < b ^ (i + f) → (n / b ^ (baseLen b n f i) = 0 ∧ ∀ j, i ≤ j → j < baseLen b n f i → n / b ^ j ≠ 0) ∧ i ≤ baseLen b n f i ∧ baseLen b n f i ≤ i + f := by
  intro f
  induction f with
  | zero =>
    intro i h
    unfold baseLen
    exact ⟨⟨Nat.div_eq_of_lt h, fun j h1 h2 => by omega⟩, by omega, by omega⟩
  | succ f ih =>
    intro i h
    unfold baseLen
    split
    · rename_i h0
      exact ⟨⟨h0, fun j h1 h2 => by omega⟩, by omega, by omega⟩
    · rename_i h0
      obtain ⟨⟨a, b'⟩, c, d⟩ := ih (i + 1) (by rw [show i + 1 + f = i + (f + 1) by omega]; exact h)
      refine ⟨⟨a, fun j h1 h2 => ?_⟩, by omega, by omega⟩
      by_cases hj : j = i
      · subst hj; exact h0
      · exact b' j (by omega) h2
theorem baseAt_len (b n : Nat) : ∀ i, (baseAt b n i).length = i := by
  intro i
  induction i with
  | zero => rfl
  | succ i ih => unfold baseAt; simp [ih]

set_option maxHeartbeats 2000000 in
theorem base_fn (sl : Addr) (sns : List Int) (z : Int) (b : Nat) (hz : z.natAbs < 2 ^ 60) (hb : b = 2 ∨ b = 16) : Fn sl sns 109 1 [.int z, .int b] (.str (lawInBase z b)) := by
  refine Fn.mk [Str.ofString "m", Str.ofString "base", Str.ofString "t", Str.ofString "rest"] [Str.ofString "m", Str.ofString "base"] 2 (fun w => by rfl) (fun w => by rfl) (fun xs h => ?_) (by decide +kernel) (by decide +kernel) (by decide +kernel) rfl rfl rfl rfl (by decide +kernel) ?_
  · match xs, h with
    | [a, b], _ => rfl
  · intro C hsl hsns ok nm hcs hnames
    have N : ∀ {i : Nat} {x : Str}, [Str.ofString "m", Str.ofString "base", Str.ofString "t", Str.ofString "rest"][i]? = some x → C.names[i]? = some x := fun h => by rw [hnames]; exact h
    have hb2 : 2 ≤ b ∧ b ≤ 16 := by omega
    have hlt : z.natAbs < b ^ (0 + 64) := Nat.lt_of_lt_of_le hz (Nat.le_trans (Nat.pow_le_pow_right (by decide) (by decide)) (Nat.pow_le_pow_left hb2.1 _))
    obtain ⟨⟨hT0, hTp⟩, _, hT64⟩ := baseLen_spec b z.natAbs hb2.1 64 0 hlt
    let T := baseLen b z.natAbs 64 0
    have hT : T ≤ 64 := by show baseLen b z.natAbs 64 0 ≤ 64; omega
    let t := baseAt b z.natAbs T
    have htl : t.length = T := baseAt_len _ _ _
    refine Ex.cons (ρ' := [.int z, .int b, .str [], .int z.natAbs])
      (Ex1.assignS (vs := [.str [], .int z.natAbs]) [Str.ofString "t", Str.ofString "rest"] [2, 3] nm (by rw [hnames]; rfl) rfl
        (Ev.tuple (Evs.cons (Ev.str (by decide +kernel)) (Evs.cons (Ev.callB (Ev.bl ok hcs g_abs b_abs) (Evs.cons (Ev.nm nm 0 (N rfl) rfl) Evs.nil) fun _ _ _ => call_abs) Evs.nil)) (by simp)) rfl
        (by show swappedStores _ _ (envX C.cn C.cs C.L C.a C.ccd C.cl) = _; rw [hcs]; rfl)) ?_
    refine Ex.cons (ρ' := [.int z, .int b, .str t, .int ((z.natAbs / b ^ T : Nat) : Int)]) (Ex1.while_ (fun i => [.int z, .int b, .str (baseAt b z.natAbs i), .int ((z.natAbs / b ^ i : Nat) : Int)]) T (by simp [baseAt]) (fun i hi => ?_) (fun i hi => ?_) ?_) ?_
    · have h1 : z.natAbs / b ^ i ≠ 0 := hTp i (by omega) hi
      have e : (true : Bool) = decide ((0 : Int) < ((z.natAbs / b ^ i : Nat) : Int)) := by rw [eq_comm, decide_eq_true_eq]; generalize z.natAbs / b ^ i = q at h1; omega
      rw [e]
      exact Tst.cmp (Ev.nm nm 3 (N rfl) rfl) Ev.int fun _ _ _ _ => cmp_gt
    · have hr : ((z.natAbs / b ^ i : Nat) : Int) % (b : Int) = ((z.natAbs / b ^ i % b : Nat) : Int) := (Int.natCast_emod _ _).symm
      have hlt2 : z.natAbs / b ^ i % b < 16 := Nat.lt_of_lt_of_le (Nat.mod_lt _ (by omega)) hb2.2
      have hd : ((z.natAbs / b ^ i : Nat) : Int) / (b : Int) = ((z.natAbs / b ^ (i + 1) : Nat) : Int) := by rw [Nat.pow_succ, ← Nat.div_div_eq_div_mul]; exact (Int.natCast_ediv _ _).symm
      refine Ex.cons (ρ' := [.int z, .int b, .str (baseAt b z.natAbs (i + 1)), .int ((z.natAbs / b ^ (i + 1) : Nat) : Int)])
        (Ex1.assignS (vs := [.str (baseAt b z.natAbs (i + 1)), .int ((z.natAbs / b ^ (i + 1) : Nat) : Int)]) [Str.ofString "t", Str.ofString "rest"] [2, 3] nm (by rw [hnames]; rfl) rfl
          (Ev.tuple (Evs.cons (v := .str (baseAt b z.natAbs (i + 1))) ?_ (Evs.cons (v := .int ((z.natAbs / b ^ (i + 1) : Nat) : Int)) ?_ Evs.nil)) (by simp)) rfl
          (by show swappedStores _ _ (envX C.cn C.cs C.L C.a C.ccd C.cl) = _; rw [hcs]; rfl)) Ex.nil
      · show Ev C _ _ (.str ([figs.getD (z.natAbs / b ^ i % b) 0] ++ baseAt b z.natAbs i))
        refine Ev.bin (Ev.itemS (a := figs) (k := ((z.natAbs / b ^ i % b : Nat) : Int)) (Ev.valStr (Ev.gl ok hcs g_figs) (by decide +kernel)) ?_ (by decide) ?_) (Ev.nm nm 2 (N rfl) rfl) fun _ _ _ _ => op_cat (by rw [baseAt_len]; simp; omega)
        · rw [← hr]
          exact Ev.bin (Ev.nm nm 3 (N rfl) rfl) (Ev.nm nm 1 (N rfl) rfl) fun _ _ _ _ => op_mod (by omega)
        · generalize z.natAbs / b ^ i % b = d at hlt2
          have : ∀ d : Fin 16, ((seqIndex? ((d.val : Nat) : Int) figs.length).bind fun x => figs[x]?) = some (figs.getD d.val 0) := by decide
          exact this ⟨d, hlt2⟩
      · rw [← hd]
        exact Ev.bin (Ev.nm nm 3 (N rfl) rfl) (Ev.nm nm 1 (N rfl) rfl) fun _ _ _ _ => op_div (by omega) (by omega)
    · have e : (false : Bool) = decide ((0 : Int) < ((z.natAbs / b ^ T : Nat) : Int)) := by
        have h1 : z.natAbs / b ^ T = 0 := hT0
        rw [eq_comm, decide_eq_false_iff_not, h1]; decide
      show Tst C _ [.int z, .int b, .str (baseAt b z.natAbs T), .int ((z.natAbs / b ^ T : Nat) : Int)] false
      rw [e]
      exact Tst.cmp (Ev.nm nm 3 (N rfl) rfl) Ev.int fun _ _ _ _ => cmp_gt
    · refine Ex.consR (Ex1.ret (v := .str ((if z < 0 then [45] else []) ++ (if t.isEmpty then [48] else t))) (Ev.bin (a := .str (if z < 0 then [45] else [])) (b := .str (if t.isEmpty then [48] else t)) (Ev.ite (Tst.cmp (Ev.nm nm 0 (N rfl) rfl) Ev.int fun _ _ _ _ => cmp_lt) (fun hc => ?_) (fun hc => ?_)) (Ev.or (c := !t.isEmpty) (Ev.nm nm 2 (N rfl) rfl) (fun _ _ _ => tr_str (by omega)) (fun _ => Ev.str (l := [48]) (by decide +kernel)) _ (fun hc => ?_) (fun hc => ?_)) fun _ _ _ _ => op_cat ?_))
      · rw [if_pos (by simpa using hc)]; exact Ev.str (by decide +kernel)
      · rw [if_neg (by simpa using hc)]; exact Ev.str (by decide +kernel)
      · rw [if_neg (by simpa using hc)]
      · rw [if_pos (by simpa using hc)]
      · have a1 : (if z < 0 then [45] else ([] : List Nat)).length ≤ 1 := by split <;> simp
        have a2 : (if t.isEmpty = true then [48] else t).length ≤ 65 := by
          split
          · simp
          · omega
        omega

set_option maxHeartbeats 2000000 in
theorem whole_fn (sl : Addr) (sns : List Int) (z : Int) (k : Nat) (hz : z.natAbs < 10 ^ 15) : Fn sl sns 116 2 [.int z, .str (wform k)] (.str (lawWhole z k)) := by
  refine Fn.mk [Str.ofString "m", Str.ofString "form", Str.ofString "bare", Str.ofString "sign"] [Str.ofString "m", Str.ofString "form"] 2 (fun w => by rfl) (fun w => by rfl) (fun xs h => ?_) (by decide +kernel) (by decide +kernel) (by decide +kernel) rfl rfl rfl rfl (by decide +kernel) ?_
  · match xs, h with
    | [a, b], _ => rfl
  · intro C hsl hsns ok nm hcs hnames
    have N : ∀ {i : Nat} {x : Str}, [Str.ofString "m", Str.ofString "form", Str.ofString "bare", Str.ofString "sign"][i]? = some x → C.names[i]? = some x := fun h => by rw [hnames]; exact h
    have ok1 : C.Ok (1 + 1) := ok
    have ok0 : C.Ok (0 + 1) := ok.le (by omega)
    have hl : (dec z.natAbs).length ≤ 15 := dec_len_le 14 _ hz
    have hg : (lawGroup (dec z.natAbs)).length ≤ 30 := by have := outAt_len (dec z.natAbs) (dec z.natAbs).length; unfold lawGroup; omega
    have eqf : ∀ (ρ : List V) (l : List Nat) (x : Str) (pos pos' : Pos) (kk : Nat) (c : Bool), ρ[1]? = some (.str (wform k)) → x = ⟨l.toArray⟩ → (wform k == l) = c → Tst C (.Compare (.Name (Str.ofString "form") pos) [.Eq] [.Constant (.str x) kk pos'] pos) ρ c → True := fun _ _ _ _ _ _ _ _ _ _ _ => trivial
    have feq : ∀ {ρ : List V} {l : List Nat} {x : Str} {p1 p2 p3 : Pos} {kk : Nat}, ρ[1]? = some (.str (wform k)) → x = ⟨l.toArray⟩ → Tst C (.Compare (.Name (Str.ofString "form") p1) [.Eq] [.Constant (.str x) kk p2] p3) ρ (wform k == l) := fun h1 h2 => Tst.cmp (Ev.nm nm 1 (N rfl) h1) (Ev.str h2) fun _ _ _ _ => cmp_eqS
    by_cases h23 : k = 2 ∨ k = 3
    · let b : Nat := if k = 2 then 2 else 16
      have hb : b = 2 ∨ b = 16 := by show (if k = 2 then 2 else 16) = 2 ∨ (if k = 2 then 2 else 16) = 16; split <;> simp
      have he : lawWhole z k = lawInBase z b := by
        rcases h23 with rfl | rfl <;> rfl
      rw [he]
      refine Ex.iteR (c := (wform k == [98]) || ((wform k == [120]) || false)) (Tst.bool (TstB.or (feq rfl (by decide +kernel)) fun _ => TstB.or (feq rfl (by decide +kernel)) fun _ => TstB.or_nil)) (fun _ => Ex.consR (Ex1.ret (Ev.callF ok (keep_fn (by decide) C.w) (Ev.gl ok hcs g_law_in_base) (Evs.cons (Ev.nm nm 0 (N rfl) rfl) (Evs.cons (v := .int b) (Ev.ite (c := wform k == [98]) (feq rfl (by decide +kernel)) (fun hc => ?_) (fun hc => ?_)) Evs.nil)) fun m nn xs hx => base_fn sl sns z b (by omega) hb C m nn xs hsl hsns ok1 hx))) (fun h => ?_) rfl
      · have : k = 2 := by rcases h23 with rfl | rfl; rfl; exact absurd hc (by decide)
        subst this; exact Ev.int
      · have : k = 3 := by rcases h23 with rfl | rfl; exact absurd hc (by decide); rfl
        subst this; exact Ev.int
      · exfalso; rcases h23 with rfl | rfl <;> exact absurd h (by decide)
    · have hne : (wform k == [98]) = false ∧ (wform k == [120]) = false := by
        match k, h23 with
        | 0, _ => exact ⟨rfl, rfl⟩
        | 1, _ => exact ⟨rfl, rfl⟩
        | 2, h => exact absurd (.inl rfl) h
        | 3, h => exact absurd (.inr rfl) h
        | 4, _ => exact ⟨rfl, rfl⟩
        | _ + 5, _ => exact ⟨rfl, rfl⟩
      refine Ex.iteR (c := (wform k == [98]) || ((wform k == [120]) || false)) (Tst.bool (TstB.or (feq rfl (by decide +kernel)) fun _ => TstB.or (feq rfl (by decide +kernel)) fun _ => TstB.or_nil)) (fun h => by rw [hne.1, hne.2] at h; cases h) (fun _ => ?_) rfl
      let bare := dec z.natAbs
      let sign : List Nat := if z < 0 then [45] else []
      have hsl1 : sign.length = if z < 0 then 1 else 0 := by show (if z < 0 then [45] else ([] : List Nat)).length = _; split <;> rfl
      have hsle : sign.length ≤ 1 := by rw [hsl1]; split <;> omega
      refine Ex.cons (ρ' := [.int z, .str (wform k), .str bare, .undef]) (Ex1.assign 2 nm (N rfl) (v := .str bare) (Ev.callT (Ev.bl ok hcs g_str b_str) (Evs.cons (Ev.callB (Ev.bl ok hcs g_abs b_abs) (Evs.cons (Ev.nm nm 0 (N rfl) rfl) Evs.nil) fun _ _ _ => call_abs) Evs.nil) fun m nn xs hx => ?_)) ?_
      · have := call_str (C := C) (A := C.A) (m := m) (by omega) hx
        rwa [txt_nat] at this
      refine Ex.cons (ρ' := [.int z, .str (wform k), .str bare, .str sign]) (Ex1.assign 3 nm (N rfl) (v := .str sign) (Ev.ite (Tst.cmp (Ev.nm nm 0 (N rfl) rfl) Ev.int fun _ _ _ _ => cmp_lt) (fun hc => ?_) (fun hc => ?_))) ?_
      · rw [show sign = [45] from if_pos (by simpa using hc)]; exact Ev.str (by decide +kernel)
      · rw [show sign = [] from if_neg (by simpa using hc)]; exact Ev.str (by decide +kernel)
      refine Ex.iteR (feq rfl (l := [44]) (by decide +kernel)) (fun hc => Ex.consR (Ex1.ret ?_)) (fun hc1 => Ex.iteR (feq rfl (l := [43]) (by decide +kernel)) (fun hc => Ex.consR (Ex1.ret ?_)) (fun hc2 => Ex.iteR (feq rfl (l := [48, 56]) (by decide +kernel)) (fun hc => Ex.consR (Ex1.ret ?_)) (fun hc3 => Ex.consR (Ex1.ret ?_)) rfl) rfl) rfl
      · have e : lawWhole z k = sign ++ lawGroup bare := by
          match k, h23, hc with
          | 1, _, _ => rfl
          | 0, _, h => exact absurd h (by decide)
          | 4, _, h => exact absurd h (by decide)
          | 2, h, _ => exact absurd (.inl rfl) h
          | 3, h, _ => exact absurd (.inr rfl) h
          | _ + 5, _, h => exact absurd (show ([48, 56] == [44]) = true from h) (by decide)
        rw [e]
        exact Ev.bin (Ev.nm nm 3 (N rfl) rfl) (Ev.callF ok (keep_fn (by decide) C.w) (Ev.gl ok hcs g_law_group) (Evs.cons (Ev.nm nm 2 (N rfl) rfl) Evs.nil) fun m nn xs hx => group_fn sl sns bare (by show (dec z.natAbs).length ≤ _; omega) C m nn xs hsl hsns ok0 hx) fun _ _ _ _ => op_cat (by show sign.length + (lawGroup (dec z.natAbs)).length ≤ _; omega)
      · have e : lawWhole z k = (if sign.isEmpty then [43] else sign) ++ bare := by
          match k, h23, hc with
          | 4, _, _ => show (if z < 0 then [45] else [43]) ++ _ = (if (if z < 0 then [45] else ([] : List Nat)).isEmpty = true then [43] else (if z < 0 then [45] else [])) ++ _; split <;> rfl
          | 0, _, h => exact absurd h (by decide)
          | 1, _, h => exact absurd h (by decide)
          | 2, h, _ => exact absurd (.inl rfl) h
          | 3, h, _ => exact absurd (.inr rfl) h
          | _ + 5, _, h => exact absurd (show ([48, 56] == [43]) = true from h) (by decide)
        rw [e]
        refine Ev.bin (a := .str (if sign.isEmpty then [43] else sign)) (Ev.or (c := !sign.isEmpty) (Ev.nm nm 3 (N rfl) rfl) (fun _ _ _ => tr_str (by omega)) (fun _ => Ev.str (l := [43]) (by decide +kernel)) _ (fun hc => ?_) (fun hc => ?_)) (Ev.nm nm 2 (N rfl) rfl) fun _ _ _ _ => op_cat ?_
        · rw [if_neg (by simpa using hc)]
        · rw [if_pos (by simpa using hc)]
        · have a2 : (if sign.isEmpty = true then [43] else sign).length ≤ 1 := by
            split
            · simp
            · omega
          show _ + (dec z.natAbs).length ≤ _
          omega
      · have e : lawWhole z k = (sign ++ List.replicate (8 - sign.length - bare.length) 48) ++ bare := by
          match k, h23, hc with
          | _ + 5, _, _ => rw [hsl1]; rfl
          | 0, _, h => exact absurd h (by decide)
          | 1, _, h => exact absurd h (by decide)
          | 4, _, h => exact absurd h (by decide)
          | 2, h, _ => exact absurd (.inl rfl) h
          | 3, h, _ => exact absurd (.inr rfl) h
        rw [e]
        have hbl : bare.length ≤ 15 := hl
        refine Ev.bin (a := .str (sign ++ List.replicate (8 - sign.length - bare.length) 48)) (Ev.bin (b := .str (List.replicate (8 - sign.length - bare.length) 48)) (Ev.nm nm 3 (N rfl) rfl) (Ev.bin (Ev.str (l := [48]) (by decide +kernel)) (Ev.bin (Ev.bin Ev.int (Ev.callB (Ev.bl ok hcs g_len b_len) (Evs.cons (Ev.nm nm 3 (N rfl) rfl) Evs.nil) fun _ _ _ => call_len (by omega)) fun _ _ _ _ => op_sub) (Ev.callB (Ev.bl ok hcs g_len b_len) (Evs.cons (Ev.nm nm 2 (N rfl) rfl) Evs.nil) fun _ _ _ => call_len (by omega)) fun _ _ _ _ => op_sub) fun m _ x y hx hy => ?_) fun _ _ _ _ => op_cat (by simp; omega)) (Ev.nm nm 2 (N rfl) rfl) fun _ _ _ _ => op_cat (by simp; omega)
        have := op_rep (C := C) (A := C.A) (m := m) (by omega) (by omega) hx hy
        rwa [show (8 - (sign.length : Int) - (bare.length : Int)).toNat = 8 - sign.length - bare.length by omega] at this
      · have e : lawWhole z k = sign ++ bare := by
          match k, h23, hc1, hc2, hc3 with
          | 0, _, _, _, _ => rfl
          | 1, _, h, _, _ => exact absurd h (by decide)
          | 4, _, _, h, _ => exact absurd h (by decide)
          | 2, h, _, _, _ => exact absurd (.inl rfl) h
          | 3, h, _, _, _ => exact absurd (.inr rfl) h
          | _ + 5, _, _, _, h => exact absurd (show ([48, 56] == [48, 56]) = false from h) (by decide)
        rw [e]
        exact Ev.bin (Ev.nm nm 3 (N rfl) rfl) (Ev.nm nm 2 (N rfl) rfl) fun _ _ _ _ => op_cat (by show sign.length + (dec z.natAbs).length ≤ _; omega)
end Mine

end
section
open PySem PySem.W PyProof.Rows PySem.Calls
set_option maxRecDepth 100000
set_option linter.unusedVariables false
namespace Mine
section
variable {C : Cx} {ρ : List V} {m : Str → Option Value} {news : Led} {A : Around}

theorem Ev.cast {e : Expr} {v w : V} (h : Ev C e ρ v) (hw : v = w) : Ev C e ρ w := hw ▸ h

theorem Ex1.assign2 {x y : Str} {px py : Pos} {k : Nat} {tp pos : Pos} {e : Expr} {v w : V} (i j : Nat) (nm : C.Nm) (hi : C.names[i]? = some x) (hj : C.names[j]? = some y) (h : Ev C e ρ (.tup [v, w]))
    (hs : swapsWithSole [.Tuple [.Name x px, .Name y py] k tp] e pos.line C.env = pure false := by rfl)
    (hw : swappedStores [.Tuple [.Name x px, .Name y py] k tp] e C.env = pure Option.none := by rfl) :
    Ex1 C (.Assign [.Tuple [.Name x px, .Name y py] k tp] e pos) ρ (.next ((ρ.set i v).set j w)) :=
  Ex1.assignT (xs := [(x, px), (y, py)]) (vs := [v, w]) [i, j] nm (by simp [hi, hj]) rfl h hs hw rfl rfl rfl

theorem isi_str {v : V} {b : Bool} {xs : List Value} (hv : (∃ l, v = .str l ∧ b = true) ∨ (∃ i, v = .int i ∧ b = false) ∨ (∃ c, v = .bool c ∧ b = false) ∨ (v = .none ∧ b = false)) (hx : Reps news [v, .val (.type "str")] xs) :
    Go C A m news (call (.builtin "isinstance") xs) fun n z => Rep n (.bool b) z := by
  cases hx with
  | cons h1 h2 => cases h2 with
    | cons h2 h3 =>
      cases h3; cases h2
      rcases hv with ⟨l, rfl, rfl⟩ | ⟨i, rfl, rfl⟩ | ⟨c, rfl, rfl⟩ | ⟨rfl, rfl⟩
      · cases h1; exact .still fun s Q E h => IsiPair.str_str (h _ s.toks (.bool _))
      · cases h1; exact .still fun s Q E h => IsiPair.int_str (h _ _ (.bool _))
      · cases h1; exact .still fun s Q E h => IsiPair.bool_str (h _ _ (.bool _))
      · cases h1; exact .still fun s Q E h => IsiPair.NoneType_str (h _ _ (.bool _))

def strOf : V → List Nat
  | .str l => l
  | .int i => txt (toString i)
  | .bool b => txt (if b then "True" else "False")
  | _ => []

theorem field_any {v : V} {x : Value} (hv : (∃ l, v = .str l ∧ l.length < 1000) ∨ (∃ i : Int, v = .int i ∧ i.natAbs < 1000) ∨ (∃ c, v = .bool c)) (hx : Rep news v x) :
    Go C A m news (formatField x Str.empty) fun n z => Rep n (.str (strOf v)) z := by
  rcases hv with ⟨l, rfl, hl⟩ | ⟨i, rfl, hi⟩ | ⟨c, rfl⟩
  · cases hx; exact .still fun s Q E h => PyProof.Rows.formatField_str (fun t' tk => h _ _ (.str _ _)) (by rw [str_len, line_is]; omega)
  · cases hx
    refine .still fun s Q E h => wpAny_formatField_int ?_ ?_
    · by_cases h0 : i.natAbs = 0
      · rw [h0]; decide
      · have := (Nat.log2_lt h0).mpr (show i.natAbs < 2 ^ 10 by omega); omega
    · rw [ofString_txt]; exact h _ _ (.str _ _)
  · cases hx
    refine .still fun s Q E h => wpAny_formatField_bool ?_
    cases c <;> (simp only [Bool.false_eq_true, if_true, if_false]; rw [ofString_txt]; exact h _ _ (.str _ _))

theorem Ev.fstr {e : Expr} {p1 p2 : Pos} {v : V} (he : Ev C e ρ v) (hv : (∃ l, v = .str l ∧ l.length < 1000) ∨ (∃ i : Int, v = .int i ∧ i.natAbs < 1000) ∨ (∃ c, v = .bool c)) :
    Ev C (.JoinedStr [.FormattedValue e (-1) Option.none p1] p2) ρ (.str (strOf v)) := fun m news g s Q E F N hq =>
  PyProof.Rows.JoinedStr_one (PyProof.Rows.FormattedValue_plain (he m news g s _ E F N fun x n1 h1 tk1 s1 r1 F1 N1 => field_any hv r1 _ Q E F1 N1 fun z n2 h2 tk2 s2 r2 F2 N2 => hq z n2 h2 tk2 (s1.trans s2) r2 F2 N2))

/-- an item of a tuple of the top -/
theorem Ev.itemK {n : Nat} (ok : C.Ok n) {e i : Expr} {pos : Pos} {a : Addr} {l : List Value} {j : Nat} {v : V} (hK : ∀ w, List.lookup a (K0 w) = some { cls := .type "tuple", data := .seq l.toArray }) (he : Ev C e ρ (.val (.ref a))) (hi : Ev C i ρ (.int j)) (hj : j < 1000)
    (hv : ∃ x, l[j]? = some x ∧ ∀ news, Rep news v x)
    (h1 : ∀ x j u, subscripted i false (.ref x) (.int j u) = operate [.ref x, .int j u] (getItem (.ref x) (.int j u)) := by intros; with_unfolding_all rfl) : Ev C (.Subscript e i pos) ρ v := fun m news g s Q E F N hq =>
  Subscript_ (he m news g s _ E F N fun x n1 h1' tk1 s1 r1 F1 N1 => hi m n1 (g.mono s1) _ _ E F1 N1 fun y n2 h2' tk2 s2 r2 F2 N2 => by
    cases r1; cases r2
    obtain ⟨x, hx, hr⟩ := hv
    have hlt : j < l.length := (List.getElem?_eq_some_iff.mp hx).1
    refine topTup_K F2 ok.X (hK C.w) (by omega) (by omega) (j := j) ?_ hx (hq x n2 h2' tk2 (s1.trans s2) (hr _) F2 N2) (h1 _ _ _)
    unfold seqIndex?
    simp only [if_neg (show ¬ (j : Int) < 0 by omega)]
    rw [if_pos (by simp; omega)]
    simp)

/-- an item of a tuple just made -/
theorem Ev.itemT {e i : Expr} {pos : Pos} {vs : List V} {j : Nat} {v : V} (he : Ev C e ρ (.tup vs)) (hi : Ev C i ρ (.int j)) (hj : j < 1000) (hv : vs[j]? = some v)
    (h1 : ∀ x j u, subscripted i false (.ref x) (.int j u) = operate [.ref x, .int j u] (getItem (.ref x) (.int j u)) := by intros; with_unfolding_all rfl)
    (h2 : True := trivial) : Ev C (.Subscript e i pos) ρ v := fun m news g s Q E F N hq =>
  Subscript_ (he m news g s _ E F N fun x n1 h1' tk1 s1 r1 F1 N1 => hi m n1 (g.mono s1) _ _ E F1 N1 fun y n2 h2' tk2 s2 r2 F2 N2 => by
    cases r2
    cases r1 with
    | tup _ a xs hm hr =>
    have get : ∀ {a : List V} {b : List Value} {i : Nat} {v : V}, Reps n1 a b → a[i]? = some v → ∃ y, b[i]? = some y ∧ Rep n1 v y := by
      intro a
      induction a with
      | nil => intro b i v h e; simp at e
      | cons w r ih =>
        intro b i v h e
        cases h with
        | cons p q =>
          cases i with
          | zero => simp at e; subst e; exact ⟨_, rfl, p⟩
          | succ i => simp at e; obtain ⟨y, e1, r1⟩ := ih q e; exact ⟨y, by simpa using e1, r1⟩
    obtain ⟨y, hy, ry⟩ := get hr hv
    have hlt : j < xs.length := (List.getElem?_eq_some_iff.mp hy).1
    refine item_tupleT (j := j) (N2.isTup (s2 _ hm)) (by omega) (by omega) ?_ hy (hq y n2 h2' tk2 (s1.trans s2) (ry.mono s2) F2 N2) (h1 _ _ _)
    unfold seqIndex?
    simp only [if_neg (show ¬ (j : Int) < 0 by omega)]
    rw [if_pos (by simp; omega)]
    simp)

/-- a try whose body does not raise -/
theorem Ex1.try_ {body : List Stmt} {h₀ : ExceptHandler} {hs : List ExceptHandler} {pos : Pos} {o : Out} (h : Ex C body ρ o) : Ex1 C (.Try body (h₀ :: hs) [] [] pos) ρ o := fun m news g s Q E F N hq =>
  wpAny_Try_except (h m news g s _ _ F N fun fl m' n' h' tk' sub oo F' N' => by
    cases o with
    | next ρ' =>
      obtain ⟨rfl, g'⟩ := oo
      exact wpAny_execs_nil (hq .next m' n' h' tk' sub ⟨rfl, g'⟩ F' N')
    | ret v =>
      obtain ⟨x, rfl, r⟩ := oo
      exact hq (.ret x) m' n' h' tk' sub ⟨x, rfl, r⟩ F' N')
end
end Mine

end
section
open PySem PySem.W PyProof.Rows PySem.Calls
set_option maxRecDepth 100000
set_option linter.unusedVariables false
namespace Mine

def lawWord : Nat → V
  | 0 => .str [115, 112, 97, 109] | 1 => .str [97, 32, 98] | 2 => .str [32, 120, 32] | 3 => .str [84, 114, 117, 101] | 4 => .str [70, 97, 108, 115, 101] | 5 => .str [45] | 6 => .str [55]
  | 7 => .int 7 | 8 => .bool true | _ => .str [27, 91, 51, 49, 109, 114, 101, 100, 27, 91, 48, 109]
def gapAt : Nat → List Nat
  | 0 => [] | 1 => [63] | 2 => [110, 47, 97] | _ => [32, 32]
def cellN (w : Int) : Int := w % 160001 - 80000
def redF : List Nat := [27, 91, 51, 49, 109]
def redB : List Nat := [27, 91, 48, 109]
def linkF : List Nat := [27, 93, 56, 59, 59, 104, 116, 116, 112, 58, 47, 47, 120, 27, 92]
def linkB : List Nat := [27, 93, 56, 59, 59, 27, 92]
def pointCell (w : Int) (pick k : Nat) (looks : Bool) : V × V :=
  let n := cellN w
  if pick < 4 then (.str (lawNumeral n (pick == 3) false), .str (lawDecimal n k))
  else if pick = 4 then (.str (lawNumeral n false true), .str (if (looks && (lawNumeral n false true).contains 44) = true then lawNumeral n false true else lawDecimal n k))
  else if pick < 7 then (.str (((if pick = 5 then redF else linkF) ++ lawNumeral n true false) ++ (if pick = 5 then redB else linkB)),
    .str (((if pick = 5 then redF else linkF) ++ (if looks = true then lawDecimal n k else lawNumeral n true false)) ++ (if pick = 5 then redB else linkB)))
  else if pick = 7 then (.int (n / 8), .str (lawDecimal (n / 8 * 8) k))
  else if pick = 8 then (.bool (w % 2 == 0), .str (lawDecimal (if w % 2 = 0 then 8 else 0) k))
  else (lawWord (w % 6).toNat, lawWord (w % 6).toNat)

def wordsL : List Value := [Value.str (Str.ofString "spam") 586, Value.str (Str.ofString "a b") 587,
              Value.str (Str.ofString " x ") 588, Value.str (Str.ofString "True") 589,
              Value.str (Str.ofString "False") 590, Value.str (Str.ofString "-") 591, Value.str (Str.ofString "7") 592,
              Value.int 7 593, Value.bool true, Value.str (Str.ofString "\x1b[31mred\x1b[0m") 594]
theorem k_words : ∀ w, List.lookup 60 (K0 w) = some { cls := .type "tuple", data := .seq wordsL.toArray } := fun w => by rfl
theorem rep_str {x : Str} {l : List Nat} {t : Tok} (h : x = ⟨l.toArray⟩) : ∀ news, Rep news (.str l) (.str x t) := fun news => by subst h; exact .str _ _
theorem word_rep {j : Nat} (hj : j < 10) : ∃ x, wordsL[j]? = some x ∧ ∀ news, Rep news (lawWord j) x := by
  match j, hj with
  | 0, _ => exact ⟨_, rfl, rep_str (by decide +kernel)⟩
  | 1, _ => exact ⟨_, rfl, rep_str (by decide +kernel)⟩
  | 2, _ => exact ⟨_, rfl, rep_str (by decide +kernel)⟩
  | 3, _ => exact ⟨_, rfl, rep_str (by decide +kernel)⟩
  | 4, _ => exact ⟨_, rfl, rep_str (by decide +kernel)⟩
  | 5, _ => exact ⟨_, rfl, rep_str (by decide +kernel)⟩
  | 6, _ => exact ⟨_, rfl, rep_str (by decide +kernel)⟩
  | 7, _ => exact ⟨_, rfl, fun _ => .int _ _⟩
  | 8, _ => exact ⟨_, rfl, fun _ => .bool _⟩
  | 9, _ => exact ⟨_, rfl, rep_str (by decide +kernel)⟩
  | _ + 10, h => omega

theorem decimal_len (n : Int) (k : Nat) (hn : n.natAbs ≤ 80000) : (lawDecimal n k).length ≤ 100 := by
  have six : (lawSix n).length ≤ 100 := by
    unfold lawSix
    have hp : (if n.natAbs / 8 > 0 then 6 - (dec (n.natAbs / 8)).length else 6) ≤ 6 := by split <;> omega
    have := fixed_len n _ false false hn hp
    simp only
    generalize lawFixed n (if n.natAbs / 8 > 0 then 6 - (dec (n.natAbs / 8)).length else 6) false false = t at *
    split
    · exact Nat.le_trans (cutEnd_len _ _) (Nat.le_trans (cutEnd_len _ _) this)
    · exact this
  match k with
  | 0 => exact six
  | 1 => exact fixed_len n 0 false false hn (by omega)
  | 2 => exact fixed_len n 1 false false hn (by omega)
  | 3 => exact fixed_len n 2 false false hn (by omega)
  | 4 => exact fixed_len n 3 false false hn (by omega)
  | 5 => exact fixed_len n 2 false true hn (by omega)
  | _ + 6 => exact fixed_len n 1 true false hn (by omega)
theorem numeral_len (n : Int) (long comma : Bool) (hn : n.natAbs ≤ 80000) : (lawNumeral n long comma).length ≤ 100 := by
  unfold lawNumeral
  have hp2 := numPart_len n long
  have hwl : (dec (n.natAbs / 8)).length ≤ 5 := dec_len_le 4 _ (by omega)
  have hg := outAt_len (dec (n.natAbs / 8)) (dec (n.natAbs / 8)).length
  have a1 : (if n < 0 then [45] else ([] : List Nat)).length ≤ 1 := by split <;> simp
  have a2 : (if comma = true then lawGroup (dec (n.natAbs / 8)) else dec (n.natAbs / 8)).length ≤ 40 := by unfold lawGroup; split <;> omega
  simp only [List.length_append, List.length_cons, List.length_nil]
  omega

set_option maxHeartbeats 4000000 in
theorem point_fn (sl : Addr) (sns : List Int) (w : Int) (pick k : Nat) (looks : Bool) (hp : pick < 10) : Fn sl sns 123 4 [.int w, .int pick, .str (pform k), .bool looks] (.tup [(pointCell w pick k looks).1, (pointCell w pick k looks).2]) := by
  refine Fn.mk [Str.ofString "w", Str.ofString "pick", Str.ofString "form", Str.ofString "looks", Str.ofString "n", Str.ofString "told", Str.ofString "t", Str.ofString "front", Str.ofString "back"] [Str.ofString "w", Str.ofString "pick", Str.ofString "form", Str.ofString "looks"] 5 (fun w => by rfl) (fun w => by rfl) (fun xs h => ?_) (by decide +kernel) (by decide +kernel) (by decide +kernel) rfl rfl rfl rfl (by decide +kernel) ?_
  · match xs, h with
    | [a, b, c, d], _ => rfl
  · intro C hsl hsns ok nm hcs hnames
    have N : ∀ {i : Nat} {x : Str}, [Str.ofString "w", Str.ofString "pick", Str.ofString "form", Str.ofString "looks", Str.ofString "n", Str.ofString "told", Str.ofString "t", Str.ofString "front", Str.ofString "back"][i]? = some x → C.names[i]? = some x := fun h => by rw [hnames]; exact h
    have ok4 : C.Ok (3 + 1) := ok
    have ok2 : C.Ok (1 + 1) := ok.le (by omega)
    let n := cellN w
    have hn : n.natAbs ≤ 80000 := by show (w % 160001 - 80000).natAbs ≤ _; omega
    have hn8 : (n / 8 * 8).natAbs ≤ 80000 := by omega
    have hb8 : (if w % 2 = 0 then (8 : Int) else 0).natAbs ≤ 80000 := by split <;> omega
    let told := lawDecimal n k
    have dcall : ∀ {ρ : List V} {e1 e2 : Expr} {p1 p2 : Pos} {z : Int}, z.natAbs ≤ 80000 → Ev C e1 ρ (.int z) → Ev C e2 ρ (.str (pform k)) → 
        (hs : starEach [e1, e2] C.env = (false, eval e1 C.env) :: starEach [e2] C.env) → (hs2 : starEach [e2] C.env = (false, eval e2 C.env) :: starEach [] C.env) → ((backTo p2 (starEach [e2] C.env)).any fun x => x.1) = false → Ev C (.Call (.Name (Str.ofString "_law_decimal") p1) [e1, e2] [] p2) ρ (.str (lawDecimal z k)) := by
      intro ρ e1 e2 p1 p2 z hz h1 h2 hs hs2 hs3
      exact Ev.callF ok (keep_fn (by decide) C.w) (Ev.gl ok hcs g_law_decimal) (Evs.cons h1 (Evs.cons h2 Evs.nil hs2) hs) (fun m nn xs hx => decimal_fn sl sns z k hz C m nn xs hsl hsns ok4 hx) rfl hs hs3
    refine Ex.cons (ρ' := [.int w, .int pick, .str (pform k), .bool looks, .int n, .undef, .undef, .undef, .undef]) (Ex1.assign 4 nm (N rfl) (v := .int n) (Ev.bin (Ev.bin (Ev.nm nm 0 (N rfl) rfl) Ev.int fun _ _ _ _ => op_mod (by decide)) Ev.int fun _ _ _ _ => op_sub)) ?_
    refine Ex.cons (ρ' := [.int w, .int pick, .str (pform k), .bool looks, .int n, .str told, .undef, .undef, .undef]) (Ex1.assign 5 nm (N rfl) (v := .str told) (dcall hn (Ev.nm nm 4 (N rfl) rfl) (Ev.nm nm 2 (N rfl) rfl) rfl rfl rfl)) ?_
    have ptest : ∀ {ρ : List V} {p1 p2 p3 : Pos} {c : Int} {kk : Nat}, ρ[1]? = some (.int pick) → Tst C (.Compare (.Name (Str.ofString "pick") p1) [.Lt] [.Constant (.int c) kk p2] p3) ρ (decide ((pick : Int) < c)) := fun h1 => Tst.cmp (Ev.nm nm 1 (N rfl) h1) Ev.int fun _ _ _ _ => cmp_lt
    have peq : ∀ {ρ : List V} {p1 p2 p3 : Pos} {c : Int} {kk : Nat}, ρ[1]? = some (.int pick) → Tst C (.Compare (.Name (Str.ofString "pick") p1) [.Eq] [.Constant (.int c) kk p2] p3) ρ ((pick : Int) == c) := fun h1 => Tst.cmp (Ev.nm nm 1 (N rfl) h1) Ev.int fun _ _ _ _ => cmp_eq
    refine Ex.iteR (ptest rfl) (fun hc => ?_) (fun hc1 => Ex.iteR (peq rfl) (fun hc => ?_) (fun hc2 => Ex.iteR (ptest rfl) (fun hc => ?_) (fun hc3 => Ex.iteR (peq rfl) (fun hc => ?_) (fun hc4 => Ex.iteR (peq rfl) (fun hc => ?_) (fun hc5 => ?_) rfl) rfl) rfl) rfl) rfl
    · have h4 : pick < 4 := by simp at hc; omega
      have e : pointCell w pick k looks = (.str (lawNumeral n (pick == 3) false), .str told) := by unfold pointCell; rw [if_pos h4]
      rw [e]
      refine Ex.consR (Ex1.ret (Ev.tuple (Evs.cons (Ev.callF ok (keep_fn (by decide) C.w) (Ev.gl ok hcs g_law_numeral) (Evs.cons (Ev.nm nm 4 (N rfl) rfl) (Evs.cons (v := .bool (pick == 3)) (Ev.cmp (Ev.nm nm 1 (N rfl) rfl) Ev.int fun m _ x y hx hy => ?_) (Evs.cons Ev.bool Evs.nil))) fun m nn xs hx => numeral_fn sl sns n (pick == 3) false hn C m nn xs hsl hsns ok2 hx) (Evs.cons (Ev.nm nm 5 (N rfl) rfl) Evs.nil)) (by simp)))
      have := cmp_eq (C := C) (A := C.A) (m := m) hx hy
      rwa [show ((pick : Int) == 3) = (pick == 3) by rw [Bool.eq_iff_iff]; simp; omega] at this
    · have h4 : pick = 4 := by simp at hc; omega
      let t := lawNumeral n false true
      have e : pointCell w pick k looks = (.str t, .str (if (looks && t.contains 44) = true then t else told)) := by unfold pointCell; rw [if_neg (by omega), if_pos h4]
      rw [e]
      refine Ex.cons (ρ' := [.int w, .int pick, .str (pform k), .bool looks, .int n, .str told, .str t, .undef, .undef]) (Ex1.assign 6 nm (N rfl) (v := .str t) (Ev.callF ok (keep_fn (by decide) C.w) (Ev.gl ok hcs g_law_numeral) (Evs.cons (Ev.nm nm 4 (N rfl) rfl) (Evs.cons Ev.bool (Evs.cons Ev.bool Evs.nil))) fun m nn xs hx => numeral_fn sl sns n false true hn C m nn xs hsl hsns ok2 hx)) ?_
      refine Ex.consR (Ex1.ret (Ev.tuple (Evs.cons (Ev.nm nm 6 (N rfl) rfl) (Evs.cons (Ev.ite (c := looks && (t.contains 44 && true)) (Tst.bool (TstB.and (Tst.plain (Ev.nm nm 3 (N rfl) rfl) fun _ _ _ => tr_bool) fun _ => TstB.and (Tst.cmp (Ev.str (l := [44]) (by decide +kernel)) (Ev.nm nm 6 (N rfl) rfl) fun _ _ _ _ => cmp_in) fun _ => TstB.and_nil)) (fun hc => ?_) (fun hc => ?_)) Evs.nil)) (by simp)))
      · rw [if_pos (by simpa using hc)]; exact Ev.nm nm 6 (N rfl) rfl
      · rw [if_neg (by simpa using hc)]; exact Ev.nm nm 5 (N rfl) rfl
    · have h6 : pick = 5 ∨ pick = 6 := by simp at hc hc1 hc2; omega
      let t := lawNumeral n true false
      have htl := numeral_len n true false hn
      have htd := decimal_len n k hn
      let front := if pick = 5 then redF else linkF
      let back := if pick = 5 then redB else linkB
      have hfl : front.length ≤ 15 := by show (if pick = 5 then redF else linkF).length ≤ 15; split <;> decide
      have hbl : back.length ≤ 15 := by show (if pick = 5 then redB else linkB).length ≤ 15; split <;> decide
      have e : pointCell w pick k looks = (.str ((front ++ t) ++ back), .str ((front ++ (if looks = true then told else t)) ++ back)) := by unfold pointCell; rw [if_neg (by omega), if_neg (by omega), if_pos (by omega)]
      rw [e]
      refine Ex.cons (ρ' := [.int w, .int pick, .str (pform k), .bool looks, .int n, .str told, .str t, .undef, .undef]) (Ex1.assign 6 nm (N rfl) (v := .str t) (Ev.callF ok (keep_fn (by decide) C.w) (Ev.gl ok hcs g_law_numeral) (Evs.cons (Ev.nm nm 4 (N rfl) rfl) (Evs.cons Ev.bool (Evs.cons Ev.bool Evs.nil))) fun m nn xs hx => numeral_fn sl sns n true false hn C m nn xs hsl hsns ok2 hx)) ?_
      refine Ex.cons (ρ' := [.int w, .int pick, .str (pform k), .bool looks, .int n, .str told, .str t, .str front, .str back]) (Ex1.assign2 (v := .str front) (w := .str back) 7 8 nm (N rfl) (N rfl) (Ev.ite (peq rfl) (fun hc => ?_) (fun hc => ?_))) ?_
      · rw [show front = redF from if_pos (by simp at hc; omega), show back = redB from if_pos (by simp at hc; omega)]
        exact Ev.tuple (Evs.cons (Ev.str (by decide +kernel)) (Evs.cons (Ev.str (by decide +kernel)) Evs.nil)) (by simp)
      · rw [show front = linkF from if_neg (by simp at hc; omega), show back = linkB from if_neg (by simp at hc; omega)]
        exact Ev.tuple (Evs.cons (Ev.str (by decide +kernel)) (Evs.cons (Ev.str (by decide +kernel)) Evs.nil)) (by simp)
      have htt : (if looks = true then told else t).length ≤ 100 := by split <;> assumption
      refine Ex.consR (Ex1.ret (Ev.tuple (Evs.cons (Ev.bin (Ev.bin (Ev.nm nm 7 (N rfl) rfl) (Ev.nm nm 6 (N rfl) rfl) fun _ _ _ _ => op_cat (Nat.le_trans (Nat.add_le_add hfl htl) (by decide))) (Ev.nm nm 8 (N rfl) rfl) fun _ _ _ _ => op_cat (by show (front ++ t).length + back.length ≤ _; rw [List.length_append]; exact Nat.le_trans (Nat.add_le_add (Nat.add_le_add hfl htl) hbl) (by decide))) (Evs.cons (Ev.bin (a := .str (front ++ (if looks = true then told else t))) (Ev.bin (b := .str (if looks = true then told else t)) (Ev.nm nm 7 (N rfl) rfl) (Ev.ite (c := looks) (Tst.plain (Ev.nm nm 3 (N rfl) rfl) fun _ _ _ => tr_bool) (fun hc => ?_) (fun hc => ?_)) fun _ _ _ _ => op_cat (Nat.le_trans (Nat.add_le_add hfl htt) (by decide))) (Ev.nm nm 8 (N rfl) rfl) fun _ _ _ _ => op_cat (by show (front ++ (if looks = true then told else t)).length + back.length ≤ _; rw [List.length_append]; exact Nat.le_trans (Nat.add_le_add (Nat.add_le_add hfl htt) hbl) (by decide))) Evs.nil)) (by simp)))
      · rw [if_pos hc]; exact Ev.nm nm 5 (N rfl) rfl
      · rw [if_neg (by simp [hc])]; exact Ev.nm nm 6 (N rfl) rfl
    · have h7 : pick = 7 := by simp at hc; omega
      have e : pointCell w pick k looks = (.int (n / 8), .str (lawDecimal (n / 8 * 8) k)) := by unfold pointCell; rw [if_neg (by omega), if_neg (by omega), if_neg (by omega), if_pos h7]
      rw [e]
      exact Ex.consR (Ex1.ret (Ev.tuple (Evs.cons (Ev.bin (Ev.nm nm 4 (N rfl) rfl) Ev.int fun _ _ _ _ => op_div (by decide) (by decide)) (Evs.cons (dcall hn8 (Ev.bin (Ev.bin (Ev.nm nm 4 (N rfl) rfl) Ev.int fun _ _ _ _ => op_div (by decide) (by decide)) Ev.int fun _ _ _ _ => op_mul (mulOk_small (by decide))) (Ev.nm nm 2 (N rfl) rfl) rfl rfl rfl) Evs.nil)) (by simp)))
    · have h8 : pick = 8 := by simp at hc; omega
      have e : pointCell w pick k looks = (.bool (w % 2 == 0), .str (lawDecimal (if w % 2 = 0 then 8 else 0) k)) := by unfold pointCell; rw [if_neg (by omega), if_neg (by omega), if_neg (by omega), if_neg (by omega), if_pos h8]
      rw [e]
      refine Ex.consR (Ex1.ret (Ev.tuple (Evs.cons (Ev.cmp (Ev.bin (Ev.nm nm 0 (N rfl) rfl) Ev.int fun _ _ _ _ => op_mod (by decide)) Ev.int fun _ _ _ _ => cmp_eq) (Evs.cons (dcall hb8 (Ev.ite (Tst.cmp (Ev.bin (Ev.nm nm 0 (N rfl) rfl) Ev.int fun _ _ _ _ => op_mod (by decide)) Ev.int fun _ _ _ _ => cmp_eq) (fun hc => ?_) (fun hc => ?_)) (Ev.nm nm 2 (N rfl) rfl) rfl rfl rfl) Evs.nil)) (by simp)))
      · rw [if_pos (by simpa using hc)]; exact Ev.int
      · rw [if_neg (by simpa using hc)]; exact Ev.int
    · have h9 : pick = 9 := by simp at hc1 hc2 hc3 hc4 hc5; omega
      have e : pointCell w pick k looks = (lawWord (w % 6).toNat, lawWord (w % 6).toNat) := by unfold pointCell; rw [if_neg (by omega), if_neg (by omega), if_neg (by omega), if_neg (by omega), if_neg (by omega)]
      rw [e]
      have hm : w % 6 = ((w % 6).toNat : Int) := by omega
      have item : ∀ {p1 p2 p3 p4 p5 : Pos} {kk : Nat}, Ev C (.Subscript (.Name (Str.ofString "_law_words") p1) (.BinOp (.Name (Str.ofString "w") p2) .Mod (.Constant (.int 6) kk p3) p4) p5) [.int w, .int pick, .str (pform k), .bool looks, .int n, .str told, .undef, .undef, .undef] (lawWord (w % 6).toNat) := by
        intro p1 p2 p3 p4 p5 kk
        refine Ev.itemK ok (j := (w % 6).toNat) k_words (Ev.gl ok hcs g_words) ?_ (by omega) (word_rep (by omega))
        rw [← hm]
        exact Ev.bin (Ev.nm nm 0 (N rfl) rfl) Ev.int fun _ _ _ _ => op_mod (by decide)
      exact Ex.consR (Ex1.ret (Ev.tuple (Evs.cons item (Evs.cons item Evs.nil)) (by simp)))
end Mine

end
section
open PySem PySem.W PyProof.Rows PySem.Calls
set_option maxRecDepth 100000
set_option linter.unusedVariables false
namespace Mine
abbrev lstObj (xs : Array Value) (n : Nat) : Obj := { cls := .type "list", data := .seq xs n }

theorem list_ne_tuple : ¬ Value.type "list" = Value.type "tuple" := by decide
abbrev SubT (a b : Led) : Prop := ∀ p ∈ a, p.2.cls = .type "tuple" → p ∈ b
mutual
theorem Rep.monoT {a b : Led} (h : SubT a b) : ∀ {v : V} {x : Value}, Rep a v x → Rep b v x
  | _, _, .none => .none
  | _, _, .bool c => .bool c
  | _, _, .int i t => .int i t
  | _, _, .str l t => .str l t
  | _, _, .flt l t => .flt l t
  | _, _, .val x => .val x
  | _, _, .tup vs c xs hm hr => .tup vs c xs (h _ hm rfl) (Reps.monoT h hr)
theorem Reps.monoT {a b : Led} (h : SubT a b) : ∀ {v : List V} {x : List Value}, Reps a v x → Reps b v x
  | _, _, .nil => .nil
  | _, _, .cons hx hr => .cons (Rep.monoT h hx) (Reps.monoT h hr)
end
theorem Agree.monoT {names : List Str} {m : Str → Option Value} {a b : Led} {ρ : List V} (h : SubT a b) (g : Agree names m a ρ) : Agree names m b ρ :=
  fun i x v hn hv hu => let ⟨y, e, r⟩ := g i x v hn hv hu; ⟨y, e, r.monoT h⟩
theorem Agree.weaken {names : List Str} {m : Str → Option Value} {a : Led} {ρ ρ' : List V} (h : ∀ (i : Nat) (v : V), ρ'[i]? = some v → v = .undef ∨ ρ[i]? = some v) (g : Agree names m a ρ) : Agree names m a ρ' :=
  fun i x v hn hv hu => (h i v hv).elim (fun e => absurd e hu) fun e => g i x v hn e hu

/-- statements that put one value more behind the list at o, the last thing they do -/
def ExA (C : Cx) (ss : List Stmt) (ρ : List V) (o : Addr) (v : V) (ρ' : List V) : Prop :=
  ∀ m (news : Led) (xs : Array Value) (n : Nat) (s : Shared) (Q : Flow → Shared → Prop) (E : Value → Shared → Prop), xs.size ≤ 100 → Fr C.h₀ C.L s.heap m → News C.h₀ C.L s.heap news → (o, lstObj xs n) ∈ news → Agree C.names m news ρ →
    (∀ m' (news' : Led) (y : Value) (h' : Heap) (tk' : Nat), (∀ p ∈ news, p.1 ≠ o → p ∈ news') → (o, lstObj (xs.push y) (n + 1)) ∈ news' → Rep news' v y → Agree C.names m' news' ρ' → Fr C.h₀ C.L h' m' → News C.h₀ C.L h' news' → Q .next { s with heap := h', toks := tk' }) →
    wpAny C.M C.A (execs ss C.env) Q E s

theorem ExA.cons {C : Cx} {st : Stmt} {rest : List Stmt} {ρ ρ₁ ρ' : List V} {o : Addr} {v : V} (h : Ex1 C st ρ (.next ρ₁)) (hr : ExA C rest ρ₁ o v ρ') : ExA C (st :: rest) ρ o v ρ' := fun m news xs n s Q E hx F N hm g hq =>
  wpAny_execs_cons (h m news g s _ E F N fun fl m1 n1 h1 tk1 s1 o1 F1 N1 => by
    obtain ⟨rfl, g1⟩ := o1
    exact hr m1 n1 xs n _ Q E hx F1 N1 (s1 _ hm) g1 fun m2 n2 y h2 tk2 s2 hm2 r2 g2 F2 N2 => hq m2 n2 y h2 tk2 (fun p hp hne => s2 p (s1 p hp) hne) hm2 r2 g2 F2 N2)

theorem ExA.append {C : Cx} {ρ ρ' : List V} {o : Addr} {v : V} {e : Expr} {ox : Str} {np ap pos spos : Pos} (io : Nat) (nm : C.Nm) (ho : C.names[io]? = some ox) (hρ : ρ[io]? = some (.val (.ref o))) (he : Ev C e ρ v)
    (hw : ∀ (i : Nat) (v : V), ρ'[i]? = some v → v = .undef ∨ ρ[i]? = some v)
    (h0 : eval (.Call (.Attribute (.Name ox np) (Str.ofString "append") ap) [e] [] pos) C.env = (do let ov ← eval (.Name ox np) C.env; standAt ap.atName; let (f, first) ← holding [ov] (getMethod ov (Str.ofString "append") (pure true)); callWith pos f first (backTo pos (starEach [e] C.env)) []) ∨
      ∃ pl, eval (.Call (.Attribute (.Name ox np) (Str.ofString "append") ap) [e] [] pos) C.env = (do let ov ← eval (.Name ox np) C.env; standAt ap.atName; let (f, first) ← holding [ov] (getMethod ov (Str.ofString "append") pl); callWith pos f first (backTo pos (starEach [e] C.env)) []))
    (h1 : starEach [e] C.env = (false, eval e C.env) :: starEach [] C.env)
    (hi : interactive C.env = false)
    (hsw : swapsWith (.Call (.Attribute (.Name ox np) (Str.ofString "append") ap) [e] [] pos) Option.none spos.line C.env = pure false) :
    ExA C [.Expr (.Call (.Attribute (.Name ox np) (Str.ofString "append") ap) [e] [] pos) spos] ρ o v ρ' := fun m news xs n s Q E hx F N hm g hq => by
  refine wpAny_execs_cons (wpAny_Expr ?_ hi hsw)
  have fin : ∀ pl : Sem Bool, eval (.Call (.Attribute (.Name ox np) (Str.ofString "append") ap) [e] [] pos) C.env = (do let ov ← eval (.Name ox np) C.env; standAt ap.atName; let (f, first) ← holding [ov] (getMethod ov (Str.ofString "append") pl); callWith pos f first (backTo pos (starEach [e] C.env)) []) →
      wpAny C.M C.A (eval (.Call (.Attribute (.Name ox np) (Str.ofString "append") ap) [e] [] pos) C.env) (fun v s' => match v with
        | .ref _ => False
        | _ => match Flow.next with
          | .next => wpAny C.M C.A (execs [] C.env) Q E s'
          | f => Q f s') E s := by
    intro pl hpl
    refine MethodCall_ (pl := pl) (Ev.nm nm io ho hρ (by intro h; cases h) m news g s _ E F N fun ov n1 h1' tk1 s1 r1 F1 N1 => ?_) hpl
    cases r1
    refine getMethod_append_N N1 (s1 _ hm) ?_
    refine callWith_method1 (Evs.cons he Evs.nil h1 m n1 pos (g.mono s1) _ _ E F1 N1 fun ys n2 h2' tk2 s2 r2 F2 N2 => ?_) h1 rfl
    cases r2 with
    | cons ra rb =>
    cases rb
    rename_i y
    let rest := n2.filter fun p => p.1 != o
    have hm2 : (o, lstObj xs n) ∈ n2 := s2 _ (s1 _ hm)
    have N3 : News C.h₀ C.L h2' ((o, lstObj xs n) :: rest) := fun p hp => by
      rcases List.mem_cons.mp hp with rfl | hp
      · exact N2 _ hm2
      · exact N2 _ (List.mem_filter.mp hp).1
    refine append_K (D := o) F2 N3 (.head fun p hp => by simpa using (List.mem_filter.mp hp).2) (fun h' F' N' => ?_) (by have : (sizeLine : Nat) = 16777216 := rfl; omega)
    have tup : SubT n2 ((o, lstObj (xs.push y) (n + 1)) :: rest) := fun p hp ht => by
      have hne : p.1 ≠ o := fun q => by
        have a := (N2 p hp).1
        have b := (N2 _ hm2).1
        rw [q] at a
        rw [a] at b
        have := Option.some.inj b
        rw [this] at ht
        exact absurd ht list_ne_tuple
      exact .tail _ (List.mem_filter.mpr ⟨hp, by simpa using hne⟩)
    refine wpAny_execs_nil (hq m _ y h' tk2 (fun p hp hne => .tail _ (List.mem_filter.mpr ⟨s2 _ (s1 _ hp), by simpa using hne⟩)) (.head _) (ra.monoT tup) (((g.mono (s1.trans s2)).monoT tup).weaken hw) F' N')
  rcases h0 with h0 | ⟨pl, h0⟩
  · exact fin _ h0
  · exact fin _ h0

theorem Reps.snoc {news : Led} : ∀ {vs : List V} {xs : List Value} {v : V} {x : Value}, Reps news vs xs → Rep news v x → Reps news (vs ++ [v]) (xs ++ [x])
  | [], _, _, _, .nil, r => .cons r .nil
  | _ :: _, _, _, _, .cons a b, r => .cons a (Reps.snoc b r)

/-- for x in range(e): ..; out.append(..) -/
theorem Ex1.forBuild {C : Cx} {ρ : List V} {k : Nat} (ok : C.Ok k) {x : Str} {px pos p : Pos} {f e : Expr} {body : List Stmt} {n : Int} {o : Addr} (ik : Nat) (nm : C.Nm) (hx : C.names[ik]? = some x)
    (hr : Ev C f ρ (.val (.type "range"))) (he : Ev C e ρ (.int n)) (h0n : 0 ≤ n) (hn : n < 100) (row : Nat → V)
    (hstep : ∀ i : Nat, i < n.toNat → ExA C body (ρ.set ik (.int i)) o (row i) ρ) 
    {m : Str → Option Value} {news : Led} {s : Shared} {Q : Flow → Shared → Prop} {E : Value → Shared → Prop} (F : Fr C.h₀ C.L s.heap m) (N : News C.h₀ C.L s.heap news) (hm : (o, lstObj #[] 0) ∈ news) (g : Agree C.names m news ρ) (keep : Led) (hkeep : ∀ p ∈ keep, p ∈ news ∧ p.1 ≠ o)
    (hq : ∀ m' (news' : Led) (xs : Array Value) (nn : Nat) (h' : Heap) (tk' : Nat), (∀ p ∈ keep, p ∈ news') → (o, lstObj xs nn) ∈ news' → Reps news' ((List.range n.toNat).map row) xs.toList → Agree C.names m' news' ρ → Fr C.h₀ C.L h' m' → News C.h₀ C.L h' news' → Q .next { s with heap := h', toks := tk' })
    (hs : ∀ x, foldedSetIterable (.Call f [e] [] p) C.env x = pure x := by intro _; rfl)
    (hc0 : eval (.Call f [e] [] p) C.env = (do let g ← eval f C.env; callWith p g [] (backTo p (starEach [e] C.env)) (backToKw p (keywordEach [] C.env))) := by rfl)
    (hc1 : starEach [e] C.env = (false, eval e C.env) :: starEach [] C.env := by rfl)
    (hc2 : ((backTo p (starEach [] C.env)).any fun x => x.1) = false := by rfl) :
    wpAny C.M C.A (exec (.For (.Name x px) (.Call f [e] [] p) body [] pos) C.env) Q E s := by
  have hxl : C.env.kindOf x = some .local := nm.loc x (List.mem_of_getElem? hx)
  refine wpAny_mono (E := fun _ _ => False) (For_invV C.h₀ hxl (by show (C.cs.kind == .class || (C.cs.kind == .module && C.L != mainGlobals)) = false; rw [nm.fn]; rfl) ?_ hs PassesOwn.never) (fun _ _ h => h) fun _ _ h => h.elim
  refine Call_ (hr m news g s _ _ F N fun fv n1 h1 tk1 s1 r1 F1 N1 => ?_) hc0
  cases r1
  refine PyProof.Rows.callWith_type1 (Evs.cons he Evs.nil hc1 m n1 p (g.mono s1) _ _ _ F1 N1 fun xs n2 h2 tk2 s2 r2 F2 N2 => ?_) hc1 hc2
  cases r2 with
  | cons ra rb =>
  cases rb; cases ra
  refine range1_rows F2 N2 fun h3 tk3 t₁ u₁ v₁ hrange F3 N3 keep3 => ?_
  refine wpAny_pyIter_range hrange (small_one (by decide) (by decide) (by omega) (by omega)) ?_
  have hsz : (Builtin.Range.rangeSize 0 n 1) = n := by rw [rangeSize_one]; split <;> omega
  have W := Walks.range (prog := P0) (w := C.w) (A := C.A) rfl h3.objs.size 0 1 n.toNat
  refine ⟨h3.objs.size, [h3.objs.size], [h3.objs.size], n.toNat, _, _, m, n2, (fun i m₁ news₁ => ∃ (ys : Array Value) (nn : Nat), (∀ p ∈ keep, p ∈ news₁) ∧ ys.size = i ∧ (o, lstObj ys nn) ∈ news₁ ∧ Reps news₁ ((List.range i).map row) ys.toList ∧ Agree C.names m₁ news₁ ρ), rfl, W, ?_, ?_, ?_, ?_, F3.push _, (fun p hp => ⟨Heap.get?_push_of_some _ (N3 p hp).1, (N3 p hp).2⟩), ⟨#[], 0, (fun p hp => s2 _ (s1 _ (hkeep p hp).1)), rfl, s2 _ (s1 _ hm), .nil, g.mono (s1.trans s2)⟩, ?_, ?_⟩
  · intro hm
    exact absurd F3.ns.lt ((List.mem_singleton.mp hm : C.L = _) ▸ Nat.lt_irrefl _)
  · intro b hb
    rw [List.mem_singleton.mp hb]
    exact next_is_new F3
  · intro p hp hI
    exact absurd (Heap.lt_size (N3 p hp).1) ((List.mem_singleton.mp hI) ▸ Nat.lt_irrefl _)
  · show IsRangeIter _ _ _ _ _
    rw [hsz]
    have : (n.toNat : Int) = n := by omega
    simp only [Int.natCast_zero, Int.zero_mul, Int.add_zero, Int.sub_zero, this]
    exact Heap.get?_push_size _ rfl
  · rintro i v m₁ news₁ s₁ own ⟨hh', tk', rfl⟩ hin ⟨t, rfl⟩ ⟨ys, nn, hkp, hys, hmo, hreps, hJ⟩ hoff hown hget hall hst F₄ N₄
    have hi0 : (0 + (i : Int) * 1) = (i : Int) := by omega
    have hInone : C.h₀.get? h3.objs.size = Option.none := next_is_new F3
    obtain ⟨ob, hob, hcl⟩ : ∃ ob, hh'.get? h3.objs.size = some ob ∧ ob.cls = .type "range_iterator" := ⟨_, hst, rfl⟩
    have hIown := hall h3.objs.size (List.mem_singleton.mpr rfl) hInone ob hob
    have hIo : h3.objs.size ≠ o := fun q => hoff _ hmo (List.mem_singleton.mpr q.symm)
    have hg : Agree C.names (fun y => if y = x then some (Value.int (0 + (i : Int) * 1) t) else m₁ y) (own ++ news₁) (ρ.set ik (.int i)) := by
      rw [hi0]
      exact (hJ.mono fun p hp => List.mem_append_right _ hp).set nm.nd hx (.int _ _)
    refine hstep i hin _ _ ys nn _ _ _ (by omega) F₄ N₄ (List.mem_append_right _ hmo) hg fun m5 n5 y h5 tk5 s5 hm5 r5 g5 F5 N5 => ?_
    have hI5 : (h3.objs.size, ob) ∈ n5 := s5 _ (List.mem_append_left _ hIown) hIo
    let n6 := n5.filter fun p => p.1 != h3.objs.size
    have t56 : SubT n5 n6 := fun p hp ht => List.mem_filter.mpr ⟨hp, by
      have : p.1 ≠ h3.objs.size := fun q => by
        have a := (N5 p hp).1
        have b := (N5 _ hI5).1
        rw [q] at a
        rw [a] at b
        have := Option.some.inj b
        rw [this, hcl] at ht
        exact absurd ht (by decide)
      simpa using this⟩
    have t16 : SubT news₁ n6 := fun p hp ht => by
      refine t56 p (s5 p (List.mem_append_right _ hp) fun q => ?_) ht
      have a := (N₄ p (List.mem_append_right _ hp)).1
      have b := (N₄ _ (List.mem_append_right _ hmo)).1
      rw [q] at a
      rw [a] at b
      have := Option.some.inj b
      rw [this] at ht
      exact absurd ht list_ne_tuple
    refine LoopStepV.next (LoopStepU.intro (news₂ := n6) F5 (fun p hp => ?_) (fun p hp hb => ?_) ⟨ys.push y, nn + 1, (fun p hp => List.mem_filter.mpr ⟨s5 p (List.mem_append_right _ (hkp p hp)) (hkeep p hp).2, by have := hoff p (hkp p hp); simpa using this⟩), by simp [hys], List.mem_filter.mpr ⟨hm5, by simpa using hIo.symm⟩, ?_, g5.monoT t56⟩)
    · rcases List.mem_append.mp hp with h | h
      · have hp1 : p.1 = h3.objs.size := List.mem_singleton.mp (hown p h)
        exact N5 p (s5 p (List.mem_append_left _ h) (by rw [hp1]; exact hIo))
      · exact N5 p (List.mem_filter.mp h).1
    · have := (List.mem_filter.mp hp).2
      rw [List.mem_singleton.mp hb] at this
      simp at this
    · rw [List.range_succ, List.map_append, Array.toList_push]
      exact (hreps.monoT t16).snoc (r5.monoT t56)
  · rintro h' tk m' news' F' N' _ ⟨ys, nn, hkp, hys, hmo, hreps, hJ⟩
    exact hq m' news' ys nn h' tk hkp hmo hreps hJ F' N'
end Mine

end
section
open PySem PySem.W PyProof.Rows PySem.Calls
set_option maxRecDepth 100000
set_option linter.unusedVariables false
namespace Mine

theorem enterG {sl : Addr} {sns : List Int} {f : Addr} {k : Nat} {vs : List V} {P : Led → Value → Prop} {name qual : Str} {params : Arguments} {body : List Stmt} {scope : Scope} {dV kV doc pm cdv ct oc : Value} {an od : Option Addr} {osl : Array (Option Value)} (names ps : List Str) (j : Nat)
    (ho : ∀ w, List.lookup f (K0 w) = some { cls := oc, dict := od, data := .func (fnOf name qual params body scope dV kV doc pm an cdv ct), slots := osl })
    (hcd : ∀ w, codeIn (K0 w) cdv qual = true)
    (hbind : ∀ xs : List Value, xs.length = ps.length → bindArgs (fnOf name qual params body scope dV kV doc pm an cdv ct) ⟨xs, []⟩ = pure (ps.zip xs))
    (hkinds : (names.all fun x => scope.names.lookup x == some .local && !(x == ("__debug__" : Str))) = true) (hnd : names.Nodup) (hp : names.take ps.length = ps) (hl : ps.length = vs.length)
    (hco : scope.isCoroutine = false) (hgen : scope.isGenerator = false) (hk : scope.kind = .function) (hcell : (scope.names.all fun x => x.2 != .cell) = true)
    (hbody : ∀ C : Cx, C.sl = sl → C.sns = sns → C.Ok k → C.Nm → C.cs = scope → C.names = names → ∀ m news (s : Shared) (Q : Flow → Shared → Prop) (E : Value → Shared → Prop), Fr C.h₀ C.L s.heap m → News C.h₀ C.L s.heap news → Agree C.names m news (vs ++ List.replicate j .undef) →
      (∀ (x : Value) (m' : Str → Option Value) (news' : Led) (h' : Heap) (tk' : Nat), Sub news news' → P news' x → Fr C.h₀ C.L h' m' → News C.h₀ C.L h' news' → Q (.ret x) { s with heap := h', toks := tk' }) → wpAny C.M C.A (execs body C.env) Q E s) :
    ∀ (C : Cx) (m : Str → Option Value) (news : Led) (xs : List Value), C.sl = sl → C.sns = sns → C.Ok (k + 1) → Reps news vs xs → Go C C.A m news (call (.ref f) xs) P := by
  intro C m news xs hsl hsns ok hr s Q E F N hq
  have hkl : ∀ x ∈ names, scope.names.lookup x = some .local := fun x hx => by have := List.all_eq_true.mp hkinds x hx; simp only [Bool.and_eq_true] at this; simpa using this.1
  have hdb : ∀ x ∈ names, (x == ("__debug__" : Str)) = false := fun x hx => by have := List.all_eq_true.mp hkinds x hx; simp only [Bool.and_eq_true] at this; simpa using this.2
  refine wpAny_call (code_def (binds := ps.zip xs) (dV := dV) (kV := kV) ok.B F ok.X N ok.T rfl rfl ok.fn (ho C.w) (hcd C.w) (by have := ok.dep; show C.dp < 1000; omega) (BindsTo.of_eq (hbind xs (by rw [hr.length, hl]))) ?_ ?_ hco hgen hk ?_)
  · intro y hy
    refine hkl y.1 ?_
    rw [← hp] at hy
    exact List.mem_of_mem_take (List.of_mem_zip hy).1
  · intro g L' h₁ FG F' N' B' X' T'
    let C' : Cx := { C with dp := C.dp + 1, un := C.un + 3, cn := qual, cs := scope, a := f, ccd := cdv, cl := [], outer := C.env :: C.outer, A₀ := C.A, h₀ := g, L := L', names := names }
    have ok' : C'.Ok k := ⟨B', X', T', hk, (let ⟨o, e, r⟩ := ok.lst; ⟨o, FG.keep _ _ e, r⟩), ok.iar, ok.few, ok.bits, ok.XB, ok.TB, ok.push FG, (by have := ok.dep; show C.dp + 1 + k < 990; omega), (by have := ok.uni; show C.un + 3 + 10 * k < 9000; omega)⟩
    have nm' : C'.Nm := ⟨hnd, hkl, hdb, hk⟩
    refine hbody C' hsl hsns ok' nm' rfl rfl _ news _ _ _ F' N' (agree_init hnd hp hl hr) ?_
    intro x m' news' h' tk' sub px F2 N2
    exact ⟨L', m', news', F2, N2, fun F3 N3 => hq x news' h' tk' sub px F3 N3⟩
  · intro x hx e
    have := List.all_eq_true.mp hcell x hx
    rw [e] at this
    exact absurd this (by decide)

def kindAt : Nat → Nat
  | 0 => 0 | 1 => 1 | 2 => 2 | 3 => 2 | 4 => 2 | _ => 3
def caseWhole (w : Int) : Int := (w - 500000) * (1 + w % 3 * 999983)
def caseCell (w : Int) (kd fk wk gk pick : Nat) (looks : Bool) : V × V :=
  if pick < 2 then (if pick = 0 then (.none, .str (gapAt gk)) else (.str [], .str []))
  else if kd = 1 then (.int (caseWhole w), .str (lawWhole (caseWhole w) wk))
  else if kd = 2 then pointCell w pick fk looks
  else (lawWord (w % 10).toNat, .str (strOf (lawWord (w % 10).toNat)))
structure Row where
  w : Int
  kd : Nat
  fk : Nat
  wk : Nat
  gk : Nat
  pick : Nat
  looks : Bool
def rowOf (sns : List Int) (i : Nat) : Row :=
  let v := lawAt sns (1 + 2 * i)
  { w := lawAt sns (2 + 2 * i), kd := kindAt (v % 6).toNat, fk := (v / 12 % 7).toNat, wk := (v / 84 % 6).toNat, gk := (v / 504 % 4).toNat, pick := (v / 2016 % 10).toNat, looks := v / 6 % 2 == 0 }
def Row.cells (r : Row) : V × V := caseCell r.w r.kd r.fk r.wk r.gk r.pick r.looks
def Row.tup (r : Row) : V := .tup [r.cells.1, .int r.kd, .str (pform r.fk), .str (wform r.wk), .str (gapAt r.gk), .bool r.looks, r.cells.2]

theorem lawAt_range (ns : List Int) (k : Int) : 0 ≤ lawAt ns k ∧ lawAt ns k < 1000003 := by
  unfold lawAt
  exact ⟨Int.emod_nonneg _ (by decide), Int.emod_lt_of_pos _ (by decide)⟩

theorem lawWord_def (j : Nat) : lawWord j ≠ .undef := by
  intro h
  match j, h with
  | 0, h => cases h
  | 1, h => cases h
  | 2, h => cases h
  | 3, h => cases h
  | 4, h => cases h
  | 5, h => cases h
  | 6, h => cases h
  | 7, h => cases h
  | 8, h => cases h
  | _ + 9, h => cases h
theorem cells_def (r : Row) : r.cells.1 ≠ .undef ∧ r.cells.2 ≠ .undef := by
  unfold Row.cells caseCell pointCell
  split
  · split <;> exact ⟨(fun h => by cases h), (fun h => by cases h)⟩
  · split
    · exact ⟨(fun h => by cases h), (fun h => by cases h)⟩
    · split
      · simp only
        split
        · exact ⟨(fun h => by cases h), (fun h => by cases h)⟩
        · split
          · exact ⟨(fun h => by cases h), (fun h => by cases h)⟩
          · split
            · exact ⟨(fun h => by cases h), (fun h => by cases h)⟩
            · split
              · exact ⟨(fun h => by cases h), (fun h => by cases h)⟩
              · split
                · exact ⟨(fun h => by cases h), (fun h => by cases h)⟩
                · exact ⟨lawWord_def _, lawWord_def _⟩
      · exact ⟨lawWord_def _, (fun h => by cases h)⟩

def gapsL : List Value := [Value.str (Str.ofString "") 581, Value.str (Str.ofString "?") 582, Value.str (Str.ofString "n/a") 583, Value.str (Str.ofString "  ") 584]
def pformsL : List Value := [Value.str (Str.ofString "g") 573, Value.str (Str.ofString ".0f") 574, Value.str (Str.ofString ".1f") 575,
              Value.str (Str.ofString ".2f") 576, Value.str (Str.ofString ".3f") 577,
              Value.str (Str.ofString "+.2f") 578, Value.str (Str.ofString ",.1f") 579]
def wformsL : List Value := [Value.str (Str.ofString "") 566, Value.str (Str.ofString ",") 567, Value.str (Str.ofString "b") 568,
              Value.str (Str.ofString "x") 569, Value.str (Str.ofString "+") 570, Value.str (Str.ofString "08") 571]
theorem k_gaps : ∀ w, List.lookup 59 (K0 w) = some { cls := .type "tuple", data := .seq gapsL.toArray } := fun w => by rfl
theorem k_pforms : ∀ w, List.lookup 58 (K0 w) = some { cls := .type "tuple", data := .seq pformsL.toArray } := fun w => by rfl
theorem k_wforms : ∀ w, List.lookup 57 (K0 w) = some { cls := .type "tuple", data := .seq wformsL.toArray } := fun w => by rfl
theorem gap_rep {j : Nat} (hj : j < 4) : ∃ x, gapsL[j]? = some x ∧ ∀ news, Rep news (.str (gapAt j)) x := by
  match j, hj with
  | 0, _ => exact ⟨_, rfl, rep_str (by decide +kernel)⟩
  | 1, _ => exact ⟨_, rfl, rep_str (by decide +kernel)⟩
  | 2, _ => exact ⟨_, rfl, rep_str (by decide +kernel)⟩
  | 3, _ => exact ⟨_, rfl, rep_str (by decide +kernel)⟩
  | _ + 4, h => omega
theorem pform_rep {j : Nat} (hj : j < 7) : ∃ x, pformsL[j]? = some x ∧ ∀ news, Rep news (.str (pform j)) x := by
  match j, hj with
  | 0, _ => exact ⟨_, rfl, rep_str (by decide +kernel)⟩
  | 1, _ => exact ⟨_, rfl, rep_str (by decide +kernel)⟩
  | 2, _ => exact ⟨_, rfl, rep_str (by decide +kernel)⟩
  | 3, _ => exact ⟨_, rfl, rep_str (by decide +kernel)⟩
  | 4, _ => exact ⟨_, rfl, rep_str (by decide +kernel)⟩
  | 5, _ => exact ⟨_, rfl, rep_str (by decide +kernel)⟩
  | 6, _ => exact ⟨_, rfl, rep_str (by decide +kernel)⟩
  | _ + 7, h => omega
theorem wform_rep {j : Nat} (hj : j < 6) : ∃ x, wformsL[j]? = some x ∧ ∀ news, Rep news (.str (wform j)) x := by
  match j, hj with
  | 0, _ => exact ⟨_, rfl, rep_str (by decide +kernel)⟩
  | 1, _ => exact ⟨_, rfl, rep_str (by decide +kernel)⟩
  | 2, _ => exact ⟨_, rfl, rep_str (by decide +kernel)⟩
  | 3, _ => exact ⟨_, rfl, rep_str (by decide +kernel)⟩
  | 4, _ => exact ⟨_, rfl, rep_str (by decide +kernel)⟩
  | 5, _ => exact ⟨_, rfl, rep_str (by decide +kernel)⟩
  | _ + 6, h => omega

theorem call_str_word {C : Cx} {A : Around} {m : Str → Option Value} {news : Led} {j : Nat} {xs : List Value} (hx : Reps news [lawWord j] xs) : Go C A m news (call (.type "str") xs) fun n z => Rep n (.str (strOf (lawWord j))) z := by
  match j, hx with
  | 0, hx => exact call_strS hx
  | 1, hx => exact call_strS hx
  | 2, hx => exact call_strS hx
  | 3, hx => exact call_strS hx
  | 4, hx => exact call_strS hx
  | 5, hx => exact call_strS hx
  | 6, hx => exact call_strS hx
  | 7, hx => exact call_str (by decide) hx
  | 8, hx => exact call_strB hx
  | _ + 9, hx => exact call_strS hx

set_option maxHeartbeats 4000000 in
theorem case_fn (sl : Addr) (sns : List Int) : ∀ (C : Cx) (m : Str → Option Value) (news : Led) (xs : List Value), C.sl = sl → C.sns = sns → C.Ok (5 + 1) → Reps news [.val (.ref sl)] xs →
    Go C C.A m news (call (.ref 130) xs) fun n z => ∃ o ys nn, z = .ref o ∧ (o, lstObj ys nn) ∈ n ∧ Reps n ((List.range 6).map fun i => (rowOf sns i).tup) ys.toList := by
  refine enterG [Str.ofString "script", Str.ofString "out", Str.ofString "k", Str.ofString "v", Str.ofString "w", Str.ofString "kind", Str.ofString "looks", Str.ofString "form", Str.ofString "whole_form", Str.ofString "gap", Str.ofString "pick", Str.ofString "cell", Str.ofString "due"] [Str.ofString "script"] 12 (fun w => by rfl) (fun w => by rfl) (fun xs h => ?_) (by decide +kernel) (by decide +kernel) (by decide +kernel) rfl rfl rfl rfl (by decide +kernel) ?_
  · match xs, h with
    | [a], _ => rfl
  · intro C hsl hsns ok nm hcs hnames m news s Q E F N g hq
    have N' : ∀ {i : Nat} {x : Str}, [Str.ofString "script", Str.ofString "out", Str.ofString "k", Str.ofString "v", Str.ofString "w", Str.ofString "kind", Str.ofString "looks", Str.ofString "form", Str.ofString "whole_form", Str.ofString "gap", Str.ofString "pick", Str.ofString "cell", Str.ofString "due"][i]? = some x → C.names[i]? = some x := fun h => by rw [hnames]; exact h
    have okat : C.Ok (0 + 1) := ok.le (by omega)
    have okw : C.Ok (2 + 1) := ok.le (by omega)
    have okp : C.Ok (4 + 1) := ok
    refine wpAny_execs_cons (wpAny_Assign_Name (List_ (spliced_none (newList_K F N (fun o h1 F1 N1 hlt => ?_) (by decide)))) rfl)
    refine store_slot (v := .val (.ref o)) nm (N' (i := 1) rfl) F1 N1 (g.mono fun p hp => .tail _ hp) (.val _) fun m2 h2 tk2 g2 F2 N2 => ?_
    let ρ : List V := [.val (.ref sl), .val (.ref o), .undef, .undef, .undef, .undef, .undef, .undef, .undef, .undef, .undef, .undef, .undef]
    refine wpAny_execs_cons (Ex1.forBuild (ρ := ρ) (o := o) ok 2 nm (N' rfl) (Ev.bl ok hcs g_range b_range) Ev.int (by decide) (by decide) (fun i => (rowOf sns i).tup) (fun i hi => ?_) F2 N2 (.head _) g2 news (fun p hp => ⟨.tail _ hp, Nat.ne_of_lt (hlt p hp)⟩) (fun m3 n3 ys nn h3 tk3 k3 hm3 r3 g3 F3 N3 => ?_))
    · have hi6 : i < 6 := by omega
      let r := rowOf sns i
      let v := lawAt sns (1 + 2 * i)
      let w := lawAt sns (2 + 2 * i)
      obtain ⟨hv0, hv1⟩ := lawAt_range sns (1 + 2 * i)
      obtain ⟨hw0, hw1⟩ := lawAt_range sns (2 + 2 * i)
      change 0 ≤ v at hv0
      change v < 1000003 at hv1
      change 0 ≤ w at hw0
      change w < 1000003 at hw1
      have atcall : ∀ {ρ : List V} {e1 e2 : Expr} {p1 p2 : Pos} {z : Int}, 0 ≤ z → z < 100 → Ev C e1 ρ (.val (.ref sl)) → Ev C e2 ρ (.int z) →
          (hs : starEach [e1, e2] C.env = (false, eval e1 C.env) :: starEach [e2] C.env) → (hs2 : starEach [e2] C.env = (false, eval e2 C.env) :: starEach [] C.env) → ((backTo p2 (starEach [e2] C.env)).any fun x => x.1) = false → Ev C (.Call (.Name (Str.ofString "_law_at") p1) [e1, e2] [] p2) ρ (.int (lawAt sns z)) := by
        intro ρ e1 e2 p1 p2 z hz0 hz1 h1 h2 hs hs2 hs3
        exact Ev.callF ok (keep_fn (by decide) C.w) (Ev.gl ok hcs g_law_at) (Evs.cons h1 (Evs.cons h2 Evs.nil hs2) hs) (fun m nn xs hx => at_fn sl sns z hz0 hz1 C m nn xs hsl hsns okat hx) rfl hs hs3
      have sw : ∀ {ts es k1 k2 p1 p2} {names : List Str}, swappedStores [.Tuple ts k1 p1] (.Tuple es k2 p2) (envX C.cn C.cs C.L C.a C.ccd C.cl) = pure (some names) → swappedStores [.Tuple ts k1 p1] (.Tuple es k2 p2) C.env = pure (some names) := fun h => h
      refine ExA.cons (ρ₁ := [.val (.ref sl), .val (.ref o), .int i, .int v, .int w, .undef, .undef, .undef, .undef, .undef, .undef, .undef, .undef])
        (Ex1.assignS (vs := [.int v, .int w]) [Str.ofString "v", Str.ofString "w"] [3, 4] nm (by rw [hnames]; rfl) rfl
          (Ev.tuple (Evs.cons (v := .int v) (atcall (by omega) (by omega) (Ev.nm nm 0 (N' rfl) rfl) (Ev.bin Ev.int (Ev.bin Ev.int (Ev.nm nm 2 (N' rfl) rfl) fun _ _ _ _ => op_mul (mulOk_small (by omega))) fun _ _ _ _ => op_add) rfl rfl rfl)
            (Evs.cons (v := .int w) (atcall (by omega) (by omega) (Ev.nm nm 0 (N' rfl) rfl) (Ev.bin Ev.int (Ev.bin Ev.int (Ev.nm nm 2 (N' rfl) rfl) fun _ _ _ _ => op_mul (mulOk_small (by omega))) fun _ _ _ _ => op_add) rfl rfl rfl) Evs.nil)) (by simp)) rfl
          (by show swappedStores _ _ (envX C.cn C.cs C.L C.a C.ccd C.cl) = _; rw [hcs]; rfl)) ?_
      refine ExA.cons (ρ₁ := [.val (.ref sl), .val (.ref o), .int i, .int v, .int w, .int r.kd, .bool r.looks, .undef, .undef, .undef, .undef, .undef, .undef])
        (Ex1.assignS (vs := [.int r.kd, .bool r.looks]) [Str.ofString "kind", Str.ofString "looks"] [5, 6] nm (by rw [hnames]; rfl) rfl
          (Ev.tuple (Evs.cons (v := .int r.kd) ?_ (Evs.cons (v := .bool r.looks) (Ev.cmp (Ev.bin (Ev.bin (Ev.nm nm 3 (N' rfl) rfl) Ev.int fun _ _ _ _ => op_div (by decide) (by decide)) Ev.int fun _ _ _ _ => op_mod (by decide)) Ev.int fun _ _ _ _ => cmp_eq) Evs.nil)) (by simp)) rfl
          (by show swappedStores _ _ (envX C.cn C.cs C.L C.a C.ccd C.cl) = _; rw [hcs]; rfl)) ?_
      · have hm : v % 6 = ((v % 6).toNat : Int) := by omega
        refine Ev.itemT (vs := [.int 0, .int 1, .int 2, .int 2, .int 2, .int 3]) (j := (v % 6).toNat) (Ev.tuple (Evs.cons Ev.int (Evs.cons Ev.int (Evs.cons Ev.int (Evs.cons Ev.int (Evs.cons Ev.int (Evs.cons Ev.int Evs.nil)))))) (by simp)) ?_ (by omega) ?_
        · rw [← hm]; exact Ev.bin (Ev.nm nm 3 (N' rfl) rfl) Ev.int fun _ _ _ _ => op_mod (by decide)
        · show _ = some (V.int (kindAt (v % 6).toNat))
          have : (v % 6).toNat < 6 := by omega
          generalize (v % 6).toNat = j at this
          match j, this with
          | 0, _ => rfl
          | 1, _ => rfl
          | 2, _ => rfl
          | 3, _ => rfl
          | 4, _ => rfl
          | 5, _ => rfl
          | _ + 6, h => omega
      have h7 : (v / 12 % 7).toNat < 7 := by omega
      have h6 : (v / 84 % 6).toNat < 6 := by omega
      have h4 : (v / 504 % 4).toNat < 4 := by omega
      have h10 : (v / 2016 % 10).toNat < 10 := by omega
      refine ExA.cons (ρ₁ := [.val (.ref sl), .val (.ref o), .int i, .int v, .int w, .int r.kd, .bool r.looks, .str (pform r.fk), .str (wform r.wk), .undef, .undef, .undef, .undef])
        (Ex1.assignS (vs := [.str (pform r.fk), .str (wform r.wk)]) [Str.ofString "form", Str.ofString "whole_form"] [7, 8] nm (by rw [hnames]; rfl) rfl
          (Ev.tuple (Evs.cons (Ev.itemK ok (j := r.fk) k_pforms (Ev.gl ok hcs g_pforms) ?_ (by show (v / 12 % 7).toNat < 1000; omega) (pform_rep h7)) (Evs.cons (Ev.itemK ok (j := r.wk) k_wforms (Ev.gl ok hcs g_wforms) ?_ (by show (v / 84 % 6).toNat < 1000; omega) (wform_rep h6)) Evs.nil)) (by simp)) rfl
          (by show swappedStores _ _ (envX C.cn C.cs C.L C.a C.ccd C.cl) = _; rw [hcs]; rfl)) ?_
      · rw [show ((r.fk : Nat) : Int) = v / 12 % 7 by show (((v / 12 % 7).toNat : Nat) : Int) = _; omega]
        exact Ev.bin (Ev.bin (Ev.nm nm 3 (N' rfl) rfl) Ev.int fun _ _ _ _ => op_div (by decide) (by decide)) Ev.int fun _ _ _ _ => op_mod (by decide)
      · rw [show ((r.wk : Nat) : Int) = v / 84 % 6 by show (((v / 84 % 6).toNat : Nat) : Int) = _; omega]
        exact Ev.bin (Ev.bin (Ev.nm nm 3 (N' rfl) rfl) Ev.int fun _ _ _ _ => op_div (by decide) (by decide)) Ev.int fun _ _ _ _ => op_mod (by decide)
      refine ExA.cons (ρ₁ := [.val (.ref sl), .val (.ref o), .int i, .int v, .int w, .int r.kd, .bool r.looks, .str (pform r.fk), .str (wform r.wk), .str (gapAt r.gk), .int r.pick, .undef, .undef])
        (Ex1.assignS (vs := [.str (gapAt r.gk), .int r.pick]) [Str.ofString "gap", Str.ofString "pick"] [9, 10] nm (by rw [hnames]; rfl) rfl
          (Ev.tuple (Evs.cons (Ev.itemK ok (j := r.gk) k_gaps (Ev.gl ok hcs g_gaps) ?_ (by show (v / 504 % 4).toNat < 1000; omega) (gap_rep h4)) (Evs.cons (v := .int r.pick) ?_ Evs.nil)) (by simp)) rfl
          (by show swappedStores _ _ (envX C.cn C.cs C.L C.a C.ccd C.cl) = _; rw [hcs]; rfl)) ?_
      · rw [show ((r.gk : Nat) : Int) = v / 504 % 4 by show (((v / 504 % 4).toNat : Nat) : Int) = _; omega]
        exact Ev.bin (Ev.bin (Ev.nm nm 3 (N' rfl) rfl) Ev.int fun _ _ _ _ => op_div (by decide) (by decide)) Ev.int fun _ _ _ _ => op_mod (by decide)
      · rw [show ((r.pick : Nat) : Int) = v / 2016 % 10 by show (((v / 2016 % 10).toNat : Nat) : Int) = _; omega]
        exact Ev.bin (Ev.bin (Ev.nm nm 3 (N' rfl) rfl) Ev.int fun _ _ _ _ => op_div (by decide) (by decide)) Ev.int fun _ _ _ _ => op_mod (by decide)
      refine ExA.cons (ρ₁ := [.val (.ref sl), .val (.ref o), .int i, .int v, .int w, .int r.kd, .bool r.looks, .str (pform r.fk), .str (wform r.wk), .str (gapAt r.gk), .int r.pick, r.cells.1, r.cells.2])
        (Ex1.ite (Tst.cmp (Ev.nm nm 10 (N' rfl) rfl) Ev.int fun _ _ _ _ => cmp_lt) (fun hc => ?_) (fun hc => ?_)) ?_
      · have hp2 : r.pick < 2 := by simp at hc; omega
        have e : r.cells = if r.pick = 0 then (.none, .str (gapAt r.gk)) else (.str [], .str []) := by unfold Row.cells caseCell; rw [if_pos hp2]
        refine Ex.cons (Ex1.assign2 (v := r.cells.1) (w := r.cells.2) 11 12 nm (N' rfl) (N' rfl) (Ev.ite (Tst.cmp (Ev.nm nm 10 (N' rfl) rfl) Ev.int fun _ _ _ _ => cmp_eq) (fun hc => ?_) (fun hc => ?_))) Ex.nil
        · rw [e, if_pos (by simp at hc; omega)]
          exact Ev.tuple (Evs.cons Ev.none (Evs.cons (Ev.nm nm 9 (N' rfl) rfl) Evs.nil)) (by simp)
        · rw [e, if_neg (by simp at hc; omega)]
          exact Ev.tuple (Evs.cons (Ev.str (by decide +kernel)) (Evs.cons (Ev.str (by decide +kernel)) Evs.nil)) (by simp)
      · have hp2 : ¬ r.pick < 2 := by simp at hc; omega
        refine Ex.cons (Ex1.ite (Tst.cmp (Ev.nm nm 5 (N' rfl) rfl) Ev.int fun _ _ _ _ => cmp_eq) (fun hc => ?_) (fun hc1 => ?_)) Ex.nil
        · have hk1 : r.kd = 1 := by simp at hc; omega
          have e : r.cells = (.int (caseWhole w), .str (lawWhole (caseWhole w) r.wk)) := by unfold Row.cells caseCell; rw [if_neg hp2, if_pos hk1]; rfl
          rw [e]
          have hcw : (caseWhole w).natAbs < 10 ^ 15 := by
            unfold caseWhole
            have h3 : w % 3 = 0 ∨ w % 3 = 1 ∨ w % 3 = 2 := by omega
            rcases h3 with h | h | h <;> rw [h] <;> omega
          refine Ex.cons (Ex1.assign 11 nm (N' rfl) (v := .int (caseWhole w)) (Ev.bin (Ev.bin (Ev.nm nm 4 (N' rfl) rfl) Ev.int fun _ _ _ _ => op_sub) (Ev.bin Ev.int (Ev.bin (Ev.bin (Ev.nm nm 4 (N' rfl) rfl) Ev.int fun _ _ _ _ => op_mod (by decide)) Ev.int fun _ _ _ _ => op_mul (mulOk_small (by decide))) fun _ _ _ _ => op_add) fun _ _ _ _ => op_mul (mulOk_small (by omega)))) ?_
          refine Ex.cons (Ex1.assign 12 nm (N' rfl) (v := .str (lawWhole (caseWhole w) r.wk)) (Ev.callF ok (keep_fn (by decide) C.w) (Ev.gl ok hcs g_law_whole) (Evs.cons (Ev.nm nm 11 (N' rfl) rfl) (Evs.cons (Ev.nm nm 8 (N' rfl) rfl) Evs.nil)) fun m nn xs hx => whole_fn sl sns (caseWhole w) r.wk hcw C m nn xs hsl hsns okw hx)) Ex.nil
        · have hk1 : ¬ r.kd = 1 := by simp at hc1; omega
          refine Ex.cons (Ex1.ite (Tst.cmp (Ev.nm nm 5 (N' rfl) rfl) Ev.int fun _ _ _ _ => cmp_eq) (fun hc => ?_) (fun hc2 => ?_)) Ex.nil
          · have hk2 : r.kd = 2 := by simp at hc; omega
            have e : r.cells = pointCell w r.pick r.fk r.looks := by unfold Row.cells caseCell; rw [if_neg hp2, if_neg hk1, if_pos hk2]; rfl
            rw [e]
            exact Ex.cons (Ex1.assign2 11 12 nm (N' rfl) (N' rfl) (Ev.callF ok (keep_fn (by decide) C.w) (Ev.gl ok hcs g_law_point_cell) (Evs.cons (Ev.nm nm 4 (N' rfl) rfl) (Evs.cons (Ev.nm nm 10 (N' rfl) rfl) (Evs.cons (Ev.nm nm 7 (N' rfl) rfl) (Evs.cons (Ev.nm nm 6 (N' rfl) rfl) Evs.nil)))) fun m nn xs hx => point_fn sl sns w r.pick r.fk r.looks h10 C m nn xs hsl hsns okp hx)) Ex.nil
          · have hk2 : ¬ r.kd = 2 := by simp at hc2; omega
            have e : r.cells = (lawWord (w % 10).toNat, .str (strOf (lawWord (w % 10).toNat))) := by unfold Row.cells caseCell; rw [if_neg hp2, if_neg hk1, if_neg hk2]; rfl
            rw [e]
            have hm : w % 10 = ((w % 10).toNat : Int) := by omega
            have hun : lawWord (w % 10).toNat ≠ .undef := lawWord_def _
            refine Ex.cons (Ex1.assign 11 nm (N' rfl) (v := lawWord (w % 10).toNat) (Ev.itemK ok (j := (w % 10).toNat) k_words (Ev.gl ok hcs g_words) ?_ (by omega) (word_rep (by omega)))) ?_
            · rw [← hm]; exact Ev.bin (Ev.nm nm 4 (N' rfl) rfl) Ev.int fun _ _ _ _ => op_mod (by decide)
            · exact Ex.cons (Ex1.assign 12 nm (N' rfl) (v := .str (strOf (lawWord (w % 10).toNat))) (Ev.callT (Ev.bl ok hcs g_str b_str) (Evs.cons (Ev.nm nm 11 (N' rfl) rfl hun) Evs.nil) fun m nn xs hx => call_str_word hx)) Ex.nil
      · have hun : r.cells.1 ≠ .undef ∧ r.cells.2 ≠ .undef := cells_def r
        refine ExA.append 1 nm (N' rfl) rfl (Ev.tuple (Evs.cons (Ev.nm nm 11 (N' rfl) rfl hun.1) (Evs.cons (Ev.nm nm 5 (N' rfl) rfl) (Evs.cons (Ev.nm nm 7 (N' rfl) rfl) (Evs.cons (Ev.nm nm 8 (N' rfl) rfl) (Evs.cons (Ev.nm nm 9 (N' rfl) rfl) (Evs.cons (Ev.nm nm 6 (N' rfl) rfl) (Evs.cons (Ev.nm nm 12 (N' rfl) rfl hun.2) Evs.nil))))))) (by simp)) (fun j u hu => ?_) (.inr ⟨_, rfl⟩) rfl ?_ rfl
        · match j, hu with
          | 0, hu => exact .inr hu
          | 1, hu => exact .inr hu
          | 2, hu => cases hu; exact .inl rfl
          | 3, hu => cases hu; exact .inl rfl
          | 4, hu => cases hu; exact .inl rfl
          | 5, hu => cases hu; exact .inl rfl
          | 6, hu => cases hu; exact .inl rfl
          | 7, hu => cases hu; exact .inl rfl
          | 8, hu => cases hu; exact .inl rfl
          | 9, hu => cases hu; exact .inl rfl
          | 10, hu => cases hu; exact .inl rfl
          | 11, hu => cases hu; exact .inl rfl
          | 12, hu => cases hu; exact .inl rfl
          | _ + 13, hu => cases hu
        · show interactive (envX C.cn C.cs C.L C.a C.ccd C.cl) = _; rw [hcs]; rfl
    · refine wpAny_execs_cons (wpAny_Return_some (Ev.nm nm 1 (N' rfl) rfl (by intro h; cases h) m3 n3 g3 _ _ E F3 N3 fun x n4 h4 tk4 s4 r4 F4 N4 => ?_))
      cases r4
      exact hq _ m3 n4 h4 tk4 (fun p hp => s4 p (k3 p hp)) ⟨o, ys, nn, rfl, s4 _ hm3, r3.mono s4⟩ F4 N4
end Mine

end
section
open PySem PySem.W PyProof.Rows PySem.Calls
set_option maxRecDepth 100000
set_option linter.unusedVariables false
namespace Mine
/-- what stays of a ledger when a def's table of codes may have grown -/
abbrev SubX (a b : Led) : Prop := ∀ p ∈ a, p ∈ b ∨ p.2.cls = .none
theorem Sub.toX {a b : Led} (h : Sub a b) : SubX a b := fun p hp => .inl (h p hp)
theorem SubX.trans {a b c : Led} (h : SubX a b) (g : SubX b c) : SubX a c := fun p hp => (h p hp).elim (fun q => g p q) .inr
theorem SubX.toT {a b : Led} (h : SubX a b) : SubT a b := fun p hp e => (h p hp).elim id fun q => by rw [q] at e; cases e
def lamQ : Str := (envOf (Str.ofString "_strip_ansi") { kind := .function, names := [], isGenerator := false, isCoroutine := false } 0 0 .none).qual ++ "<lambda>"
/-- the table of codes of _strip_ansi, as it may stand -/
def TabIn (news : Led) : Prop := ∃ ps, (43, tabObj ps) ∈ news ∧ (ps = #[] ∨ ∃ c' oc vs t, ps = #[rawInt 6, rawInt 27, .ref c'] ∧ (c', oc) ∈ news ∧ oc.data = .fields vs ∧ vs[1]? = some (.str lamQ t))
theorem TabIn.mono {a b : Led} (h : Sub a b) (t : TabIn a) : TabIn b := by
  obtain ⟨ps, hm, r⟩ := t
  refine ⟨ps, h _ hm, r.elim .inl fun ⟨c', oc, vs, t, e, hc, r⟩ => .inr ⟨c', oc, vs, t, e, h _ hc, r⟩⟩
end Mine

end
section
open PySem PySem.W PyProof.Rows PySem.Calls PySem.Spec
set_option maxRecDepth 100000
set_option linter.unusedVariables false
namespace Mine

section
variable {M : Model} {A : Around} {E : Value → Shared → Prop} {s' : Shared} {base g h : Heap} {outer : List Env} {L a e : Addr} {m : Str → Option Value} {name : Str} {scope : Scope} {cd : Value} {Q : Unit → Shared → Prop} {news : Led}
/-- the first note of what is raised, in the frame that catches it -/
theorem note_here {cls : String} (K : Below A base outer g) (hx : Heap.NewExc h s'.heap e cls) (F : Fr g L h m) (N : News g L h news)
    (hQ : ∀ h' G, Fr g L G m → RaisedSN base G (envOf name scope L a cd :: outer) e (.type cls) news h' → G.UpToSlots h' → Q () { s' with heap := h' }) (hk : scope.kind = .function := by rfl) :
    wpAny M (A.deeper (envOf name scope L a cd)) (noteFrame (.ref e) (envOf name scope L a cd)) (fun _ s₁ => wpAny M (A.deeper (envOf name scope L a cd)) (setFlight (.ref e) none) Q E s₁) E s' := by
  have K' := K.push (name := name) (a := a) (cd := cd) F hk
  have hin : ∀ env ∈ (envOf name scope L a cd :: outer), ∀ b, env.frame = some b → b ∈ (envOf name scope L a cd :: outer).filterMap (·.frame) := fun env he b hb => List.mem_filterMap.mpr ⟨env, he, hb⟩
  have st : base.StaysIn (hideAll h ((envOf name scope L a cd :: outer).filterMap (·.frame))) := fun b o q => hideAll_get _ (K'.stays b o q) fun hm => by
    rw [(K'.frames.mem hm).1] at q; cases q
  have sg : ∀ b o, (hideAll h (news.map (·.1))).get? b = some o → b ∉ (envOf name scope L a cd :: outer).filterMap (·.frame) → (hideAll h ((envOf name scope L a cd :: outer).filterMap (·.frame))).get? b = some o := fun b o q nm => hideAll_get _ (of_hideAll _ q) nm
  have FG : Fr g L (hideAll h (news.map (·.1))) m := by
    obtain ⟨oL, es, ep, hL, hLd, hLk⟩ := F.ns
    have nL : L ∉ news.map (·.1) := fun q => by
      obtain ⟨p, hp, e⟩ := List.mem_map.mp q
      exact (N p hp).2.1 e
    refine ⟨⟨oL, es, ep, hideAll_get _ hL nL, hLd, hLk⟩, fun b o e => hideAll_get _ (F.keep b o e) fun q => ?_, F.above⟩
    obtain ⟨p, hp, rfl⟩ := List.mem_map.mp q
    rw [(N p hp).2.2] at e; cases e
  have hl : ∀ q ∈ news, (hideAll h ((envOf name scope L a cd :: outer).filterMap (·.frame))).get? q.1 = some q.2 ∧ (hideAll h (news.map (·.1))).get? q.1 = none ∧ base.get? q.1 = none := fun q hq => by
    refine ⟨hideAll_get _ (N q hq).1 fun hm => ?_, hideAll_none _ (List.mem_map_of_mem hq), fresh_of_stays K.stays (N q hq).2.2⟩
    obtain ⟨env, he, hf⟩ := List.mem_filterMap.mp hm
    rcases List.mem_cons.mp he with rfl | he
    · exact (N q hq).2.1 (Option.some.inj hf).symm
    · obtain ⟨o, ho, _⟩ := (K.frames.mem (List.mem_filterMap.mpr ⟨env, he, hf⟩)).2
      rw [(N q hq).2.2] at ho; cases ho
  obtain ⟨ob, tp, he, hcls, hd⟩ := hx.there
  have hen : (hideAll h ((envOf name scope L a cd :: outer).filterMap (·.frame))).get? e = none := by
    cases q : (hideAll h ((envOf name scope L a cd :: outer).filterMap (·.frame))).get? e with
    | none => rfl
    | some o => have := of_hideAll _ q; rw [hx.new] at this; cases this
  unfold noteFrame
  simp only [show (envOf name scope L a cd).frame = some L from rfl]
  refine wpAny_bind (wpAny_field he hd (x := .none) rfl ?_)
  rw [if_neg (by decide)]
  refine wpAny_entryW (a0 := tp) (A := A.deeper (envOf name scope L a cd)) (outer := outer) (Around.frames_deeper K.stack) ((funFrames_hide K'.frames hin).of_keeps fun b o hb _ => ⟨o, hx.keeps b o hb, rfl⟩) rfl he (fun b o hb => hx.keeps b o (of_hideAll _ hb)) hen hd (by show 1 < 6; decide) rfl fun h' hN => ?_
  obtain ⟨k1, k2, k3, k4⟩ := hN
  refine wpAny_landsW (a0 := tp) (cls := .type cls) (L := L) (e := e) ⟨k1, hen, k2, by rw [← hcls]; exact k3⟩ fun h'' hfl hsm => ?_
  exact hQ h'' _ FG ⟨_, tp, st, sg, hl, hfl⟩ (((Heap.UpToSlots.of_keeps fun b o q => of_hideAll _ q).trans (Heap.UpToSlots.of_keeps hx.keeps)).trans (Heap.UpToSlots.trans k4 hsm))
end

/-- an expression that raises -/
def EvR (C : Cx) (e : Expr) (ρ : List V) (X : String) : Prop := ∀ m news, Agree C.names m news ρ → ∀ (s : Shared) (Q : Value → Shared → Prop) (E : Value → Shared → Prop), Fr C.h₀ C.L s.heap m → News C.h₀ C.L s.heap news →
    (∀ (news' : Led) (h h' : Heap) (a : Addr) (tk' : Nat), Sub news news' → Fr C.h₀ C.L h m → News C.h₀ C.L h news' → Heap.NewExc h h' a X → E (.ref a) { s with heap := h', toks := tk' }) → wpAny C.M C.A (eval e C.env) Q E s
def ExR (C : Cx) (ss : List Stmt) (ρ : List V) (X : String) : Prop := ∀ m news, Agree C.names m news ρ → ∀ (s : Shared) (Q : Flow → Shared → Prop) (E : Value → Shared → Prop), Fr C.h₀ C.L s.heap m → News C.h₀ C.L s.heap news →
    (∀ (news' : Led) (h h' : Heap) (a : Addr) (tk' : Nat), Sub news news' → Fr C.h₀ C.L h m → News C.h₀ C.L h news' → Heap.NewExc h h' a X → E (.ref a) { s with heap := h', toks := tk' }) → wpAny C.M C.A (execs ss C.env) Q E s

structure Turn (C : Cx) (g : Heap) : Prop where
  T : KtsTurn (C.outer.filterMap (·.frame)) C.h₀ g
  B : Below C.A₀ C.base C.outer g
  D : KtsDicts (C.outer.filterMap (·.frame)) g
theorem Turn.refl {C : Cx} {k : Nat} (ok : C.Ok k) : Turn C C.h₀ := ⟨.refl, ok.B, ok.D⟩

def GoT {α : Type} (C : Cx) (m : Str → Option Value) (news : Led) (t : Sem α) (P : Led → α → Prop) : Prop :=
  ∀ (s : Shared) (Q : α → Shared → Prop) (E : Value → Shared → Prop), Fr C.h₀ C.L s.heap m → News C.h₀ C.L s.heap news →
    TabIn news → (∀ (g : Heap) (x : α) (news' : Led) (h' : Heap) (tk' : Nat), Turn C g → SubX news news' → TabIn news' → P news' x → Fr g C.L h' m → News g C.L h' news' → Q x { s with heap := h', toks := tk' }) →
    wpAny C.M C.A t Q E s
def EvT (C : Cx) (e : Expr) (ρ : List V) (v : V) : Prop := ∀ m news, Agree C.names m news ρ → GoT C m news (eval e C.env) (fun n x => Rep n v x)
def ExT (C : Cx) (ss : List Stmt) (ρ : List V) (v : V) : Prop := ∀ m news, Agree C.names m news ρ → ∀ (s : Shared) (Q : Flow → Shared → Prop) (E : Value → Shared → Prop), Fr C.h₀ C.L s.heap m → News C.h₀ C.L s.heap news →
    TabIn news → (∀ (g : Heap) (x : Value) (m' : Str → Option Value) (news' : Led) (h' : Heap) (tk' : Nat), Turn C g → SubX news news' → TabIn news' → Rep news' v x → Fr g C.L h' m' → News g C.L h' news' → Q (.ret x) { s with heap := h', toks := tk' }) →
    wpAny C.M C.A (execs ss C.env) Q E s

section
variable {C : Cx} {ρ : List V} {k : Nat}
theorem ExT.of {ss : List Stmt} {v : V} (ok : C.Ok k) (h : Ex C ss ρ (.ret v)) : ExT C ss ρ v := fun m news g s Q E F N tb hq =>
  h m news g s Q E F N fun fl m' n' h' tk' sub o F' N' => by
    obtain ⟨x, rfl, r⟩ := o
    exact hq C.h₀ x m' n' h' tk' (.refl ok) sub.toX (tb.mono sub) r F' N'
theorem EvT.of {e : Expr} {v : V} (ok : C.Ok k) (h : Ev C e ρ v) : EvT C e ρ v := fun m news g s Q E F N tb hq =>
  h m news g s Q E F N fun x n' h' tk' sub r F' N' => hq C.h₀ x n' h' tk' (.refl ok) sub.toX (tb.mono sub) r F' N'
theorem ExT.cons {st : Stmt} {rest : List Stmt} {ρ' : List V} {v : V} (h : Ex1 C st ρ (.next ρ')) (hr : ExT C rest ρ' v) : ExT C (st :: rest) ρ v := fun m news g s Q E F N tb hq =>
  wpAny_execs_cons (h m news g s _ E F N fun fl m1 n1 h1 tk1 s1 o1 F1 N1 => by
    obtain ⟨rfl, g1⟩ := o1
    exact hr m1 n1 g1 _ Q E F1 N1 (tb.mono s1) fun g x m2 n2 h2 tk2 t2 s2 b2 o2 F2 N2 => hq g x m2 n2 h2 tk2 t2 (s1.toX.trans s2) b2 o2 F2 N2)
theorem ExT.ite {t : Expr} {b o rest : List Stmt} {pos : Pos} {c : Bool} {v : V} (ht : Tst C t ρ c) (h1 : c = true → ExT C b ρ v) (h2 : c = false → ExT C o ρ v) : ExT C (.If t b o pos :: rest) ρ v := fun m news g s Q E F N tb hq =>
  wpAny_execs_cons (wpAny_If (ht m news g s _ E F N fun d n1 h1' tk1 s1 r1 F1 N1 => by
    subst r1
    cases d with
    | true => exact h1 rfl m n1 (g.mono s1) _ _ E F1 N1 (tb.mono s1) fun g x m2 n2 h2 tk2 t2 s2 b2 r2 F2 N2 => hq g x m2 n2 h2 tk2 t2 (s1.toX.trans s2) b2 r2 F2 N2
    | false => exact h2 rfl m n1 (g.mono s1) _ _ E F1 N1 (tb.mono s1) fun g x m2 n2 h2 tk2 t2 s2 b2 r2 F2 N2 => hq g x m2 n2 h2 tk2 t2 (s1.toX.trans s2) b2 r2 F2 N2))
theorem ExT.ret {e : Expr} {pos : Pos} {rest : List Stmt} {v : V} (h : EvT C e ρ v) : ExT C (.Return (some e) pos :: rest) ρ v := fun m news g s Q E F N tb hq =>
  wpAny_execs_cons (wpAny_Return_some (h m news g s _ E F N tb fun g x n1 h1 tk1 t1 s1 b1 r1 F1 N1 => hq g x m n1 h1 tk1 t1 s1 b1 r1 F1 N1))
theorem ExR.ret {e : Expr} {pos : Pos} {rest : List Stmt} {X : String} (h : EvR C e ρ X) : ExR C (.Return (some e) pos :: rest) ρ X := fun m news g s Q E F N hq =>
  wpAny_execs_cons (wpAny_Return_some (h m news g s _ E F N hq))
theorem ExR.assign {x : Str} {p pos : Pos} {e : Expr} {rest : List Stmt} {X : String} (h : EvR C e ρ X) (hs : swapsWith e (some (.Name x p)) pos.line C.env = pure false := by rfl) : ExR C (.Assign [.Name x p] e pos :: rest) ρ X := fun m news g s Q E F N hq =>
  wpAny_execs_cons (wpAny_Assign_Name (h m news g s _ E F N hq) hs)
end
theorem testVT (w : World) {name : Str} {scope : Scope} {L a : Addr} {cd : Value} {mg mb : Str → Option Value} {p1 p2 tpos : Pos} {kk : Nat} (hk : scope.kind = .function)
    (k1 : (envOf name scope L a cd).kindOf (Str.ofString "ValueError") = some .globalImplicit) (k2 : (envOf name scope L a cd).kindOf (Str.ofString "TypeError") = some .globalImplicit) :
    KtsTest P0 w (K0 w) topProg loose0 mg mb name scope L a cd (.type "ValueError") (.Tuple [.Name (Str.ofString "ValueError") p1, .Name (Str.ofString "TypeError") p2] kk tpos) true :=
  test_tup2 (.inr ⟨by rfl, by rfl, by decide⟩) (.inr ⟨by rfl, by rfl, by decide⟩) (by rfl) hk k1 (by decide) k2 (by decide)
theorem fieldA {C : Cx} {A : Around} {v : V} {x : Str} {m : Str → Option Value} {news : Led} {g : Heap} {s : Shared} {Q : Flow → Shared → Prop} {E : Value → Shared → Prop} {y : Value} {px p1 p2 p3 : Pos} (hv : (∃ l, v = .str l ∧ l.length < 1000) ∨ (∃ i : Int, v = .int i ∧ i.natAbs < 1000) ∨ (∃ c, v = .bool c))
    (hk : C.cs.kind = .function) (hl : C.env.kindOf x = some .local) (hd : (x == ("__debug__" : Str)) = false) (F : Fr g C.L s.heap m) (N : News g C.L s.heap news) (hm : m x = some y) (hr : Rep news v y)
    (h : ∀ z tk, Rep news (.str (strOf v)) z → Q (.ret z) { s with toks := tk }) :
    wpAny C.M A (execs [.Return (some (.JoinedStr [.FormattedValue (.Name x px) (-1) Option.none p1] p2)) p3] C.env) Q E s := by
  refine wpAny_execs_cons (wpAny_Return_some (PyProof.Rows.JoinedStr_one (PyProof.Rows.FormattedValue_plain (nameX_L F hm ?_ hk hl hd))))
  rcases hv with ⟨l, rfl, hl⟩ | ⟨i, rfl, hi⟩ | ⟨c, rfl⟩
  · cases hr; exact PyProof.Rows.formatField_str (fun t' tk => h _ _ (.str _ _)) (by rw [str_len, line_is]; omega)
  · cases hr
    refine wpAny_formatField_int ?_ ?_
    · by_cases h0 : i.natAbs = 0
      · rw [h0]; decide
      · have := (Nat.log2_lt h0).mpr (show i.natAbs < 2 ^ 10 by omega); omega
    · rw [ofString_txt]; exact h _ _ (.str _ _)
  · cases hr
    refine wpAny_formatField_bool ?_
    cases c <;> (simp only [Bool.false_eq_true, if_true, if_false]; rw [ofString_txt]; exact h _ _ (.str _ _))

theorem ExT.tryR {C : Cx} {ρ : List V} {k : Nat} {body rest : List Stmt} {v : V} {x : Str} {px p1 p2 p3 p4 pos q1 q2 tpos : Pos} {kk : Nat} (ok : C.Ok k) (nm : C.Nm) (hA : C.A = C.A₀.deeper C.env) (hE : C.env = envOf C.cn C.cs C.L C.a C.ccd) (i : Nat) (hx : C.names[i]? = some x) (hρ : ρ[i]? = some v)
    (hv : (∃ l, v = .str l ∧ l.length < 1000) ∨ (∃ i : Int, v = .int i ∧ i.natAbs < 1000) ∨ (∃ c, v = .bool c)) (hb : ExR C body ρ "ValueError")
    (k1 : C.env.kindOf (Str.ofString "ValueError") = some .globalImplicit) (k2 : C.env.kindOf (Str.ofString "TypeError") = some .globalImplicit) :
    ExT C (.Try body [.ExceptHandler (some (.Tuple [.Name (Str.ofString "ValueError") q1, .Name (Str.ofString "TypeError") q2] kk tpos)) Option.none [.Return (some (.JoinedStr [.FormattedValue (.Name x px) (-1) Option.none p1] p2)) p3] p4] [] [] pos :: rest) ρ (.str (strOf v)) := fun m news g s Q E F N tb hq => by
  refine wpAny_execs_cons (wpAny_Try_except (hb m news g s _ _ F N fun n1 h h' e tk' sub F' N' X => ?_))
  obtain ⟨y, hy, ry⟩ := g i x v hx hρ (by rintro rfl; rcases hv with ⟨_, h, _⟩ | ⟨_, h, _⟩ | ⟨_, h⟩ <;> cases h)
  have hkl : C.env.kindOf x = some .local := nm.loc x (List.mem_of_getElem? hx)
  have hdb : (x == ("__debug__" : Str)) = false := nm.dbg x (List.mem_of_getElem? hx)
  have hfa := fun (A : Around) (g' : Heap) (s : Shared) (Q : Flow → Shared → Prop) (E : Value → Shared → Prop) (F : Fr g' C.L s.heap m) (N : News g' C.L s.heap n1) => @fieldA C A v x m n1 g' s Q E y px p1 p2 p3 hv nm.fn hkl hdb F N hy (ry.mono sub)
  rw [hA]
  rw [hE] at hfa k1 k2 ⊢
  refine note_here (h := h) (cls := "ValueError") ok.B X F' N' (fun h₂ G FG R S => ?_) nm.fn
  refine wpAny_mono (Q := _) (E := fun _ _ => False) ?_ (fun _ _ h => h) (fun _ _ h => h.elim)
  refine hit_SN0 (g₀ := C.h₀) R FG ok.B S ok.XB ok.TB ok.D .refl (testVT C.w nm.fn k1 k2) (fun h₃ g₃ T₃ F₃ N₃ B₃ X₃ P₃ D₃ => ?_) ?_
  · exact hfa _ g₃ _ _ _ F₃ N₃ fun z tk rz => hq g₃ z m n1 h₃ tk ⟨T₃, B₃, D₃⟩ sub.toX (tb.mono sub) rz F₃ N₃
  · passes_own

theorem enterT {sl : Addr} {sns : List Int} {f : Addr} {k : Nat} {vs : List V} {v : V} {name qual : Str} {params : Arguments} {body : List Stmt} {scope : Scope} {dV kV doc pm cdv ct oc : Value} {an od : Option Addr} {osl : Array (Option Value)} (names ps : List Str) (j : Nat)
    (ho : ∀ w, List.lookup f (K0 w) = some { cls := oc, dict := od, data := .func (fnOf name qual params body scope dV kV doc pm an cdv ct), slots := osl })
    (hcd : ∀ w, codeIn (K0 w) cdv qual = true)
    (hbind : ∀ (w : World) (s : Shared) (xs : List Value), (K0 w).In s.heap → xs.length = ps.length → BindsTo s (fnOf name qual params body scope dV kV doc pm an cdv ct) ⟨xs, []⟩ (ps.zip xs))
    (hkinds : (names.all fun x => scope.names.lookup x == some .local && !(x == ("__debug__" : Str))) = true) (hnd : names.Nodup) (hp : names.take ps.length = ps) (hl : ps.length = vs.length)
    (hco : scope.isCoroutine = false) (hgen : scope.isGenerator = false) (hk : scope.kind = .function) (hcell : (scope.names.all fun x => x.2 != .cell) = true)
    (hbody : ∀ C : Cx, C.sl = sl → C.sns = sns → C.Ok k → C.Nm → C.cs = scope → C.names = names → C.A = C.A₀.deeper C.env → C.env = envOf C.cn C.cs C.L C.a C.ccd → ExT C body (vs ++ List.replicate j .undef) v) :
    ∀ (C : Cx) (m : Str → Option Value) (news : Led) (xs : List Value), C.sl = sl → C.sns = sns → C.env = envOf C.cn C.cs C.L C.a C.ccd → C.Ok (k + 1) → Reps news vs xs → GoT C m news (call (.ref f) xs) fun n z => Rep n v z := by
  intro C m news xs hsl hsns hE ok hr s Q E F N tb hq
  have hkl : ∀ x ∈ names, scope.names.lookup x = some .local := fun x hx => by have := List.all_eq_true.mp hkinds x hx; simp only [Bool.and_eq_true] at this; simpa using this.1
  have hdb : ∀ x ∈ names, (x == ("__debug__" : Str)) = false := fun x hx => by have := List.all_eq_true.mp hkinds x hx; simp only [Bool.and_eq_true] at this; simpa using this.2
  refine wpAny_call (code_defS (binds := ps.zip xs) (dV := dV) (kV := kV) ok.B F ok.X N ok.T ok.XB ok.TB ok.D .refl (by show some (C.env :: C.outer) = _; rw [hE]) (ho C.w) (hcd C.w) (by have := ok.dep; show C.dp < 1000; omega) (hbind C.w s xs (ok.X.keeps F.keep) (by rw [hr.length, hl])) ?_ ?_ ok.fn hco hgen hk ?_)
  · intro y hy
    refine hkl y.1 ?_
    rw [← hp] at hy
    exact List.mem_of_mem_take (List.of_mem_zip hy).1
  · intro g L' h₁ FG F' N' B' X' T' D'
    rw [← hE] at B' D' ⊢
    let C' : Cx := { C with dp := C.dp + 1, un := C.un + 3, cn := qual, cs := scope, a := f, ccd := cdv, cl := [], outer := C.env :: C.outer, A₀ := C.A, h₀ := g, L := L', names := names }
    have ok' : C'.Ok k := ⟨B', X', T', hk, (let ⟨o, e, r⟩ := ok.lst; ⟨o, FG.keep _ _ e, r⟩), ok.iar, ok.few, ok.bits, ok.XB, ok.TB, D', (by have := ok.dep; show C.dp + 1 + k < 990; omega), (by have := ok.uni; show C.un + 3 + 10 * k < 9000; omega)⟩
    have nm' : C'.Nm := ⟨hnd, hkl, hdb, hk⟩
    refine hbody C' hsl hsns ok' nm' rfl rfl rfl rfl _ news (agree_init hnd hp hl hr) _ _ _ F' N' tb ?_
    intro g₂ x m' news' h' tk' T2 sub tb2 rx F2 N2
    refine leaveS_r F2 N2 T2.T fun h₀' T3 F3 N3 B3 X3 P3 D3 => ?_
    exact hq h₀' x news' h' tk' ⟨T3, B3, D3⟩ sub tb2 rx F3 N3
  · intro x hx e
    have := List.all_eq_true.mp hcell x hx
    rw [e] at this
    exact absurd this (by decide)

/-- a step that may let a def's table of codes grow -/
def GoX {α : Type} (C : Cx) (m : Str → Option Value) (news : Led) (t : Sem α) (P : Nat → Nat → Led → α → Prop) : Prop :=
  ∀ (s : Shared) (Q : α → Shared → Prop) (E : Value → Shared → Prop), Fr C.h₀ C.L s.heap m → News C.h₀ C.L s.heap news → TabIn news →
    (∀ (x : α) (news' : Led) (h' : Heap) (tk' : Nat), SubX news news' → TabIn news' → P s.toks tk' news' x → Fr C.h₀ C.L h' m → News C.h₀ C.L h' news' → Q x { s with heap := h', toks := tk' }) →
    wpAny C.M C.A t Q E s
theorem GoT.top {α : Type} {C : Cx} {m : Str → Option Value} {news : Led} {t : Sem α} {P : Led → α → Prop} (ho : C.outer = []) (h : GoT C m news t P) : GoX C m news t (fun _ _ n x => P n x) := fun s Q E F N tb hq =>
  h s Q E F N tb fun g x n h' tk T sub b p F' N' => by
    have T1 := T.T
    rw [ho] at T1
    have hk : ∀ b o, C.h₀.get? b = some o → g.get? b = some o := fun b o e => T1.other b o e (by simp)
    refine hq x n h' tk sub b p ⟨F'.ns, fun b o e => F'.keep b o (hk b o e), by rw [← T1.size]; exact F'.above⟩ fun p hp => ⟨(N' p hp).1, (N' p hp).2.1, ?_⟩
    cases q : C.h₀.get? p.1 with
    | none => rfl
    | some o => have := (N' p hp).2.2; rw [hk _ _ q] at this; cases this
end Mine

end
section
open PySem PySem.W PyProof.Rows PySem.Calls PySem.Spec
set_option maxRecDepth 100000
set_option linter.unusedVariables false
namespace Mine

theorem EvT.callF {C : Cx} {ρ : List V} {f : Expr} {e : Expr} {es : List Expr} {pos : Pos} {fv : Value} {vs : List V} {v : V} {k : Nat} (ok : C.Ok k) (hkeep : keepIn (K0 C.w) fv = true) (hf : Ev C f ρ (.val fv)) (ha : Evs C (e :: es) ρ vs)
    (hop : ∀ m news xs, Reps news vs xs → GoT C m news (call fv xs) fun n z => Rep n v z)
    (h0 : eval (.Call f (e :: es) [] pos) C.env = (do let g ← eval f C.env; callWith pos g [] (backTo pos (starEach (e :: es) C.env)) (backToKw pos (keywordEach [] C.env))) := by rfl)
    (h1 : starEach (e :: es) C.env = (false, eval e C.env) :: starEach es C.env := by rfl)
    (h2 : ((backTo pos (starEach es C.env)).any fun x => x.1) = false := by rfl) : EvT C (.Call f (e :: es) [] pos) ρ v := fun m news g s Q E F N tb hq =>
  Call_ (hf m news g s _ E F N fun fv' n1 h1' tk1 s1 r1 F1 N1 => by
    cases r1
    exact callWith_K ok.X hkeep (ha m n1 pos (g.mono s1) _ _ E F1 N1 fun xs n2 h2' tk2 s2 r2 F2 N2 => ⟨ok.X.keeps F2.keep, hop m n2 xs r2 _ Q E F2 N2 (tb.mono (s1.trans s2)) fun g z n3 h3 tk3 T3 s3 b3 r3 F3 N3 => hq g z n3 h3 tk3 T3 ((s1.trans s2).toX.trans s3) b3 r3 F3 N3⟩) h1 h2) h0

theorem ExT.iteR {C : Cx} {ρ : List V} {t : Expr} {b rest : List Stmt} {pos : Pos} {c : Bool} {v : V} (ht : Tst C t ρ c) (h1 : c = true → ExT C b ρ v) (h2 : c = false → ExT C rest ρ v) : ExT C (.If t b [] pos :: rest) ρ v := fun m news g s Q E F N tb hq =>
  wpAny_execs_cons (wpAny_If (ht m news g s _ E F N fun d n1 h1' tk1 s1 r1 F1 N1 => by
    subst r1
    cases d with
    | true => exact h1 rfl m n1 (g.mono s1) _ _ E F1 N1 (tb.mono s1) fun g x m2 n2 h2 tk2 t2 s2 b2 r2 F2 N2 => hq g x m2 n2 h2 tk2 t2 (s1.toX.trans s2) b2 r2 F2 N2
    | false => exact wpAny_execs_nil (h2 rfl m n1 (g.mono s1) _ _ E F1 N1 (tb.mono s1) fun g x m2 n2 h2 tk2 t2 s2 b2 r2 F2 N2 => hq g x m2 n2 h2 tk2 t2 (s1.toX.trans s2) b2 r2 F2 N2)))

theorem assign_tup {C : Cx} {ρ : List V} {xs : List (Str × Pos)} {k : Nat} {tp : Pos} {vs : List V} (is : List Nat) (nm : C.Nm) (hi : is.map (C.names[·]?) = (xs.map (·.1)).map some) (hl : vs.length = xs.length)
    {m : Str → Option Value} {news : Led} {s : Shared} {Q : Unit → Shared → Prop} {E : Value → Shared → Prop} {y : Value} (F : Fr C.h₀ C.L s.heap m) (N : News C.h₀ C.L s.heap news) (g : Agree C.names m news ρ) (r : Rep news (.tup vs) y)
    (h : ∀ m' h' tk', Agree C.names m' news (setAll ρ is vs) → Fr C.h₀ C.L h' m' → News C.h₀ C.L h' news → Q () { s with heap := h', toks := tk' })
    (hn : (assignEach (xs.map fun x => .Name x.1 x.2) C.env).length = xs.length)
    (hm : (assignEach (xs.map fun x => .Name x.1 x.2) C.env).map (·.2) = xs.map fun x => PySem.assign (.Name x.1 x.2) C.env)
    (hstar : (assignEach (xs.map fun x => .Name x.1 x.2) C.env).findIdx? (·.1) = none) :
    wpAny C.M C.A (PySem.assign (.Tuple (xs.map fun x => .Name x.1 x.2) k tp) C.env y) Q E s := by
  cases r with
  | tup _ a ys hmem hr =>
  refine unpackN_ F N (N.isTup hmem) rfl (by rw [hn, List.size_toArray, hr.length, hl]) hstar fun h' F' N' => ?_
  rw [hm]
  have key : ∀ (zs : List (Str × Pos)) (is : List Nat) (vs : List V) (ys : List Value) (ρ : List V) (m : Str → Option Value) (s : Shared) (Q : Unit → Shared → Prop), is.map (C.names[·]?) = (zs.map (·.1)).map some → vs.length = zs.length → Reps news vs ys →
      Fr C.h₀ C.L s.heap m → News C.h₀ C.L s.heap news → Agree C.names m news ρ →
      (∀ m' h' tk', Agree C.names m' news (setAll ρ is vs) → Fr C.h₀ C.L h' m' → News C.h₀ C.L h' news → Q () { s with heap := h', toks := tk' }) →
      wpAny C.M C.A (assignInOrder (zs.map fun x => PySem.assign (.Name x.1 x.2) C.env) ys) Q E s := by
    intro zs
    induction zs with
    | nil =>
      intro is vs ys ρ m s Q hi hl hr F N g h
      cases is with
      | cons a b => cases hi
      | nil => cases vs with
        | cons a b => cases hl
        | nil => cases hr; exact wpAny_pure (h m s.heap s.toks g F N)
    | cons z zs ih =>
      intro is vs ys ρ m s Q hi hl hr F N g h
      cases is with
      | nil => cases hi
      | cons i is => cases vs with
        | nil => cases hl
        | cons v vs => cases hr with
          | cons r rs =>
            rename_i y ys
            simp only [List.map_cons, List.cons.injEq] at hi
            show wpAny _ _ (do holding ys (PySem.assign (.Name z.1 z.2) C.env y); assignInOrder (zs.map fun x => PySem.assign (.Name x.1 x.2) C.env) ys) Q E s
            refine wpAny_bind (wpAny_holding (assign_Name (store_slot nm hi.1 F N g r fun m' h' tk' g' F' N' => ?_)))
            exact ih is vs ys _ m' _ Q hi.2 (by simpa using hl) rs F' N' g' h
  exact key xs is vs ys ρ m _ _ hi hl hr F' N' g h

def kdTy : Nat → String
  | 0 => "str" | 1 => "int" | 2 => "float" | _ => "bool"

/-- what the law asks of _format at one row -/
def FmtOk (sl : Addr) (sns : List Int) (r : Row) : Prop := ∀ (C : Cx) (m : Str → Option Value) (news : Led) (xs : List Value), C.sl = sl → C.sns = sns → C.env = envOf C.cn C.cs C.L C.a C.ccd → C.Ok 6 →
  Reps news [r.cells.1, .val (.type (kdTy r.kd)), .str (pform r.fk), .str (wform r.wk), .str (gapAt r.gk), .bool r.looks] xs → GoT C m news (call (.ref 56) xs) fun n z => Rep n r.cells.2 z

theorem told_fn (sl : Addr) (sns : List Int) (r : Row) (hkd : r.kd ≤ 3) (H : FmtOk sl sns r) : ∀ (C : Cx) (m : Str → Option Value) (news : Led) (xs : List Value), C.sl = sl → C.sns = sns → C.env = envOf C.cn C.cs C.L C.a C.ccd → C.Ok (6 + 1) →
    Reps news [r.cells.1, .int r.kd, .str (pform r.fk), .str (wform r.wk), .str (gapAt r.gk), .bool r.looks] xs → GoT C m news (call (.ref 137) xs) fun n z => Rep n r.cells.2 z := by
  have hd := cells_def r
  refine enterT [Str.ofString "cell", Str.ofString "kind", Str.ofString "form", Str.ofString "whole_form", Str.ofString "gap", Str.ofString "looks"] [Str.ofString "cell", Str.ofString "kind", Str.ofString "form", Str.ofString "whole_form", Str.ofString "gap", Str.ofString "looks"] 0 (fun w => by rfl) (fun w => by rfl) (fun w s xs X h => ?_) (by decide +kernel) (by decide +kernel) (by decide +kernel) rfl rfl rfl rfl (by decide +kernel) ?_
  · match xs, h with
    | [a, b, c, d, e, f], _ => exact BindsTo.of_eq rfl
  · intro C hsl hsns ok nm hcs hnames hA hE
    have N : ∀ {i : Nat} {x : Str}, [Str.ofString "cell", Str.ofString "kind", Str.ofString "form", Str.ofString "whole_form", Str.ofString "gap", Str.ofString "looks"][i]? = some x → C.names[i]? = some x := fun h => by rw [hnames]; exact h
    have fin : ∀ {ρ : List V} {x : Str} {ty : String} {p0 p1 p2 p3 p4 p5 p6 pos : Pos}, kdTy r.kd = ty → Ev C (.Name x p2) [r.cells.1, .int r.kd, .str (pform r.fk), .str (wform r.wk), .str (gapAt r.gk), .bool r.looks] (.val (.type ty)) →
        starEach [.Name (Str.ofString "cell") p1, .Name x p2, .Name (Str.ofString "form") p3, .Name (Str.ofString "whole_form") p4, .Name (Str.ofString "gap") p5, .Name (Str.ofString "looks") p6] C.env = (false, eval (.Name (Str.ofString "cell") p1) C.env) :: starEach [.Name x p2, .Name (Str.ofString "form") p3, .Name (Str.ofString "whole_form") p4, .Name (Str.ofString "gap") p5, .Name (Str.ofString "looks") p6] C.env →
        EvT C (.Call (.Name (Str.ofString "_format") p0) [.Name (Str.ofString "cell") p1, .Name x p2, .Name (Str.ofString "form") p3, .Name (Str.ofString "whole_form") p4, .Name (Str.ofString "gap") p5, .Name (Str.ofString "looks") p6] [] pos) [r.cells.1, .int r.kd, .str (pform r.fk), .str (wform r.wk), .str (gapAt r.gk), .bool r.looks] r.cells.2 := by
      intro ρ x ty p0 p1 p2 p3 p4 p5 p6 pos hk hx hst
      refine EvT.callF ok (keep_fn (by decide) C.w) (Ev.gl ok hcs g_fmt) (Evs.cons (Ev.nm nm 0 (N rfl) rfl hd.1) (Evs.cons hx (Evs.cons (Ev.nm nm 2 (N rfl) rfl) (Evs.cons (Ev.nm nm 3 (N rfl) rfl) (Evs.cons (Ev.nm nm 4 (N rfl) rfl) (Evs.cons (Ev.nm nm 5 (N rfl) rfl) Evs.nil))))) hst) (fun m n xs hx => H C m n xs hsl hsns hE ok (by rw [hk]; exact hx)) rfl hst rfl
    refine ExT.iteR (c := ((r.kd : Int) == 0)) (Tst.cmp (Ev.nm nm 1 (N rfl) rfl) Ev.int fun _ _ _ _ => cmp_eq) (fun hc => ExT.ret (fin (ρ := []) (ty := "str") (by simp at hc; rw [hc]; rfl) (Ev.bl ok hcs g_str b_str) rfl)) fun h0 => ?_
    refine ExT.iteR (c := ((r.kd : Int) == 1)) (Tst.cmp (Ev.nm nm 1 (N rfl) rfl) Ev.int fun _ _ _ _ => cmp_eq) (fun hc => ExT.ret (fin (ρ := []) (ty := "int") (by simp at hc; rw [show r.kd = 1 by omega]; rfl) (Ev.bl ok hcs g_int b_int) rfl)) fun h1 => ?_
    refine ExT.iteR (c := ((r.kd : Int) == 2)) (Tst.cmp (Ev.nm nm 1 (N rfl) rfl) Ev.int fun _ _ _ _ => cmp_eq) (fun hc => ExT.ret (fin (ρ := []) (ty := "float") (by simp at hc; rw [show r.kd = 2 by omega]; rfl) (Ev.bl ok hcs g_float b_float) rfl)) fun h2 => ?_
    simp at h0 h1 h2
    exact ExT.ret (fin (ρ := []) (ty := "bool") (by rw [show r.kd = 3 by omega]; rfl) (Ev.bl ok hcs g_bool b_bool) rfl)

end Mine

end
section
open PySem PySem.W PyProof.Rows PySem.Calls PySem.Spec
set_option maxRecDepth 100000
set_option linter.unusedVariables false
namespace Mine

theorem lawMk {Gl : Cx → List Stmt → Prop} {name qual : Str} {params : Arguments} {body : List Stmt} {scope : Scope} {dV kV doc pm cdv ct oc : Value} {an od : Option Addr} {osl : Array (Option Value)}
    (ho : ∀ w, List.lookup 144 (K0 w) = some { cls := oc, dict := od, data := .func (fnOf name qual params body scope dV kV doc pm an cdv ct), slots := osl })
    (hbody : ∀ C : Cx, C.cs = scope → Gl C body) :
    ∀ {name' qual' : Str} {params' : Arguments} {body' : List Stmt} {scope' : Scope} {dV' kV' doc' pm' cdv' ct' oc' : Value} {an' od' : Option Addr} {osl' : Array (Option Value)}
    (ho' : ∀ w, List.lookup 144 (K0 w) = some { cls := oc', dict := od', data := .func (fnOf name' qual' params' body' scope' dV' kV' doc' pm' an' cdv' ct'), slots := osl' }) (C : Cx), C.cs = scope' → Gl C body' := by
  intro name' qual' params' body' scope' dV' kV' doc' pm' cdv' ct' oc' an' od' osl' ho' C hC
  have h := (ho C.w).symm.trans (ho' C.w)
  injection h with h
  injection h with h1 h2 h3 h4
  injection h3 with h3
  unfold fnOf at h3
  injection h3
  subst_vars
  have hb : FuncBody.stmts body = FuncBody.stmts body' := by assumption
  injection hb with hb
  subst hb
  exact hbody C rfl

theorem go_callF {C : Cx} {ρ : List V} {f : Expr} {e : Expr} {es : List Expr} {pos : Pos} {fv : Value} {vs : List V} {P : Led → Value → Prop} {k : Nat} (ok : C.Ok k) (hkeep : keepIn (K0 C.w) fv = true) (hf : Ev C f ρ (.val fv)) (ha : Evs C (e :: es) ρ vs)
    (hop : ∀ m news xs, Reps news vs xs → Go C C.A m news (call fv xs) P)
    (h0 : eval (.Call f (e :: es) [] pos) C.env = (do let g ← eval f C.env; callWith pos g [] (backTo pos (starEach (e :: es) C.env)) (backToKw pos (keywordEach [] C.env))) := by rfl)
    (h1 : starEach (e :: es) C.env = (false, eval e C.env) :: starEach es C.env := by rfl)
    (h2 : ((backTo pos (starEach es C.env)).any fun x => x.1) = false := by rfl) {m : Str → Option Value} {news : Led} (g : Agree C.names m news ρ) : Go C C.A m news (eval (.Call f (e :: es) [] pos) C.env) P := fun s Q E F N hq =>
  Call_ (hf m news g s _ E F N fun fv' n1 h1' tk1 s1 r1 F1 N1 => by
    cases r1
    exact callWith_K ok.X hkeep (ha m n1 pos (g.mono s1) _ _ E F1 N1 fun xs n2 h2' tk2 s2 r2 F2 N2 => ⟨ok.X.keeps F2.keep, hop m n2 xs r2 _ Q E F2 N2 fun z n3 h3 tk3 s3 r3 F3 N3 => hq z n3 h3 tk3 (s1.trans (s2.trans s3)) r3 F3 N3⟩) h1 h2) h0

theorem Reps.get {n : Led} : ∀ {a : List V} {b : List Value} {i : Nat} {x : Value}, Reps n a b → b[i]? = some x → ∃ v, a[i]? = some v ∧ Rep n v x := by
  intro a
  induction a with
  | nil => intro b i v h e; cases h; simp at e
  | cons w r ih =>
    intro b i v h e
    cases h with
    | cons p q =>
      cases i with
      | zero => simp at e; subst e; exact ⟨_, rfl, p⟩
      | succ i => simp at e; obtain ⟨y, e1, r1⟩ := ih q e; exact ⟨y, by simpa using e1, r1⟩

theorem Ex.run {C : Cx} {ss : List Stmt} {m : Str → Option Value} {news : Led} {s : Shared} {Q : Flow → Shared → Prop} {E : Value → Shared → Prop} (ρ ρ' : List V) (h : Ex C ss ρ (.next ρ')) (g : Agree C.names m news ρ) (F : Fr C.h₀ C.L s.heap m) (N : News C.h₀ C.L s.heap news)
    (hq : ∀ m' news' h' tk', Sub news news' → Agree C.names m' news' ρ' → Fr C.h₀ C.L h' m' → News C.h₀ C.L h' news' → Q .next { s with heap := h', toks := tk' }) : wpAny C.M C.A (execs ss C.env) Q E s :=
  h m news g s Q E F N fun fl m' n' h' tk' sub o F' N' => by
    obtain ⟨rfl, g'⟩ := o
    exact hq m' n' h' tk' sub g' F' N'

theorem IsList.news {C : Cx} {h : Heap} {news : Led} {o : Addr} {ys : Array Value} {nn : Nat} (N : News C.h₀ C.L h news) (hm : (o, lstObj ys nn) ∈ news) : h.IsList o ys := ⟨_, (N _ hm).1, rfl, ⟨_, rfl⟩⟩

def lawNames : List Str := [Str.ofString "script", Str.ofString "good", Str.ofString "cell", Str.ofString "kind", Str.ofString "form", Str.ofString "whole_form", Str.ofString "gap", Str.ofString "looks", Str.ofString "due", Str.ofString "told"]

def LawGo (C : Cx) (body : List Stmt) : Prop := C.Ok 8 → C.Nm → C.names = lawNames → C.outer = [] → C.env = envOf C.cn C.cs C.L C.a C.ccd → (∀ i, i < 6 → FmtOk C.sl C.sns (rowOf C.sns i)) → (∀ i, i < 6 → ∃ l, (rowOf C.sns i).cells.2 = .str l) →
  ∀ (m : Str → Option Value) (news : Led), Agree C.names m news [.val (.ref C.sl), .undef, .undef, .undef, .undef, .undef, .undef, .undef, .undef, .undef] → ∀ (s : Shared) (Q : Flow → Shared → Prop) (E : Value → Shared → Prop), Fr C.h₀ C.L s.heap m → News C.h₀ C.L s.heap news → TabIn news →
    (∀ (m' : Str → Option Value) (h' : Heap) (tk' : Nat), Fr C.h₀ C.L h' m' → (∃ ps, h'.get? 43 = some (tabObj ps)) → Q (.ret (.bool true)) { s with heap := h', toks := tk' }) → wpAny C.M C.A (execs body C.env) Q E s

theorem kindAt_le (v : Nat) : kindAt v ≤ 3 := by
  match v with
  | 0 => decide | 1 => decide | 2 => decide | 3 => decide | 4 => decide | _ + 5 => exact Nat.le_refl 3

set_option maxHeartbeats 4000000 in
theorem law_go : ∀ {name' qual' : Str} {params' : Arguments} {body' : List Stmt} {scope' : Scope} {dV' kV' doc' pm' cdv' ct' oc' : Value} {an' od' : Option Addr} {osl' : Array (Option Value)}
    (ho' : ∀ w, List.lookup 144 (K0 w) = some { cls := oc', dict := od', data := .func (fnOf name' qual' params' body' scope' dV' kV' doc' pm' an' cdv' ct'), slots := osl' }) (C : Cx), C.cs = scope' → LawGo C body' := by
  refine lawMk (fun w => by rfl) fun C hcs ok nm hnames hout hE HF HS => ?_
  have N : ∀ {i : Nat} {x : Str}, lawNames[i]? = some x → C.names[i]? = some x := fun h => by rw [hnames]; exact h
  intro m0 news0 g0 s0 Q0 E0 F00 N00 tb0 hq0
  refine wpAny_execs_cons (Ex1.assign 1 nm (N rfl) Ev.int (by rfl) m0 news0 g0 s0 _ E0 F00 N00 fun fl m news h0 tk0 sub0 oo F01 N01 => ?_)
  obtain ⟨rfl, g⟩ := oo
  have tb := tb0.mono sub0
  refine wpAny_execs_cons (wpAny_mono (E := fun _ _ => False) (For_invT C.h₀ ?_ (by intro _; rfl) PassesOwn.never) (fun _ _ h => h) fun _ _ h => h.elim)
  · have F := F01
    have N0 := N01
    refine go_callF ok (keep_fn (a := 130) (by decide) C.w) (Ev.gl ok hcs g_law_case) (Evs.cons (Ev.nm nm 0 (N rfl) rfl) Evs.nil) (fun m n xs hx => case_fn C.sl C.sns C m n xs rfl rfl (ok.le (by omega)) hx) (by rfl) (by rfl) (by rfl) g _ _ _ F N0 ?_
    rintro x n1 h1 tk1 s1 ⟨o, ys, nn, rfl, hm, rys⟩ F1 N1
    have hls := IsList.news N1 hm
    refine wpAny_pyIter_list hls ?_
    have ho : o < h1.objs.size := Heap.lt_size (N1 _ hm).1
    have hne : o ≠ h1.objs.size := Nat.ne_of_lt ho
    have W := Walks.list (prog := P0) (w := C.w) (A := C.A) rfl h1.objs.size o hne ys
    have hlen : ys.size = 6 := by have := rys.length; simpa using this
    rw [hlen] at W
    refine ⟨h1.objs.size, _, _, 6, _, _, m, n1, (fun i m₁ news₁ => SubX n1 news₁ ∧ TabIn news₁ ∧ Agree C.names m₁ news₁ [.val (.ref C.sl), .int i, .undef, .undef, .undef, .undef, .undef, .undef, .undef, .undef]), rfl, W, ?_, ?_, ?_, ⟨⟨_, Heap.get?_push_size _ rfl, rfl, rfl⟩, hls.at fun o e => Heap.get?_push_of_some _ e⟩, F1.push _, (fun p hp => ⟨Heap.get?_push_of_some _ (N1 p hp).1, (N1 p hp).2⟩), (fun i s' v Q' st hQ' => letGo_listiter st.1 hQ'), ⟨(Sub.refl _).toX, tb.mono s1, (g.mono s1)⟩, ?_, ?_⟩
    · intro hm'
      rcases List.mem_cons.mp hm' with e | hm'
      · exact absurd F1.ns.lt (e ▸ Nat.lt_irrefl _)
      · exact (N1 _ hm).2.1 (List.mem_singleton.mp hm').symm
    · intro b hb
      rw [List.mem_singleton.mp hb]
      exact next_is_new F1
    · intro p hp hI
      exact absurd (Heap.lt_size (N1 p hp).1) ((List.mem_singleton.mp hI) ▸ Nat.lt_irrefl _)
    · rintro i v m₁ news₁ s₁ own hi hv ⟨hsx, htb, hJ⟩ hoff hown1 hown2 hown3 hSt F₄ N₄
      have rys1 := rys.monoT hsx.toT
      obtain ⟨⟨oI, hI1, hI2, hI3⟩, _⟩ := hSt
      have hIfresh : C.h₀.get? h1.objs.size = none := next_is_new F1
      have hIown : (h1.objs.size, oI) ∈ own := hown3 _ (.head _) hIfresh _ hI1
      obtain ⟨rv, hrv, rr⟩ := Reps.get rys1 (i := i) (x := v) (by simpa using hv)
      have hrv' : rv = (rowOf C.sns i).tup := by simpa [hi] using hrv.symm
      subst hrv'
      have hFm := HF i hi
      obtain ⟨dl, hdl⟩ := HS i hi
      have hkd : (rowOf C.sns i).kd ≤ 3 := kindAt_le _
      generalize rowOf C.sns i = r at *
      have hd := cells_def r
      refine assign_tup (xs := [(Str.ofString "cell", _), (Str.ofString "kind", _), (Str.ofString "form", _), (Str.ofString "whole_form", _), (Str.ofString "gap", _), (Str.ofString "looks", _), (Str.ofString "due", _)]) [2, 3, 4, 5, 6, 7, 8] nm (by simp [hnames, lawNames]) rfl F₄ N₄ (hJ.mono fun p hp => List.mem_append_right _ hp) (rr.mono fun p hp => List.mem_append_right _ hp) (fun m5 h5 tk5 g5 F5 N5 => ?_) rfl rfl rfl
      refine wpAny_execs_cons (wpAny_Assign_Name (GoT.top hout (EvT.callF (ρ := [.val (.ref C.sl), .int i, r.cells.1, .int r.kd, .str (pform r.fk), .str (wform r.wk), .str (gapAt r.gk), .bool r.looks, r.cells.2, .undef]) ok (keep_fn (a := 137) (by decide) C.w) (Ev.gl ok hcs g_law_told) (Evs.cons (Ev.nm nm 2 (N rfl) rfl hd.1) (Evs.cons (Ev.nm nm 3 (N rfl) rfl) (Evs.cons (Ev.nm nm 4 (N rfl) rfl) (Evs.cons (Ev.nm nm 5 (N rfl) rfl) (Evs.cons (Ev.nm nm 6 (N rfl) rfl) (Evs.cons (Ev.nm nm 7 (N rfl) rfl) Evs.nil)))))) (fun m n xs hx => told_fn C.sl C.sns r hkd hFm C m n xs rfl rfl hE (ok.le (by omega)) hx) (by rfl) (by rfl) (by rfl) m5 _ g5) _ _ _ F5 N5 (htb.mono fun p hp => List.mem_append_right _ hp) fun tv n51 h51 tk51 sx51 tb51 rtv F51 N51 => ?_) rfl)
      refine store_slot (v := r.cells.2) (i := 9) nm (N rfl) F51 N51 (g5.monoT sx51.toT) rtv fun m52 h52 tk52 g52 F52 N52 => ?_
      refine Ex.run [.val (.ref C.sl), .int i, r.cells.1, .int r.kd, .str (pform r.fk), .str (wform r.wk), .str (gapAt r.gk), .bool r.looks, r.cells.2, r.cells.2] [.val (.ref C.sl), .int (i + 1 : Nat), r.cells.1, .int r.kd, .str (pform r.fk), .str (wform r.wk), .str (gapAt r.gk), .bool r.looks, r.cells.2, r.cells.2] ?_ g52 F52 N52 fun m6 n6 h6 tk6 s6 g6 F6 N6 => ?_
      · refine Ex.cons (Ex1.ite (c := true && (((dl == dl) && true))) (Tst.bool (TstB.and (Tst.plain (Ev.callB (Ev.bl ok hcs g_isinstance b_isinstance) (Evs.cons (Ev.nm nm 9 (N rfl) rfl hd.2) (Evs.cons (Ev.bl ok hcs g_str b_str) Evs.nil)) fun m n xs hx => isi_str (b := true) (.inl ⟨dl, hdl, rfl⟩) hx) fun m n x => tr_bool) fun _ => TstB.and (Tst.cmp (a := .str dl) (b := .str dl) (Ev.nm nm 9 (N rfl) (by rw [← hdl]; rfl)) (Ev.nm nm 8 (N rfl) (by rw [← hdl]; rfl)) fun _ _ _ _ => cmp_eqS) fun _ => TstB.and_nil)) (fun hc => ?_) (fun hc => by simp at hc)) Ex.nil
        refine Ex.cons (Ex1.assign 1 nm (N rfl) (v := .int (i + 1 : Nat)) (Ev.cast (Ev.bin (Ev.nm nm 1 (N rfl) rfl) Ev.int fun m n x y => op_add) (by push_cast; rfl))) Ex.nil
      have hIn6 : (h1.objs.size, oI) ∈ n6 := s6 _ ((sx51 _ (List.mem_append_left _ hIown)).elim id fun q => by rw [hI2] at q; cases q)
      have hall : SubX (own ++ news₁) n6 := sx51.trans s6.toX
      have htb6 := tb51.mono s6
      refine LoopStepU.intro (news₂ := n6.filter fun p => p.1 != h1.objs.size) F6 (fun p hp => ?_) (fun p hp => ?_) ⟨fun p hp => ?_, ?_, (g6.weaken (ρ' := [.val (.ref C.sl), .int (i + 1 : Nat), .undef, .undef, .undef, .undef, .undef, .undef, .undef, .undef]) ?_).flat ?_⟩
      · rcases List.mem_append.mp hp with hp | hp
        · refine N6 p ((hall p (List.mem_append_left _ hp)).elim id fun q => ?_)
          exfalso
          rcases List.mem_cons.mp (hown1 p hp) with e | e
          · have := hown2 p hp
            rw [e, hI1] at this
            rw [← Option.some.inj this, hI2] at q; cases q
          · have := hown2 p hp
            rw [List.mem_singleton.mp e] at this
            have h2 := (N₄ _ (List.mem_append_right own ((hsx _ hm).elim id fun q => by cases q))).1
            rw [this] at h2
            rw [Option.some.inj h2] at q; cases q
        · exact N6 p (List.mem_filter.mp hp).1
      · intro hw
        have := (List.mem_filter.mp hp).2
        simp at this hw
        exact this hw
      · rcases hsx p hp with hp1 | q
        · rcases hall p (List.mem_append_right _ hp1) with hp2 | q
          · refine .inl (List.mem_filter.mpr ⟨hp2, ?_⟩)
            have := hoff p hp1
            simpa using this
          · exact .inr q
        · exact .inr q
      · obtain ⟨ps, hps, rest⟩ := htb6
        have h43 : 43 < h1.objs.size := by
          obtain ⟨ps0, hps0, _⟩ := tb.mono s1
          exact Heap.lt_size (N1 _ hps0).1
        refine ⟨ps, List.mem_filter.mpr ⟨hps, by simp only [bne_iff_ne, ne_eq]; exact Nat.ne_of_lt h43⟩, rest.elim .inl fun ⟨c', oc, vs, t, e, hc, hd1, hv1⟩ => .inr ⟨c', oc, vs, t, e, List.mem_filter.mpr ⟨hc, ?_⟩, hd1, hv1⟩⟩
        simp only [bne_iff_ne, ne_eq]
        intro q
        have e1 := (N6 _ hc).1
        have e2 := (N6 _ hIn6).1
        simp only [q] at e1
        rw [e2] at e1
        have e3 := Option.some.inj e1
        subst e3
        rw [hI3] at hd1
        injection hd1 with hd1
        subst hd1
        simp at hv1
      · intro j w hw
        match j with
        | 0 => exact .inr hw
        | 1 => exact .inr hw
        | 2 => simp at hw; exact .inl hw.symm
        | 3 => simp at hw; exact .inl hw.symm
        | 4 => simp at hw; exact .inl hw.symm
        | 5 => simp at hw; exact .inl hw.symm
        | 6 => simp at hw; exact .inl hw.symm
        | 7 => simp at hw; exact .inl hw.symm
        | 8 => simp at hw; exact .inl hw.symm
        | 9 => simp at hw; exact .inl hw.symm
        | _ + 10 => simp at hw
      · intro w hw
        simp only [List.mem_cons, List.not_mem_nil, or_false] at hw
        rcases hw with rfl | rfl | rfl | rfl | rfl | rfl | rfl | rfl | rfl | rfl
        · exact .val _
        · exact .int _
        all_goals exact .undef
    · rintro h' tk m' news' F' N' _ ⟨_, htb, hJ⟩
      refine Ex.consR (v := .bool true) (Ex1.ret (Ev.cast (Ev.cmp (Ev.nm nm 1 (N rfl) rfl) Ev.int fun _ _ _ _ => cmp_eq) rfl)) m' news' hJ _ _ E0 F' N' fun fl m2 n2 h2 tk2 s2 o2 F2 N2 => ?_
      obtain ⟨x, rfl, r⟩ := o2
      cases r
      obtain ⟨ps, hps, _⟩ := htb.mono s2
      exact hq0 m2 h2 tk2 F2 ⟨ps, (N2 _ hps).1⟩
end Mine

end
section
open PySem PySem.W PyProof.Rows PySem.Calls PySem.Spec
set_option maxRecDepth 100000
set_option linter.unusedVariables false
namespace Mine

theorem word_str {j : Nat} (h : j < 6) : ∃ l, lawWord j = .str l := by
  match j, h with
  | 0, _ => exact ⟨_, rfl⟩
  | 1, _ => exact ⟨_, rfl⟩
  | 2, _ => exact ⟨_, rfl⟩
  | 3, _ => exact ⟨_, rfl⟩
  | 4, _ => exact ⟨_, rfl⟩
  | 5, _ => exact ⟨_, rfl⟩
  | _ + 6, h => omega
theorem cells_str (r : Row) : ∃ l, r.cells.2 = .str l := by
  unfold Row.cells caseCell
  split
  · split <;> exact ⟨_, rfl⟩
  · split
    · exact ⟨_, rfl⟩
    · split
      · unfold pointCell
        simp only
        repeat' split
        all_goals first | exact ⟨_, rfl⟩ | exact word_str (by omega)
      · exact ⟨_, rfl⟩

theorem law_wp {w : World} {hs : Heap} {mg mb : Str → Option Value} {ghost : Heap} {L fa sl : Addr} {cd : Value} {vs : List Value} {ns : List Int} {news : Led} {s : Shared} {Q : Flow → Shared → Prop} {E : Value → Shared → Prop}
    {name' qual' : Str} {params' : Arguments} {body' : List Stmt} {scope' : Scope} {dV' kV' doc' pm' cdv' ct' oc' : Value} {an' od' : Option Addr} {osl' : Array (Option Value)} {m : Str → Option Value} {fn : Str}
    (K' : Below callerA ghost [] ghost) (X' : (K0 w).In ghost) (T' : Tp0 hs mg mb ghost) (F' : Fr ghost L s.heap m) (lifted : ghost.IsList sl vs.toArray) (hI : IntsAre vs ns) (hlen : ns.length ≤ 63)
    (hbits : (PyData.list (ns.map PyData.int)).layable0 = true) (N' : News ghost L s.heap news)
    (ho' : ∀ w, List.lookup 144 (K0 w) = some { cls := oc', dict := od', data := .func (fnOf name' qual' params' body' scope' dV' kV' doc' pm' an' cdv' ct'), slots := osl' })
    (hk : scope'.kind = .function) (hkinds : (lawNames.all fun x => scope'.names.lookup x == some .local && !(x == ("__debug__" : Str))) = true) (hm : m (Str.ofString "script") = some (.ref sl))
    (HF : ∀ i, i < 6 → FmtOk sl ns (rowOf ns i)) (tb : TabIn news)
    (hq : ∀ h' tk' m', Fr ghost L h' m' → (∃ ps, h'.get? 43 = some (tabObj ps)) → Q (.ret (.bool true)) { s with heap := h', toks := tk' }) :
    wpAny (model P0 w) (callerA.deeper (envOf fn scope' L fa cd)) (execs body' (envOf fn scope' L fa cd)) Q E s := by
  let C : Cx := { w := w, hs := hs, mg := mg, mb := mb, dp := 302, un := 7, gd := some [], cn := fn, cs := scope', a := fa, ccd := cd, cl := [], outer := [], A₀ := callerA, base := ghost, h₀ := ghost, L := L, names := lawNames, sl := sl, svs := vs, sns := ns }
  have ok : C.Ok 8 := ⟨K', X', T', hk, lifted, hI, hlen, fun n hn => by
      have := PyData.bits_item_of_ints hbits hn
      unfold Builtin.Int.intBits at this
      split at this
      · rename_i h; rw [beq_iff_eq] at h; subst h; decide
      · omega, X', T', fun b hb => by simp [C] at hb, by show 302 + 8 < 990; decide, by show 7 + 10 * 8 < 9000; decide⟩
  have nm : C.Nm := ⟨by show lawNames.Nodup; decide +kernel, fun x hx => by have := List.all_eq_true.mp hkinds x hx; simp only [Bool.and_eq_true] at this; exact beq_iff_eq.mp this.1, fun x hx => by have := List.all_eq_true.mp hkinds x hx; simp only [Bool.and_eq_true] at this; simpa using this.2, hk⟩
  have g : Agree C.names m news [.val (.ref sl), .undef, .undef, .undef, .undef, .undef, .undef, .undef, .undef, .undef] := by
    intro i x v hx hv hu
    match i with
    | 0 =>
      simp [C, lawNames] at hx hv
      subst hx hv
      exact ⟨_, hm, .val _⟩
    | 1 => simp at hv; exact absurd hv.symm hu
    | 2 => simp at hv; exact absurd hv.symm hu
    | 3 => simp at hv; exact absurd hv.symm hu
    | 4 => simp at hv; exact absurd hv.symm hu
    | 5 => simp at hv; exact absurd hv.symm hu
    | 6 => simp at hv; exact absurd hv.symm hu
    | 7 => simp at hv; exact absurd hv.symm hu
    | 8 => simp at hv; exact absurd hv.symm hu
    | 9 => simp at hv; exact absurd hv.symm hu
    | _ + 10 => simp at hv
  exact law_go ho' C rfl ok nm rfl rfl rfl HF (fun i _ => cells_str _) m news g s Q E F' N' tb fun m' h' tk' F2 hp => hq h' tk' m' F2 hp
end Mine

end
section
open PySem PySem.W PyProof.Rows PySem.Calls PySem.Sre
set_option maxRecDepth 100000
set_option linter.unusedVariables false
namespace Mine

/-- the machine's text put in another's place -/
def wt (m : M) (t : Array Nat) : M := { m with text := t }

theorem ite_comm {α β : Type} (f : α → β) (c : Prop) [Decidable c] (a b : α) : f (if c then a else b) = if c then f a else f b := by split <;> rfl

theorem wt_attempt (m : M) (t : Array Nat) (f : Sre.Frame) (a b : Nat) (o : Bool) : (wt m t).attempt f a b o = wt (m.attempt f a b o) t := by
  unfold M.attempt
  show (if m.weight + 1 + f.kept.marks.size > 16777216 then _ else _) = _
  split <;> rfl
theorem wt_say (m : M) (t : Array Nat) (b : Bool) : (wt m t).say b = wt (m.say b) t := rfl
theorem wt_stick (m : M) (t : Array Nat) (b : String) : (wt m t).stick b = wt (m.stick b) t := rfl
theorem wt_alternative (m : M) (t : Array Nat) (alt : Nat) (k : Sre.Kept) : (wt m t).alternative alt k = wt (m.alternative alt k) t := by
  unfold M.alternative
  show (if (m.code.getD alt 0 == 0) = true then _ else _) = _
  split
  · rfl
  · exact wt_attempt m t _ _ _ _
theorem wt_afterRun (m : M) (t : Array Nat) (w : Wait) (c : Int) (k : Sre.Kept) : (wt m t).afterRun w c k = wt (m.afterRun w c k) t := wt_attempt m t _ _ _ _
theorem wt_afterLoop (m : M) (t : Array Nat) (w : Wait) (i : Nat) (c : Int) (wh : Option Nat → Bool) : (wt m t).afterLoop w i c wh = wt (m.afterLoop w i c wh) t := wt_attempt { m with inner := (m.loopAt i).outer } t _ _ _ _
theorem wt_round (m : M) (t : Array Nat) (w : Wait) (i : Nat) (c : Int) (g : Bool) (k : Sre.Kept) : (wt m t).round w i c g k = wt (m.round w i c g k) t :=
  wt_attempt (m.setLoop i fun l => { l with count := c, began := if g then some m.pos else l.began }) t _ _ _ _
theorem until_eq (m : M) (i : Nat) (h : m.inner = some i) (g : Bool) : m.until_ g =
    (if (m.loopAt i).count + 1 < ((m.code.getD ((m.loopAt i).pc + 2) 0 : Nat) : Int) then m.round (if g then .maxBelow else .minBelow) i ((m.loopAt i).count + 1) false {}
    else if (!g) = true then m.afterLoop .minTail i ((m.loopAt i).count + 1) (·.isSome)
    else if ((decide ((m.loopAt i).count + 1 < ((m.code.getD ((m.loopAt i).pc + 3) 0 : Nat) : Int)) || m.code.getD ((m.loopAt i).pc + 3) 0 == maxRepeat) && (m.loopAt i).began != some m.pos) = true then m.round .maxMore i ((m.loopAt i).count + 1) true (m.keep true)
    else m.afterLoop .maxTail i ((m.loopAt i).count + 1) fun _ => false) := by
  unfold M.until_; rw [h]
theorem wt_until (m : M) (t : Array Nat) (g : Bool) : (wt m t).until_ g = wt (m.until_ g) t := by
  cases h : m.inner with
  | none => unfold M.until_; rw [h, show (wt m t).inner = none from h]; rfl
  | some i =>
    rw [until_eq m i h, until_eq (wt m t) i h]
    show (if (m.loopAt i).count + 1 < ((m.code.getD ((m.loopAt i).pc + 2) 0 : Nat) : Int) then _ else if (!g) = true then _ else if ((decide ((m.loopAt i).count + 1 < ((m.code.getD ((m.loopAt i).pc + 3) 0 : Nat) : Int)) || m.code.getD ((m.loopAt i).pc + 3) 0 == maxRepeat) && (m.loopAt i).began != some m.pos) = true then _ else _) = _
    split
    · exact wt_round m t _ _ _ _ _
    · split
      · exact wt_afterLoop m t _ _ _ _
      · split
        · exact wt_round m t _ _ _ _ _
        · exact wt_afterLoop m t _ _ _ _
theorem wt_mark (m : M) (t : Array Nat) (i : Nat) : (wt m t).mark i = wt (m.mark i) t := rfl
theorem wt_attemptAt (m : M) (t : Array Nat) (s : Nat) (b : Bool) : (wt m t).attemptAt s b = wt (m.attemptAt s b) t := wt_attempt { m with start := s, pos := s, lastmark := -1, lastindex := -1 } t _ _ _ _
theorem wt_attemptFrom (m : M) (t : Array Nat) (s : Nat) (b : Bool) (h : m.hasFirstSet = false) : (wt m t).attemptFrom s b = wt (m.attemptFrom s b) t := by
  have h' : (wt m t).hasFirstSet = false := h
  unfold M.attemptFrom
  rw [h, h']
  exact wt_attemptAt m t s b

def waitOk : Wait → Bool
  | .nextStart | .nextBranch | .giveBack | .closeLoop | .maxBelow | .maxMore | .maxTail => true
  | _ => false

theorem wt_resume (m : M) (t : Array Nat) (f : Sre.Frame) (y : Bool) (hw : waitOk f.wait = true) (h : m.hasFirstSet = false) : (wt m t).resume f y = wt (m.resume f y) t := by
  obtain ⟨wait, pc, pos, om, count, kept, loop, began⟩ := f
  cases wait
  case nextStart =>
    simp only [M.resume]
    cases y
    · simp only [Bool.false_eq_true, if_false]
      show (if pos < m.lastStart then _ else _) = wt (if pos < m.lastStart then _ else _) t
      split
      · exact wt_attemptFrom { m with mustAdvance := false } t _ _ h
      · rfl
    · rfl
  case nextBranch =>
    simp only [M.resume]
    cases y
    · exact wt_alternative (m.putBack kept) t _ _
    · rfl
  case giveBack =>
    simp only [M.resume]
    cases y
    · simp only [Bool.false_eq_true, if_false]
      show (if count - 1 < (m.word 2 : Int) then _ else _) = wt (if count - 1 < (m.word 2 : Int) then _ else _) t
      split
      · rfl
      · exact wt_afterRun { m.putBack kept with pos := pos - 1 } t _ _ _
    · rfl
  case closeLoop => rfl
  case maxBelow => cases y <;> rfl
  case maxMore =>
    cases y
    · exact wt_afterLoop (((m.setLoop loop fun l => { l with began := began }).putBack kept).setLoop loop fun l => { l with count := count - 1 }) t .maxTail loop count fun _ => false
    · rfl
  case maxTail => rfl
  all_goals exact Bool.noConfusion hw
end Mine

end
section
open PySem PySem.W PyProof.Rows PySem.Calls PySem.Sre
set_option maxRecDepth 100000
set_option linter.unusedVariables false
namespace Mine

abbrev Idx := List Nat × List Nat
def Sim (idx : Idx) (code t t' : Array Nat) : Prop := (∀ i ∈ idx.1, ∀ p seen, accepts code i (t'.getD p 0) seen = accepts code i (t.getD p 0) seen) ∧ ∀ p ∈ idx.2, t'.getD p 0 = t.getD p 0
def execOk (idx : Idx) (m : M) : Bool :=
  match ops[m.word 0]? with
  | some .MARK | some .BRANCH | some .JUMP | some .SUCCESS | some .FAILURE | some .REPEAT | some .MAX_UNTIL => true
  | some .LITERAL | some .NOT_LITERAL | some .IN => idx.1.contains m.pc || idx.2.contains m.pos
  | some .REPEAT_ONE => idx.1.contains (m.pc + 4)
  | _ => false

theorem run_alike (code t t' : Array Nat) (i : Nat) (h : ∀ p seen, accepts code i (t'.getD p 0) seen = accepts code i (t.getD p 0) seen) : ∀ n p f seen, Sre.run code t' i n p f seen = Sre.run code t i n p f seen
  | 0, _, _, _ => rfl
  | n + 1, p, f, seen => by
    unfold Sre.run
    rw [h]
    cases accepts code i (t.getD p 0) seen with
    | error e => rfl
    | ok x =>
      obtain ⟨y, s⟩ := x
      cases y
      · rfl
      · exact run_alike code t t' i h n (p + 1) (f + 1) s

theorem exec_char {m : M} {o : Op} (h : ops[m.word 0]? = some o) (ho : o = .LITERAL ∨ o = .NOT_LITERAL ∨ o = .IN) : m.exec =
    (if m.pos ≥ m.lim then { m with seen := m.seen.add (m.word 0) }.say false else
    match accepts m.code m.pc (m.text.getD m.pos 0) (m.seen.add (m.word 0)) with
    | .error why => { m with seen := m.seen.add (m.word 0) }.stick why
    | .ok (false, seen) => { m with seen }.say false
    | .ok (true, seen) => { m with seen, pc := m.pc + itemWidth m.code m.pc, pos := m.pos + 1 }) := by
  unfold M.exec
  rcases ho with rfl | rfl | rfl <;> (simp only [h]; rfl)

theorem exec_rep {m : M} (h : ops[m.word 0]? = some .REPEAT_ONE) : m.exec =
    (if ((m.word 2 : Nat) : Int) > (m.lim : Int) - m.pos then { m with seen := m.seen.add (m.word 0) }.say false else
    match Sre.run m.code m.text (m.pc + 4) (min (m.word 3) ((m.lim : Int) - m.pos).toNat) m.pos 0 ((m.seen.add (m.word 0)).add (m.word 4)) with
    | .error why => { m with seen := m.seen.add (m.word 0) }.stick why
    | .ok (n, seen) =>
      if n < m.word 2 then { m with seen }.say false else
      { m with seen, pos := m.pos + n }.afterRun .giveBack n ({ m with seen, pos := m.pos + n }.keep m.inner.isSome)) := by
  unfold M.exec
  simp only [h]
  rfl

theorem exec_end {m : M} (h : ops[m.word 0]? = some .SUCCESS) : m.exec =
    (if (m.outermost && ((m.wholeText && m.pos != m.lim) || (m.mustAdvance && m.pos == m.start))) = true then { m with seen := m.seen.add (m.word 0) }.say false
    else { m with seen := m.seen.add (m.word 0), handed := m.pos }.say true) := by
  unfold M.exec
  simp only [h]

theorem wt_exec (idx : Idx) (m : M) (t : Array Nat) (hok : execOk idx m = true) (hs : Sim idx m.code m.text t) : (wt m t).exec = wt m.exec t := by
  unfold execOk at hok
  have hw : (wt m t).word 0 = m.word 0 := rfl
  cases h : ops[m.word 0]? with
  | none => rw [h] at hok; exact absurd hok Bool.false_ne_true
  | some o =>
    rw [h] at hok
    have h' : ops[(wt m t).word 0]? = some o := h
    have char : (o = .LITERAL ∨ o = .NOT_LITERAL ∨ o = .IN) → (idx.1.contains m.pc || idx.2.contains m.pos) = true → (wt m t).exec = wt m.exec t := by
      intro ho hi
      rw [exec_char h ho, exec_char h' ho]
      show (if m.pos ≥ m.lim then _ else match accepts m.code m.pc (t.getD m.pos 0) (m.seen.add (m.word 0)) with | .error why => _ | .ok (false, seen) => _ | .ok (true, seen) => _) = _
      have hacc : accepts m.code m.pc (t.getD m.pos 0) (m.seen.add (m.word 0)) = accepts m.code m.pc (m.text.getD m.pos 0) (m.seen.add (m.word 0)) := by
        rcases Bool.or_eq_true _ _ ▸ hi with h | h
        · exact hs.1 m.pc (by simpa using h) _ _
        · rw [hs.2 m.pos (by simpa using h)]
      rw [hacc]
      split
      · rfl
      · split
        · rename_i e
          rfl
        · rename_i e
          rfl
        · rename_i e
          rfl
    cases o <;> (try (exact Bool.noConfusion hok))
    case FAILURE => unfold M.exec; simp only [h, h']; rfl
    case SUCCESS =>
      rw [exec_end h, exec_end h']
      show (if (m.outermost && ((m.wholeText && m.pos != m.lim) || (m.mustAdvance && m.pos == m.start))) = true then _ else _) = _
      split <;> rfl
    case BRANCH =>
      have e : ∀ m : M, ops[m.word 0]? = some .BRANCH → m.exec = { m with seen := m.seen.add (m.word 0) }.alternative (m.pc + 1) ({ m with seen := m.seen.add (m.word 0) }.keep m.inner.isSome) := fun m h => by unfold M.exec; simp only [h]
      rw [e m h, e _ h']
      exact wt_alternative { m with seen := m.seen.add (m.word 0) } t _ _
    case IN => exact char (.inr (.inr rfl)) hok
    case JUMP =>
      have e : ∀ m : M, ops[m.word 0]? = some .JUMP → m.exec = { m with seen := m.seen.add (m.word 0), pc := m.pc + 1 + m.word 1 } := fun m h => by unfold M.exec; simp only [h]; rfl
      rw [e m h, e _ h']; rfl
    case LITERAL => exact char (.inl rfl) hok
    case MARK =>
      have e : ∀ m : M, ops[m.word 0]? = some .MARK → m.exec = { m with seen := m.seen.add (m.word 0) }.mark (m.word 1) := fun m h => by unfold M.exec; simp only [h]; rfl
      rw [e m h, e _ h']; rfl
    case MAX_UNTIL =>
      have e : ∀ m : M, ops[m.word 0]? = some .MAX_UNTIL → m.exec = { m with seen := m.seen.add (m.word 0), pc := m.pc + 1 }.until_ true := fun m h => by unfold M.exec; simp only [h]
      rw [e m h, e _ h']
      exact wt_until { m with seen := m.seen.add (m.word 0), pc := m.pc + 1 } t true
    case NOT_LITERAL => exact char (.inr (.inl rfl)) hok
    case REPEAT =>
      have e : ∀ m : M, ops[m.word 0]? = some .REPEAT → m.exec = M.attempt { m with seen := m.seen.add (m.word 0), loops := m.loops.push { pc := m.pc, outer := m.inner }, inner := some m.loops.size } { M.frame { m with seen := m.seen.add (m.word 0), loops := m.loops.push { pc := m.pc, outer := m.inner }, inner := some m.loops.size } .closeLoop with loop := m.loops.size } (m.pc + 1 + m.word 1) m.pos m.outermost := fun m h => by unfold M.exec; simp only [h]; rfl
      rw [e m h, e _ h']
      exact wt_attempt { m with seen := m.seen.add (m.word 0), loops := m.loops.push { pc := m.pc, outer := m.inner }, inner := some m.loops.size } t _ _ _ _
    case REPEAT_ONE =>
      rw [exec_rep h, exec_rep h']
      show (if ((m.word 2 : Nat) : Int) > (m.lim : Int) - m.pos then _ else match Sre.run m.code t (m.pc + 4) (min (m.word 3) ((m.lim : Int) - m.pos).toNat) m.pos 0 ((m.seen.add (m.word 0)).add (m.word 4)) with | .error why => _ | .ok (n, seen) => if n < m.word 2 then _ else _) = _
      rw [run_alike m.code m.text t (m.pc + 4) (hs.1 _ (by simpa using hok))]
      split
      · rfl
      · split
        · rename_i e
          rfl
        · rename_i n seen e
          split
          · rfl
          · exact wt_afterRun { m with seen, pos := m.pos + n } t _ _ _

def stepOk (idx : Idx) (m : M) : Bool :=
  m.outcome.isSome ||
  match m.answer, m.frames with
  | some _, [] => true
  | some _, f :: _ => waitOk f.wait && !m.hasFirstSet
  | none, _ => decide (m.pc < m.code.size) && execOk idx m

theorem wt_step (idx : Idx) (m : M) (t : Array Nat) (hok : stepOk idx m = true) (hs : Sim idx m.code m.text t) : (wt m t).step = wt m.step t := by
  unfold M.step
  show (if m.outcome.isSome = true then _ else _) = _
  unfold stepOk at hok
  by_cases ho : m.outcome.isSome = true
  · rw [if_pos ho, if_pos ho]
  · rw [if_neg ho, if_neg ho]
    have ho' : m.outcome.isSome = false := by simpa using ho
    rw [ho', Bool.false_or] at hok
    show (match m.answer, m.frames with | some yes, [] => _ | some yes, f :: rest => _ | none, _ => _) = _
    cases ha : m.answer with
    | none =>
      simp only [ha] at hok ⊢
      simp only [Bool.and_eq_true, decide_eq_true_eq] at hok
      show (if m.pc < m.code.size then _ else _) = wt (if m.pc < m.code.size then _ else _) t
      rw [if_pos hok.1, if_pos hok.1]
      exact wt_exec idx m t hok.2 hs
    | some y =>
      cases hf : m.frames with
      | nil =>
        have h1 : (wt m t).frames = [] := hf
        have h2 : (wt m t).answer = some y := ha
        simp only [h1, h2]; rfl
      | cons f rest =>
        simp only [ha, hf] at hok ⊢
        simp only [Bool.and_eq_true, Bool.not_eq_true'] at hok
        exact wt_resume { m with answer := none, frames := rest, weight := m.weight - (1 + f.kept.marks.size), pc := f.pc, pos := f.pos, outermost := f.outermost } t f y hok.1 hok.2
end Mine

end
section
open PySem PySem.W PyProof.Rows PySem.Calls PySem.Sre
set_option maxRecDepth 100000
set_option linter.unusedVariables false
namespace Mine

theorem code_attempt (m : M) (f : Sre.Frame) (a b : Nat) (o : Bool) : (m.attempt f a b o).code = m.code := by
  unfold M.attempt; split <;> rfl
theorem code_alternative (m : M) (alt : Nat) (k : Sre.Kept) : (m.alternative alt k).code = m.code := by
  unfold M.alternative
  split
  · rfl
  · exact code_attempt m _ _ _ _
theorem code_until (m : M) (g : Bool) : (m.until_ g).code = m.code := by
  cases h : m.inner with
  | none => unfold M.until_; rw [h]; rfl
  | some i =>
    rw [until_eq m i h]
    split
    · exact code_attempt (m.setLoop i _) _ _ _ _
    · split
      · exact code_attempt { m with inner := (m.loopAt i).outer } _ _ _ _
      · split
        · exact code_attempt (m.setLoop i _) _ _ _ _
        · exact code_attempt { m with inner := (m.loopAt i).outer } _ _ _ _
theorem code_resume (m : M) (f : Sre.Frame) (y : Bool) (hw : waitOk f.wait = true) (h : m.hasFirstSet = false) : (m.resume f y).code = m.code := by
  obtain ⟨wait, pc, pos, om, count, kept, loop, began⟩ := f
  cases wait
  case nextStart =>
    simp only [M.resume]
    cases y
    · simp only [Bool.false_eq_true, if_false]
      split
      · unfold M.attemptFrom
        rw [show M.hasFirstSet { m with mustAdvance := false } = false from h]
        exact code_attempt _ _ _ _ _
      · rfl
    · rfl
  case nextBranch =>
    cases y
    · exact code_alternative (m.putBack kept) _ _
    · rfl
  case giveBack =>
    simp only [M.resume]
    cases y
    · simp only [Bool.false_eq_true, if_false]
      split
      · rfl
      · exact code_attempt { m.putBack kept with pos := pos - 1 } _ _ _ _
    · rfl
  case closeLoop => rfl
  case maxBelow => cases y <;> rfl
  case maxMore =>
    cases y
    · exact code_attempt { ((m.setLoop loop fun l => { l with began := began }).putBack kept).setLoop loop fun l => { l with count := count - 1 } with inner := ((((m.setLoop loop fun l => { l with began := began }).putBack kept).setLoop loop fun l => { l with count := count - 1 }).loopAt loop).outer } _ _ _ _
    · rfl
  case maxTail => rfl
  all_goals exact Bool.noConfusion hw

theorem code_exec (idx : Idx) (m : M) (hok : execOk idx m = true) : m.exec.code = m.code := by
  unfold execOk at hok
  cases h : ops[m.word 0]? with
  | none => rw [h] at hok; exact absurd hok Bool.false_ne_true
  | some o =>
    rw [h] at hok
    have char : (o = .LITERAL ∨ o = .NOT_LITERAL ∨ o = .IN) → m.exec.code = m.code := by
      intro ho
      rw [exec_char h ho]
      split
      · rfl
      · split <;> rfl
    cases o <;> (try (exact Bool.noConfusion hok))
    case FAILURE => unfold M.exec; simp only [h]; rfl
    case SUCCESS =>
      rw [exec_end h]
      split <;> rfl
    case BRANCH => unfold M.exec; simp only [h]; exact code_alternative { m with seen := m.seen.add (m.word 0) } _ _
    case IN => exact char (.inr (.inr rfl))
    case JUMP => unfold M.exec; simp only [h]
    case LITERAL => exact char (.inl rfl)
    case MARK => unfold M.exec; simp only [h]; rfl
    case MAX_UNTIL => unfold M.exec; simp only [h]; exact code_until { m with seen := m.seen.add (m.word 0), pc := m.pc + 1 } true
    case NOT_LITERAL => exact char (.inr (.inl rfl))
    case REPEAT => unfold M.exec; simp only [h]; exact code_attempt { m with seen := m.seen.add (m.word 0), loops := m.loops.push { pc := m.pc, outer := m.inner }, inner := some m.loops.size } _ _ _ _
    case REPEAT_ONE =>
      rw [exec_rep h]
      split
      · rfl
      · split
        · rfl
        · split
          · rfl
          · exact code_attempt _ _ _ _ _

theorem code_step (idx : Idx) (m : M) (hok : stepOk idx m = true) : m.step.code = m.code := by
  unfold M.step
  unfold stepOk at hok
  by_cases ho : m.outcome.isSome = true
  · rw [if_pos ho]
  · rw [if_neg ho]
    have ho' : m.outcome.isSome = false := by simpa using ho
    rw [ho', Bool.false_or] at hok
    cases ha : m.answer with
    | none =>
      simp only [ha] at hok ⊢
      simp only [Bool.and_eq_true, decide_eq_true_eq] at hok
      rw [if_pos hok.1]
      exact code_exec idx m hok.2
    | some y =>
      cases hf : m.frames with
      | nil => simp only []
      | cons f rest =>
        simp only [ha, hf] at hok ⊢
        simp only [Bool.and_eq_true, Bool.not_eq_true'] at hok
        exact code_resume { m with answer := none, frames := rest, weight := m.weight - (1 + f.kept.marks.size), pc := f.pc, pos := f.pos, outermost := f.outermost } f y hok.1 hok.2
theorem text_step (idx : Idx) (m : M) (hok : stepOk idx m = true) : m.step.text = m.text := by
  have h := wt_step idx m m.text hok ⟨fun _ _ _ _ => rfl, fun _ _ => rfl⟩
  have e : wt m m.text = m := rfl
  rw [e] at h
  rw [h]; rfl

/-- n steps, all of them of the kinds that see a text but through its letters -/
def okFor (idx : Idx) : Nat → M → Bool
  | 0, _ => true
  | n + 1, m => m.outcome.isSome || (stepOk idx m && okFor idx n m.step)
def okTurns (idx : Idx) : Nat → M → Bool
  | 0, _ => false
  | n + 1, m => okFor idx 4 m && ((m.runFor 4).outcome.isSome || okTurns idx n (m.runFor 4))
def turns : Nat → M → Option M
  | 0, _ => none
  | n + 1, m => if (m.runFor 4).outcome.isSome = true then some (m.runFor 4) else turns n (m.runFor 4)

theorem wt_runFor (idx : Idx) (t : Array Nat) : ∀ (n : Nat) (m : M), okFor idx n m = true → Sim idx m.code m.text t → (wt m t).runFor n = wt (m.runFor n) t ∧ (m.runFor n).code = m.code ∧ (m.runFor n).text = m.text
  | 0, m, _, _ => ⟨rfl, rfl, rfl⟩
  | n + 1, m, h, hs => by
    unfold M.runFor
    unfold okFor at h
    show (if m.outcome.isSome = true then _ else _) = _ ∧ _
    by_cases ho : m.outcome.isSome = true
    · rw [if_pos ho, if_pos ho]; exact ⟨rfl, rfl, rfl⟩
    · rw [if_neg ho, if_neg ho]
      have ho' : m.outcome.isSome = false := by simpa using ho
      rw [ho', Bool.false_or, Bool.and_eq_true] at h
      rw [wt_step idx m t h.1 hs]
      have hc := code_step idx m h.1
      have ht := text_step idx m h.1
      obtain ⟨a, b, c⟩ := wt_runFor idx t n m.step h.2 (by rw [hc, ht]; exact hs)
      exact ⟨a, b.trans hc, c.trans ht⟩

theorem wt_turns (idx : Idx) (t : Array Nat) : ∀ (n : Nat) (m : M), okTurns idx n m = true → Sim idx m.code m.text t → turns n (wt m t) = (turns n m).map (wt · t)
  | 0, m, h, _ => by cases h
  | n + 1, m, h, hs => by
    unfold okTurns at h
    rw [Bool.and_eq_true] at h
    obtain ⟨a, b, c⟩ := wt_runFor idx t 4 m h.1 hs
    unfold turns
    rw [a]
    show (if (m.runFor 4).outcome.isSome = true then _ else _) = _
    by_cases ho : (m.runFor 4).outcome.isSome = true
    · rw [if_pos ho, if_pos ho]; rfl
    · rw [if_neg ho, if_neg ho]
      have ho' : (m.runFor 4).outcome.isSome = false := by simpa using ho
      rw [ho', Bool.false_or] at h
      exact wt_turns idx t n _ h.2 (by rw [b, c]; exact hs)
end Mine

end
section
open PySem PySem.W PyProof.Rows PySem.Calls PySem.Sre
set_option maxRecDepth 100000
set_option linter.unusedVariables false
namespace Mine
open PySem.F
theorem plainAttrs_pat : PlainAttrs "re.Pattern" :=
  ⟨⟨"object.__getattribute__", by rw [typeLookup_type, builtinLookup_eq_fast]; kernel_rfl, by decide +kernel⟩, by rw [typeLookup_type, builtinLookup_eq_fast]; kernel_rfl⟩
theorem plainAttrs_mat : PlainAttrs "re.Match" :=
  ⟨⟨"object.__getattribute__", by rw [typeLookup_type, builtinLookup_eq_fast]; kernel_rfl, by decide +kernel⟩, by rw [typeLookup_type, builtinLookup_eq_fast]; kernel_rfl⟩
theorem slot_sub : Slot "re.Pattern" "sub" "re.Pattern.sub" :=
  .of (owner := "re.Pattern") (n := "sub") (by rw [typeLookup_type, builtinLookup_eq_fast]; kernel_rfl) (by decide +kernel) (by decide +kernel) (by decide +kernel)
    (by first | exact .inl (by decide +kernel) | exact .inr (by decide +kernel)) (by rw [isSubtype_type]; kernel_rfl)
theorem type_sub : typeOf (.builtin "re.Pattern.sub") = pure (.type "method_descriptor") := by show builtinType _ = _; rw [builtinType_eq_fast]; kernel_rfl
theorem entry_sub : entryFor table "re.Pattern.sub" = some Builtin.«re.Pattern.sub» := entryFor_of_tree (by kernel_rfl)
theorem entry_subloop : entryFor table "re.Pattern.sub.loop" = some Builtin.«re.Pattern.sub.loop» := entryFor_of_tree (by kernel_rfl)
theorem owner_pat : Manifest.owners.lookup (String.ofList ['n', 'r', 'e', 't', 't', 'a', 'P', '.', 'e', 'r'].reverse) = some Manifest.sig_re_Pattern := by kernel_rfl
theorem args_sub (a b c : Value) : argsOk "re.Pattern.sub" ⟨[a, b, c], []⟩ := by
  unfold argsOk; rw [signature?_of (id := "re.Pattern.sub") (n := ['b', 'u', 's']) (o := ['n', 'r', 'e', 't', 't', 'a', 'P', '.', 'e', 'r']) (by kernel_rfl) owner_pat]; kernel_rfl
theorem slot_group : Slot "re.Match" "group" "re.Match.group" :=
  .of (owner := "re.Match") (n := "group") (by rw [typeLookup_type, builtinLookup_eq_fast]; kernel_rfl) (by decide +kernel) (by decide +kernel) (by decide +kernel)
    (by first | exact .inl (by decide +kernel) | exact .inr (by decide +kernel)) (by rw [isSubtype_type]; kernel_rfl)
theorem type_group : typeOf (.builtin "re.Match.group") = pure (.type "method_descriptor") := by show builtinType _ = _; rw [builtinType_eq_fast]; kernel_rfl
theorem entry_group : entryFor table "re.Match.group" = some Builtin.«re.Match.group» := entryFor_of_tree (by kernel_rfl)
theorem owner_mat : Manifest.owners.lookup (String.ofList ['h', 'c', 't', 'a', 'M', '.', 'e', 'r'].reverse) = some Manifest.sig_re_Match := by kernel_rfl
theorem args_group (a b : Value) : argsOk "re.Match.group" ⟨[a, b], []⟩ := by
  unfold argsOk; rw [signature?_of (id := "re.Match.group") (n := ['p', 'u', 'o', 'r', 'g']) (o := ['h', 'c', 't', 'a', 'M', '.', 'e', 'r']) (by kernel_rfl) owner_mat]; kernel_rfl
end Mine

end
section
open PySem PySem.W PyProof.Rows PySem.Calls PySem.Sre PySem.Builtin PySem.Builtin.Re
set_option maxRecDepth 100000
set_option linter.unusedVariables false
namespace Mine
section
variable {Mo : Model} {A : Around} {E : Value → Shared → Prop} {s : Shared}
theorem wp_forUnit {f : Nat → PUnit → Sem (ForInStep PUnit)} (hf : ∀ i (s : Shared) (Q : ForInStep PUnit → Shared → Prop), Q (.yield ⟨⟩) s → wpAny Mo A (f i ⟨⟩) Q E s) : ∀ (l : List Nat) {Q : PUnit → Shared → Prop}, Q ⟨⟩ s → wpAny Mo A (forIn l ⟨⟩ f) Q E s
  | [], Q, h => by rw [List.forIn_nil]; exact wpAny_pure h
  | i :: r, Q, h => by
    rw [List.forIn_cons]
    exact wpAny_bind (hf i s _ (wp_forUnit hf r h))

theorem wp_drive : ∀ (n N : Nat) (m m' : Sre.M) {Q : Sre.M → Shared → Prop}, n ≤ N → turns n m = some m' → Q m' s → wpAny Mo A (reDrive N m) Q E s
  | 0, N, m, m', Q, hle, h, hq => by cases h
  | n + 1, N, m, m', Q, hle, h, hq => by
    obtain ⟨k, rfl⟩ : ∃ k, N = k + 1 := ⟨N - 1, by omega⟩
    unfold turns at h
    unfold reDrive
    show wpAny Mo A (if (m.runFor 4).outcome.isSome = true then _ else _) Q E s
    by_cases ho : (m.runFor 4).outcome.isSome = true
    · rw [if_pos ho] at h ⊢
      cases h
      exact wpAny_pure hq
    · rw [if_neg ho] at h ⊢
      exact wpAny_bind (wpAny_rule (wp_drive n k _ m' (by omega) h hq))

theorem wp_runToEnd {n : Nat} {m m' : Sre.M} {b : Bool} {Q : Option Sre.M → Shared → Prop} (h : turns n m = some m') (hn : n ≤ 2 ^ 64) (ho : m'.outcome = some (if b then .matched else .failed)) (hq : Q (if b then some m' else none) s) : wpAny Mo A (reRunToEnd m) Q E s := by
  unfold reRunToEnd
  refine wpAny_bind (wp_drive n _ m m' hn h ?_)
  refine wpAny_bind (wp_forUnit (fun i s Q h => ?_) _ ?_)
  · split
    · exact wpAny_bind (wpAny_rule (wpAny_pure h))
    · exact wpAny_pure h
  · rw [ho]
    cases b
    · exact wpAny_pure hq
    · exact wpAny_pure hq
end
end Mine

end
section
open PySem PySem.W PyProof.Rows PySem.Calls PySem.Sre PySem.Builtin PySem.Builtin.Re
set_option maxRecDepth 100000
set_option linter.unusedVariables false
namespace Mine
def code0 : Array Nat := #[14, 8, 1, 3, 4294967295, 1, 0, 27, 0, 17, 0, 16, 27, 7, 33, 16, 91, 24, 10, 0, 4294967295, 13, 5, 22, 48, 63, 0, 1, 24, 10, 0, 4294967295, 13, 5, 22, 32, 47, 0, 1, 13, 5, 22, 64, 126, 0, 15, 91, 89, 16, 93, 16, 56, 16, 59, 23, 36, 0, 4294967295, 17, 2, 24, 9, 1, 4294967295, 13, 4, 8, 14, 0, 1, 16, 61, 24, 9, 1, 4294967295, 13, 4, 8, 14, 0, 1, 24, 6, 0, 1, 16, 58, 1, 17, 3, 18, 16, 59, 17, 4, 24, 6, 1, 4294967295, 20, 27, 1, 17, 5, 16, 27, 16, 92, 17, 6, 24, 6, 1, 4294967295, 20, 27, 1, 17, 7, 16, 27, 16, 93, 16, 56, 16, 59, 16, 59, 16, 27, 16, 92, 15, 2, 0, 17, 1, 1]

structure PatAt (h : Heap) : Prop where
  pat : ∃ o vs, h.get? 36 = some o ∧ o.cls = .type "re.Pattern" ∧ o.dict = none ∧ o.data = .fields vs ∧ vs.getD 6 .none = .int 0 0 ∧ vs.getD 5 .none = .ref 35 ∧ vs.getD 2 .none = .int 4 0
  code : ∃ o items n, h.get? 35 = some o ∧ o.data = .seq items n ∧ (items.map reRawOf).map (·.toNat) = code0
theorem PatAt.keeps {h h' : Heap} (p : PatAt h) (k : ∀ b o, h.get? b = some o → h'.get? b = some o) : PatAt h' := by
  obtain ⟨⟨o, vs, e, r⟩, ⟨o2, it, n, e2, r2⟩⟩ := p
  exact ⟨⟨o, vs, k _ _ e, r⟩, ⟨o2, it, n, k _ _ e2, r2⟩⟩
theorem patAt_of {w : World} {h : Heap} (X : (K0 w).In h) : PatAt h :=
  ⟨⟨_, _, X 36 _ (by rfl), rfl, rfl, rfl, rfl, rfl, rfl⟩, ⟨_, _, _, X 35 _ (by rfl), rfl, by decide +kernel⟩⟩

section
variable {Mo : Model} {A : Around} {E : Value → Shared → Prop} {s : Shared}
abbrev tgt (x : Str) (t : Tok) : ReTarget := { pattern := .ref 36, string := .str x t, code := code0, text := x.cps, kind := 0, groups := 4, pos := 0, lim := x.cps.size }

theorem wp_target {x : Str} {t : Tok} {Q : ReTarget → Shared → Prop} (P : PatAt s.heap) (h : Q (tgt x t) s) : wpAny Mo A (reWholeTarget (.ref 36) (.str x t)) Q E s := by
  obtain ⟨⟨o, vs, e, hc, hdi, hd, h6, h5, h2⟩, ⟨o2, it, n, e2, hd2, hit⟩⟩ := P
  unfold reWholeTarget
  refine wpAny_bind (wpAny_fieldsOf e hd ?_)
  refine wpAny_bind (wpAny_of_eq (a := (x.cps, 0)) rfl ?_)
  simp only [h6, h5, h2]
  refine wpAny_bind (wpAny_pure ?_)
  unfold reRawItems
  refine wpAny_bind (wpAny_bind (wpAny_seqItems e2 hd2 (wpAny_pure ?_)))
  refine wpAny_pure ?_
  show Q { pattern := .ref 36, string := .str x t, code := (it.map reRawOf).map (·.toNat), text := x.cps, kind := 0, groups := 4, pos := 0, lim := x.cps.size } s
  rw [hit]
  exact h
end
end Mine

end
section
open PySem PySem.W PyProof.Rows PySem.Calls PySem.Sre PySem.Builtin PySem.Builtin.Re
set_option maxRecDepth 100000
set_option linter.unusedVariables false
namespace Mine
abbrev matObj (x : Str) (t : Tok) (lim li : Int) (b : Addr) : Obj := { cls := .type "re.Match", data := .fields #[.str x t, .ref 36, rawInt 0, rawInt lim, rawInt li, .ref b] }

section
variable {prog : Program} {w : World} {A : Around} {E : Value → Shared → Prop} {s : Shared}
/-- the fourth group: the text between b and e, or None where b is below nought -/
theorem wp_group4 {a tb : Addr} {x : Str} {t u : Tok} {lim li : Int} {items : List Value} {Q : Value → Shared → Prop} {b e : Int} (ha : s.heap.get? a = some (matObj x t lim li tb)) (hb : s.heap.get? tb = some (tupObj items))
    (hl : items.length = 10) (h8 : items[8]? = some (rawInt b)) (h9 : items[9]? = some (rawInt e)) (hx : x.length ≤ 1000)
    (h : if b < 0 then Q .none s else (0 ≤ e → Q (.str ⟨x.cps.extract b.toNat e.toNat⟩ s.toks) { s with toks := s.toks + 1 }) ∧ 0 ≤ e) :
    wpAny (model prog w) A (call (.builtin "re.Match.group") [.ref a, .int 4 u]) Q E s := by
  refine wpAny_call_entry slot_group ⟨_, ha, rfl⟩ entry_group ?_ (args_group _ _)
  unfold Builtin.«re.Match.group»
  refine wpAny_bind (wpAny_of_eq (a := ()) rfl ?_)
  unfold reFound
  refine wpAny_bind (wpAny_bind (wpAny_fieldsOf ha rfl ?_))
  unfold reRawItems
  refine wpAny_bind (wpAny_bind (wpAny_seqItems hb rfl (wpAny_pure ?_)))
  refine wpAny_pure ?_
  have hsz : ((items.toArray).map reRawOf).size = 10 := by simp [hl]
  have e8 : ((items.toArray).map reRawOf).getD 8 (-1) = b := by
    rw [Array.getD_eq_getD_getElem?]; simp [h8]; rfl
  have e9 : ((items.toArray).map reRawOf).getD 9 (-1) = e := by
    rw [Array.getD_eq_getD_getElem?]; simp [h9]; rfl
  refine wpAny_bind (?_ : wpAny _ _ (reGroupNumber { fields := _, spans := (items.toArray).map reRawOf } (.int 4 u)) _ _ s)
  unfold reGroupNumber
  refine wpAny_bind (wpAny_of_eq (a := some 4) rfl ?_)
  refine wpAny_bind (wpAny_of_eq (a := (4 : Int)) rfl ?_)
  have hc : (decide ((4 : Int) < 0) || decide (2 * (4 : Int) ≥ ((((items.toArray).map reRawOf).size : Nat) : Int))) = false := by rw [hsz]; decide
  dsimp only
  rw [if_neg (by rw [hc]; exact Bool.false_ne_true)]
  refine wpAny_pure ?_
  unfold reGroupText
  simp only [show (4 : Int).toNat = 4 from rfl, Nat.reduceMul, Nat.reduceAdd, Option.getD_some, e8, e9]
  by_cases hb0 : b < 0
  · rw [if_pos hb0] at h
    rw [if_pos (by simp [hb0])]
    exact wpAny_bind (wpAny_pure (wpAny_pure ⟨_, rfl, h⟩))
  · rw [if_neg hb0] at h
    rw [if_neg (by simp [hb0]; omega)]
    refine wpAny_bind (wpAny_bind (wpAny_of_eq (a := (x.cps, 0)) rfl ?_))
    unfold reSlice
    refine wpAny_mkStr (wpAny_pure ⟨_, rfl, h.1 h.2⟩) ?_
    have : (⟨x.cps.extract b.toNat e.toNat⟩ : Str).length ≤ x.length := by unfold Str.length; simp; omega
    exact Nat.le_trans this (by rw [line_is]; omega)
end
end Mine

end
section
open PySem PySem.W PyProof.Rows PySem.Calls PySem.Sre PySem.Builtin PySem.Builtin.Re
set_option maxRecDepth 100000
set_option linter.unusedVariables false
namespace Mine
abbrev lamBody (p1 p2 p3 p4 p5 p6 p7 p8 : Pos) : Expr :=
  .BinOp (.Constant (.str (Str.ofString "")) 0 p1) .Add (.BoolOp .Or [.Call (.Attribute (.Name (Str.ofString "_m") p2) (Str.ofString "group") p3) [.Constant (.int 4) 0 p4] [] p5, .Constant (.str (Str.ofString "")) 0 p6] p7) p8
abbrev lamScope : Scope := { kind := .function, names := [(Str.ofString "_m", .local)], isGenerator := false, isCoroutine := false }
abbrev lamParams (p0 : Pos) : Arguments := { posonlyargs := [], args := [{ arg := Str.ofString "_m", annotation := none, pos := p0 }], vararg := none, kwonlyargs := [], kw_defaults := [], kwarg := none, defaults := [] }

theorem lam_call {C : Cx} {f a tb c' : Addr} {oc : Obj} {name : Str} {p0 p1 p2 p3 p4 p5 p6 p7 p8 : Pos} {pm ctv : Value} {x : Str} {t tc : Tok} {lim li : Int} {items : List Value} {b e : Int} {news : Led} {m : Str → Option Value} {s : Shared} {Q : Value → Shared → Prop} {E : Value → Shared → Prop} {vs : Array Value} {k : Nat}
    (ok : C.Ok (k + 1)) (F : Fr C.h₀ C.L s.heap m) (N : News C.h₀ C.L s.heap news) (hf : (f, kla_obj name lamQ (lamParams p0) (lamBody p1 p2 p3 p4 p5 p6 p7 p8) lamScope [] pm c' ctv) ∈ news)
    (hc : (c', oc) ∈ news) (hcd : oc.data = .fields vs) (hcv : vs[1]? = some (.str lamQ tc)) (ha : (a, matObj x t lim li tb) ∈ news) (hb : (tb, tupObj items) ∈ news)
    (hl : items.length = 10) (h8 : items[8]? = some (rawInt b)) (h9 : items[9]? = some (rawInt e)) (hx : x.length ≤ 1000)
    (hme : ∀ env : Env, ∃ pl, PySem.eval (.Call (.Attribute (.Name (Str.ofString "_m") p2) (Str.ofString "group") p3) [.Constant (.int 4) 0 p4] [] p5) env = (do
      let ov ← PySem.eval (.Name (Str.ofString "_m") p2) env
      standAt p3.atName
      let (f, first) ← holding [ov] (getMethod ov (Str.ofString "group") pl)
      callWith p5 f first (backTo p5 (starEach [.Constant (.int 4) 0 p4] env)) []))
    (hbe : b < 0 ∨ (0 ≤ e ∧ (x.cps.extract b.toNat e.toNat).size ≠ 0))
    (hq : ∀ y u h' tk', (b < 0 → y = Str.empty) → (¬ b < 0 → y = ⟨x.cps.extract b.toNat e.toNat⟩ ∧ s.toks < u ∧ u < tk') → s.toks ≤ tk' → Fr C.h₀ C.L h' m → News C.h₀ C.L h' news → Q (.str y u) { s with heap := h', toks := tk' }) :
    wpAny C.M C.A.in1 (call (.ref f) [.ref a]) Q E s := by
  refine wpAny_call (kla_code (A := C.A.in1) (env := C.env) (outer := C.outer) (binds := [(Str.ofString "_m", .ref a)]) ok.B F ok.X N ok.T rfl rfl ok.fn hf (codeRec_news N hc hcd hcv) (by have := ok.dep; show C.dp < 1000; omega) rfl (fun y hy => by
    rw [List.mem_singleton.mp hy]; rfl) ?_ rfl rfl rfl (fun y hy => by rw [List.mem_singleton.mp hy]; intro h; cases h))
  intro g L' h₁ FG F' N' B' X' T'
  have ha' := (N' _ ha).1
  have hb' := (N' _ hb).1
  have hm : (fun y => List.lookup y [(Str.ofString "_m", Value.ref a)].reverse) (Str.ofString "_m") = some (.ref a) := by rfl
  obtain ⟨pl, hpl⟩ := hme (envX lamQ lamScope L' f (.ref c') [])
  refine wpAny_BinOp (Constant_str (BoolOp_or (MethodCall_ (nameX_L F' hm ?_) hpl)))
  refine getMethod_builtin (T := "re.Match") (id := "re.Match.group") ⟨_, ha', rfl⟩ plainAttrs_mat slot_group type_group (fun q hq => by cases hq; exact ⟨_, ha', rfl⟩) ?_
  refine callWith_method1 (spliced_more (wpAny_Constant_int (spliced_none ?_)))
  refine wp_group4 (b := b) (e := e) ha' hb' hl h8 h9 hx ?_
  by_cases hb0 : b < 0
  · rw [if_pos hb0]
    refine truthy_none ?_
    simp only [Bool.false_eq_true, if_false]
    refine BoolOp_one (Constant_str ?_)
    refine P.add_str ?_
    rw [if_pos (by decide)]
    dsimp only [Made.post]
    refine leaveK_ F' N' fun F2 N2 => ?_
    dsimp only at F2 N2 ⊢
    refine hq _ _ _ _ (fun _ => rfl) (fun h => absurd hb0 h) ?_ F2 N2
    simp only [List.length_cons, List.length_nil]; omega
  · rw [if_neg hb0]
    obtain ⟨he, hne⟩ := hbe.resolve_left hb0
    refine ⟨fun _ => ?_, he⟩
    have hlen : (⟨x.cps.extract b.toNat e.toNat⟩ : Str).length ≤ x.length := by unfold Str.length; simp; omega
    refine P.truthy_str (by omega) ?_
    have hz : (((⟨x.cps.extract b.toNat e.toNat⟩ : Str).length : Int) != 0) = true := by
      simp only [bne_iff_ne, ne_eq]
      intro h
      exact hne (by simpa [Str.length] using h)
    rw [hz, if_pos rfl]
    refine P.add_str ?_
    rw [if_pos (by decide)]
    dsimp only [Made.post]
    refine leaveK_ F' N' fun F2 N2 => ?_
    dsimp only at F2 N2 ⊢
    refine hq _ _ _ _ (fun h => absurd h hb0) (fun _ => ⟨rfl, ?_, ?_⟩) ?_ F2 N2
    all_goals (simp only [List.length_cons, List.length_nil]; omega)
end Mine

end
section
open PySem PySem.W PyProof.Rows PySem.Calls PySem.Sre PySem.Builtin PySem.Builtin.Re PySem.Builtin.Str
set_option maxRecDepth 100000
set_option linter.unusedVariables false
namespace Mine

theorem push_led {M : Model} {A : Around} {E : Value → Shared → Prop} {s : Shared} {h₀ : Heap} {L o : Addr} {m : Str → Option Value} {news : Led} {xs : Array Value} {n : Nat} {v : Value} {Q : Unit → Shared → Prop} (F : Fr h₀ L s.heap m) (N : News h₀ L s.heap ((o, lstObj xs n) :: news)) (hne : ∀ p ∈ news, p.1 ≠ o) (hsz : xs.size ≤ 1000)
    (h : ∀ h' n', Fr h₀ L h' m → News h₀ L h' ((o, lstObj (xs.push v) n') :: news) → Q () { s with heap := h' }) : wpAny M A (updateSeq o (·.push v)) Q E s := by
  have z := N _ (.head _)
  refine wpAny_updateSeq (f := (·.push v)) z.1 rfl ?_ (by rw [line_is]; omega) (by rw [line_is, Array.size_push]; omega)
  have hs : Heap.SameBut o s.heap (s.heap.update o (Obj.mapSeq (·.push v))) := Heap.SameBut.update ..
  have ho : (s.heap.update o (Obj.mapSeq (·.push v))).get? o = some (lstObj (xs.push v) (n + 1)) := by
    rw [Heap.get?_update_self _ z.1 rfl]
    simp [Obj.mapSeq]
  exact h _ (n + 1) (F.change hs z.2.1 z.2.2) (news_set (pre := []) N (fun p hp => nomatch hp) hne hs ho)

section
variable {prog : Program} {w : World} {A : Around} {E : Value → Shared → Prop} {s : Shared}
theorem join_one {o : Addr} {n : Nat} {y : Str} {u tj : Tok} {Q : Value → Shared → Prop} (hl : s.heap.get? o = some (lstObj #[.str y u] n)) (hy : y.length ≤ 1000) (h : Q (.str y u) s) : wpAny (model prog w) A (call (.builtin "str.join") [.str Str.empty tj, .ref o]) Q E s := by
  refine call_meets F.slot_str_join (typeIs_str _ _ _) F.entry_str_join (F.args_str_join_2 _ _) (meets_str_join_list Str.empty tj o [(y, u)] ?_) ⟨⟨_, hl, rfl, ⟨_, rfl⟩⟩, h⟩
  have e0 : Str.empty.length = 0 := rfl
  simp [tooLong, e0, line_is]
  omega
theorem join_three {o : Addr} {n : Nat} {y : Str} {u u1 u2 tj : Tok} {Q : Value → Shared → Prop} (hl : s.heap.get? o = some (lstObj #[.str Str.empty u1, .str y u, .str Str.empty u2] n)) (hy : y.length ≤ 1000) (h : Q (.str y s.toks) { s with toks := s.toks + 1 }) : wpAny (model prog w) A (call (.builtin "str.join") [.str Str.empty tj, .ref o]) Q E s := by
  refine call_meets F.slot_str_join (typeIs_str _ _ _) F.entry_str_join (F.args_str_join_2 _ _) (meets_str_join_list Str.empty tj o [(Str.empty, u1), (y, u), (Str.empty, u2)] ?_) ⟨⟨_, hl, rfl, ⟨_, rfl⟩⟩, ?_⟩
  · have e0 : Str.empty.length = 0 := rfl
    simp [tooLong, e0, line_is]
    omega
  · have e : glued Str.empty [Str.empty, y, Str.empty] = y := by
      unfold glued
      simp [Str.empty]
    show (glued Str.empty [Str.empty, y, Str.empty]).length ≤ sizeLine ∧ _
    refine ⟨by rw [e, line_is]; omega, ?_⟩
    show Q (.str (glued Str.empty [Str.empty, y, Str.empty]) s.toks) _
    rw [e]
    exact h
end
end Mine

end
section
open PySem PySem.W PyProof.Rows PySem.Calls PySem.Sre PySem.Builtin PySem.Builtin.Re PySem.Builtin.Str
set_option maxRecDepth 100000
set_option linter.unusedVariables false
namespace Mine
abbrev loopArgs (x : Str) (t : Tok) (f o : Addr) (n done start : Int) (must : Bool) : Args := ⟨[.ref 36, .str x t, .ref f, rawInt 1, rawInt 0, rawInt n, rawInt done, rawInt start, .bool must, .ref o, .bool false], []⟩
abbrev srch (x : Str) (start : Nat) (must : Bool) : Sre.M := forSearch code0 x.cps 4 start x.cps.size must
theorem plain_loop : plainId "re.Pattern.sub.loop" = true := by decide +kernel

theorem loop_none {C : Cx} {x : Str} {t : Tok} {f o : Addr} {n done start : Int} {must : Bool} {R : Result → Shared → Prop} {s : Shared} {news : Led} {m : Str → Option Value} {xs : Array Value} {nn K : Nat} {m' : Sre.M}
    (F : Fr C.h₀ C.L s.heap m) (N : News C.h₀ C.L s.heap ((o, lstObj xs nn) :: news)) (hne : ∀ p ∈ news, p.1 ≠ o) (P : PatAt s.heap) (hxs : xs.size ≤ 100) (hx : x.length ≤ 1000)
    (hrun : turns K (srch x start.toNat must) = some m') (hK : K ≤ 1000000) (hout : m'.outcome = some .failed) (hnz : ¬ done.toNat < x.cps.size → xs.size ≠ 0)
    (hk : ∀ h' tk' (l : Array Value) n', Fr C.h₀ C.L h' m → News C.h₀ C.L h' ((o, lstObj l n') :: news) → (if done.toNat < x.cps.size then l = xs.push (.str ⟨x.cps.extract done.toNat x.cps.size⟩ s.toks) ∧ tk' = s.toks + 1 else l = xs ∧ tk' = s.toks) →
      wpAny (model P0 C.w) C.A.in1 (call (.builtin "str.join") [.str Str.empty tk', .ref o]) (fun v s' => R (.ok (.ret v)) s') (fun e s' => R (.error e) s') { s with heap := h', toks := tk' + 1 }) :
    codeAny (model P0 C.w) C.A (.builtin "re.Pattern.sub.loop" (loopArgs x t f o n done start must)) R s := by
  have he : (⟨x.cps.extract 0 0⟩ : Str) = Str.empty := by simp [Str.empty]
  refine codeAny_builtin entry_subloop ?_
  rw [Around.under_plainId plain_loop]
  unfold Builtin.«re.Pattern.sub.loop»
  refine wpAny_bind (wp_target P ?_)
  dsimp only
  rw [if_neg (by decide), if_neg (by simp)]
  refine wpAny_bind ?_
  unfold reNextFound
  refine wp_runToEnd (b := false) hrun (by omega) hout ?_
  simp only [Bool.false_eq_true, if_false]
  by_cases hd : done.toNat < x.cps.size
  · rw [if_pos hd]
    simp only [if_pos hd] at hk
    unfold reSlice
    simp only [show ((0 : Nat) == 0) = true from rfl, if_true]
    refine wpAny_bind (wpAny_mkStr ?_ ?_)
    · refine wpAny_bind (push_led (s := { s with toks := s.toks + 1 }) F N hne (by omega) fun h' n' F' N' => ?_)
      refine wpAny_bind (wpAny_mkStr ?_ ?_)
      · have z := (N' _ (.head _)).1
        refine wpAny_bind (wpAny_seqItems z rfl ?_)
        rw [if_neg (by simp)]
        dsimp only
        rw [he]
        refine wpAny_bind (wpAny_mono (hk h' (s.toks + 1) _ n' F' N' ⟨rfl, rfl⟩) (fun v s' hv => wpAny_pure hv) fun _ _ h => h)
      · simp [Str.length]
    · have : (⟨x.cps.extract done.toNat x.cps.size⟩ : Str).length ≤ x.length := by unfold Str.length; simp
      exact Nat.le_trans this (by rw [line_is]; omega)
  · rw [if_neg hd]
    simp only [if_neg hd] at hk
    unfold reSlice
    simp only [show ((0 : Nat) == 0) = true from rfl, if_true]
    refine wpAny_bind (wpAny_mkStr ?_ ?_)
    · have z := (N _ (.head _)).1
      refine wpAny_bind (wpAny_seqItems z rfl ?_)
      rw [if_neg (by have := hnz hd; simp; intro h; exact this (by simp [h]))]
      rw [he]
      refine wpAny_bind (wpAny_mono (hk s.heap s.toks _ nn F N ⟨rfl, rfl⟩) (fun v s' hv => wpAny_pure hv) fun _ _ h => h)
    · simp [Str.length]

def spansOf (m : Sre.M) : List Value := (List.range 4).flatMap fun g =>
    match if ((2 * g + 1 : Nat) : Int) ≤ m.lastmark then (m.marks.getD (2 * g) none, m.marks.getD (2 * g + 1) none) else (none, none) with
    | (some b, some e) => [rawInt b, rawInt e]
    | _ => [rawInt (-1), rawInt (-1)]
def wrongOf (m : Sre.M) : Bool := (List.range 4).any (fun g => match m.marks.getD (2 * g) none, m.marks.getD (2 * g + 1) none with | some b, some e => ((2 * g + 1 : Nat) : Int) ≤ m.lastmark && e < b | _, _ => false)

theorem loop_some {C : Cx} {x : Str} {t : Tok} {f o : Addr} {n done start : Int} {must : Bool} {R : Result → Shared → Prop} {s : Shared} {news : Led} {m : Str → Option Value} {xs : Array Value} {nn K k : Nat} {m' : Sre.M}
    {c' : Addr} {oc : Obj} {name : Str} {p0 p1 p2 p3 p4 p5 p6 p7 p8 : Pos} {pm ctv : Value} {tc : Tok} {vs : Array Value} {b e : Int} {sp : List Value} (ok : C.Ok (k + 1))
    (F : Fr C.h₀ C.L s.heap m) (N : News C.h₀ C.L s.heap ((o, lstObj xs nn) :: news)) (hne : ∀ p ∈ news, p.1 ≠ o) (P : PatAt s.heap) (hxs : xs.size ≤ 100) (hx : x.length ≤ 1000)
    (hf : (f, kla_obj name lamQ (lamParams p0) (lamBody p1 p2 p3 p4 p5 p6 p7 p8) lamScope [] pm c' ctv) ∈ news) (hc : (c', oc) ∈ news) (hcd : oc.data = .fields vs) (hcv : vs[1]? = some (.str lamQ tc))
    (hme : ∀ env : Env, ∃ pl, PySem.eval (.Call (.Attribute (.Name (Str.ofString "_m") p2) (Str.ofString "group") p3) [.Constant (.int 4) 0 p4] [] p5) env = (do
      let ov ← PySem.eval (.Name (Str.ofString "_m") p2) env
      standAt p3.atName
      let (f, first) ← holding [ov] (getMethod ov (Str.ofString "group") pl)
      callWith p5 f first (backTo p5 (starEach [.Constant (.int 4) 0 p4] env)) []))
    (hrun : turns K (srch x start.toNat must) = some m') (hK : K ≤ 1000000) (hout : m'.outcome = some .matched) (hsp : spansOf m' = sp) (hlen : sp.length = 8) (hwr : wrongOf m' = false) (h8 : sp[6]? = some (rawInt b)) (h9 : sp[7]? = some (rawInt e))
    (hbe : b < 0 ∨ (0 ≤ e ∧ (x.cps.extract b.toNat e.toNat).size ≠ 0)) (hmr : m'.start ≤ x.cps.size)
    (hk : ∀ h' tk' y u n' news', Sub news news' → (∀ p ∈ news', p.1 ≠ o) → Fr C.h₀ C.L h' m → News C.h₀ C.L h' ((o, lstObj ((if done.toNat < m'.start then xs.push (.str ⟨x.cps.extract done.toNat m'.start⟩ s.toks) else xs).push (.str y u)) n') :: news') → s.toks ≤ tk' → (b < 0 → y = Str.empty) → (¬ b < 0 → y = ⟨x.cps.extract b.toNat e.toNat⟩ ∧ s.toks < u ∧ u < tk') →
      (done.toNat < m'.start → s.toks < tk') → codeAny (model P0 C.w) C.A (.builtin "re.Pattern.sub.loop" (loopArgs x t f o (n + 1) m'.handed m'.handed (m'.handed == m'.start))) R { s with heap := h', toks := tk' }) :
    codeAny (model P0 C.w) C.A (.builtin "re.Pattern.sub.loop" (loopArgs x t f o n done start must)) R s := by
  refine codeAny_builtin entry_subloop ?_
  rw [Around.under_plainId plain_loop]
  unfold Builtin.«re.Pattern.sub.loop»
  refine wpAny_bind (wp_target P ?_)
  dsimp only
  rw [if_neg (by decide), if_neg (by simp)]
  refine wpAny_bind ?_
  unfold reNextFound
  refine wp_runToEnd (b := true) hrun (by omega) hout ?_
  simp only [if_true]
  -- what comes behind the slice
  have rest : ∀ (h₁ : Heap) (tk₁ : Nat) (ys : Array Value) (n₁ : Nat), ys = (if done.toNat < m'.start then xs.push (.str ⟨x.cps.extract done.toNat m'.start⟩ s.toks) else xs) → ys.size ≤ 101 → s.toks ≤ tk₁ → (done.toNat < m'.start → s.toks < tk₁) → Fr C.h₀ C.L h₁ m → News C.h₀ C.L h₁ ((o, lstObj ys n₁) :: news) →
      wpAny (model P0 C.w) C.A.in1 (do
        let found ← reNewMatch (.ref 36) (.str x t) 4 0 x.cps.size m'
        let item ← holding [found] (if (1 == 1) = true then call (.ref f) [found] else do reExpand (.ref f) (← reFound found))
        if (item != Value.none) = true then do
          let _ ← updateSeq o fun x => x.push item
          again (.builtin "re.Pattern.sub.loop" (loopArgs x t f o (n + 1) m'.handed m'.handed (m'.handed == m'.start)))
        else again (.builtin "re.Pattern.sub.loop" (loopArgs x t f o (n + 1) m'.handed m'.handed (m'.handed == m'.start))))
      (fun fin s' => match fin with | .done f => R (.ok f) s' | .again c' => c'.quiet = true ∧ codeAny (model P0 C.w) C.A c' R s') (fun e s' => R (.error e) s') { s with heap := h₁, toks := tk₁ } := by
    intro h₁ tk₁ ys n₁ hys hysz htk htk' F₁ N₁
    have hwr' : ¬ (wrongOf m' = true) := by rw [hwr]; exact Bool.false_ne_true
    refine wpAny_bind ?_
    unfold reNewMatch
    dsimp only
    show wpAny _ _ (if (wrongOf m' = true) then _ else _) _ _ _
    rw [if_neg hwr']
    refine wpAny_bind (?_ : wpAny _ _ (newTuple (rawInt m'.start :: rawInt m'.handed :: spansOf m')) _ _ _)
    rw [hsp]
    refine wpAny_newTuple ?_ (by simp [hlen, line_is])
    unfold newFields
    refine wpAny_newObj_type ?_ (by show _ ≤ sizeLine + 2; rw [line_is]; simp)
    let oT : Obj := tupObj (rawInt m'.start :: rawInt m'.handed :: sp)
    let oM : Obj := matObj x t x.cps.size m'.lastindex h₁.objs.size
    have N₂ := News.push F₁ N₁ oT
    have F₂ := F₁.push oT
    have N₃ := News.push F₂ N₂ oM
    have F₃ := F₂.push oM
    have ho : o < h₁.objs.size := Heap.lt_size (N₁ _ (.head _)).1
    have hsz : (h₁.push oT).objs.size = h₁.objs.size + 1 := Heap.size_push ..
    refine wpAny_bind (wpAny_holding ?_)
    rw [if_pos (by decide)]
    refine lam_call (s := { s with heap := (h₁.push oT).push oM, toks := tk₁ }) (items := rawInt m'.start :: rawInt m'.handed :: sp) (b := b) (e := e) ok F₃ N₃ (List.mem_cons_of_mem _ (List.mem_cons_of_mem _ (List.mem_cons_of_mem _ hf))) (List.mem_cons_of_mem _ (List.mem_cons_of_mem _ (List.mem_cons_of_mem _ hc))) hcd hcv (.head _) (.tail _ (.head _)) (by simp [hlen]) (by simpa using h8) (by simpa using h9) hx hme hbe fun y u h' tk' hy1 hy2 hle F' N' => ?_
    rw [if_pos (by rfl)]
    refine wpAny_bind (push_led (s := { s with heap := h', toks := tk' }) (xs := ys) (n := n₁) (news := ((h₁.push oT).objs.size, oM) :: (h₁.objs.size, oT) :: news) F' (fun p hp => ?_) (fun p hp => ?_) (by omega) fun h'' n'' F'' N'' => ?_)
    · refine N' p ?_
      rcases List.mem_cons.mp hp with rfl | hp
      · exact .tail _ (.tail _ (.head _))
      · rcases List.mem_cons.mp hp with rfl | hp
        · exact .head _
        · rcases List.mem_cons.mp hp with rfl | hp
          · exact .tail _ (.head _)
          · exact .tail _ (.tail _ (.tail _ hp))
    · rcases List.mem_cons.mp hp with rfl | hp
      · exact Nat.ne_of_gt (by rw [hsz]; exact Nat.lt_succ_of_lt ho)
      · rcases List.mem_cons.mp hp with rfl | hp
        · exact Nat.ne_of_gt ho
        · exact hne p hp
    · refine wpAny_pure ⟨plainId_quiet plain_loop _, ?_⟩
      refine hk h'' tk' y u n'' (((h₁.push oT).objs.size, oM) :: (h₁.objs.size, oT) :: news) (fun p hp => .tail _ (.tail _ hp)) (fun p hp => ?_) F'' (by rw [← hys]; exact N'') (Nat.le_trans htk hle) hy1 (fun hb => ?_) (fun hd => Nat.lt_of_lt_of_le (htk' hd) hle)
      · rcases List.mem_cons.mp hp with rfl | hp
        · exact Nat.ne_of_gt (by rw [hsz]; exact Nat.lt_succ_of_lt ho)
        · rcases List.mem_cons.mp hp with rfl | hp
          · exact Nat.ne_of_gt ho
          · exact hne p hp
      · obtain ⟨h1, h2, h3⟩ := hy2 hb
        exact ⟨h1, Nat.lt_of_le_of_lt htk h2, h3⟩
  by_cases hd : done.toNat < m'.start
  · rw [if_pos hd]
    unfold reSlice
    simp only [show ((0 : Nat) == 0) = true from rfl, if_true]
    refine wpAny_bind (wpAny_mkStr ?_ ?_)
    · refine wpAny_bind (push_led (s := { s with toks := s.toks + 1 }) F N hne (by omega) fun h' n' F' N' => ?_)
      exact rest h' (s.toks + 1) _ n' (by rw [if_pos hd]) (by simp; omega) (Nat.le_succ _) (fun _ => Nat.lt_succ_self _) F' N'
    · have : (⟨x.cps.extract done.toNat m'.start⟩ : Str).length ≤ x.length := by unfold Str.length; simp; omega
      exact Nat.le_trans this (by rw [line_is]; omega)
  · rw [if_neg hd]
    exact rest s.heap s.toks _ nn (by rw [if_neg hd]) (by omega) (Nat.le_refl _) (fun h => absurd h hd) F N
end Mine

end
section
open PySem PySem.W PyProof.Rows PySem.Calls PySem.Sre PySem.Builtin PySem.Builtin.Re PySem.Builtin.Str
set_option maxRecDepth 100000
set_option linter.unusedVariables false
namespace Mine
def pcs : List Nat := [11, 15, 21, 32, 39, 48, 52, 64, 92, 100, 105, 107, 115, 120, 122, 126, 128, 130, 132]
def isDig (c : Nat) : Prop := 48 ≤ c ∧ c ≤ 57
/-- letters that the pattern cannot tell apart -/
def Like (a b : Nat) : Prop := a = b ∨ (isDig a ∧ isDig b)

theorem acc_digit : ∀ i ∈ pcs, ∀ c, isDig c → ∀ seen, accepts code0 i c seen = accepts code0 i 48 seen := by
  intro i hi c hc seen
  have h : c = 48 ∨ c = 49 ∨ c = 50 ∨ c = 51 ∨ c = 52 ∨ c = 53 ∨ c = 54 ∨ c = 55 ∨ c = 56 ∨ c = 57 := by unfold isDig at hc; omega
  simp only [pcs, List.mem_cons, List.not_mem_nil, or_false] at hi
  rcases hi with rfl | rfl | rfl | rfl | rfl | rfl | rfl | rfl | rfl | rfl | rfl | rfl | rfl | rfl | rfl | rfl | rfl | rfl | rfl <;>
    (rcases h with rfl | rfl | rfl | rfl | rfl | rfl | rfl | rfl | rfl | rfl <;> rfl)

theorem sim_like {t t' : Array Nat} {eqs : List Nat} (h : ∀ p, Like (t'.getD p 0) (t.getD p 0)) (h2 : ∀ p ∈ eqs, t'.getD p 0 = t.getD p 0) : Sim (pcs, eqs) code0 t t' := by
  refine ⟨fun i hi p seen => ?_, h2⟩
  rcases h p with e | ⟨a, b⟩
  · rw [e]
  · rw [acc_digit i hi _ a, acc_digit i hi _ b]

theorem sim_plain {t t' : Array Nat} (h : ∀ p, t'.getD p 0 ≠ 27) (h2 : ∀ p, t.getD p 0 ≠ 27) : Sim ([11], []) code0 t t' := by
  refine ⟨fun i hi p seen => ?_, fun p hp => nomatch hp⟩
  rw [List.mem_singleton.mp hi]
  have e : ∀ c seen, accepts code0 11 c seen = .ok (c == 27, seen) := fun c seen => rfl
  rw [e, e, beq_eq_false_iff_ne.mpr (h p), beq_eq_false_iff_ne.mpr (h2 p)]

def failedB : Option Sre.M → Bool
  | some m => match m.outcome with | some .failed => true | _ => false
  | none => false
theorem failedB_spec {o : Option Sre.M} (h : failedB o = true) : ∃ m, o = some m ∧ m.outcome = some .failed := by
  unfold failedB at h
  split at h
  · rename_i m
    split at h
    · rename_i e; exact ⟨m, rfl, e⟩
    · cases h
  · cases h
def plainB (n : Nat) : Bool := okTurns ([11], []) 100 (forSearch code0 (Array.replicate n 48) 4 0 n false) && failedB (turns 100 (forSearch code0 (Array.replicate n 48) 4 0 n false))
theorem plain_all : ((List.range 24).all plainB) = true := by decide +kernel
end Mine

end
section
open PySem PySem.W PyProof.Rows PySem.Calls PySem.Sre PySem.Builtin PySem.Builtin.Re PySem.Builtin.Str
set_option maxRecDepth 100000
set_option linter.unusedVariables false
namespace Mine

theorem wt_attemptFrom' {m1 m2 : M} {t : Array Nat} {s : Nat} {b : Bool} (h : m1 = wt m2 t) (hf : m2.hasFirstSet = false) : m1.attemptFrom s b = wt (m2.attemptFrom s b) t := by
  subst h
  exact wt_attemptFrom m2 t s b hf
theorem search_wt (t t' : Array Nat) (k lim : Nat) (b : Bool) : forSearch code0 t' 4 k lim b = wt (forSearch code0 t 4 k lim b) t' := by
  unfold forSearch
  dsimp only
  split
  · rfl
  · exact wt_attemptFrom' rfl rfl

def smp (neg : Bool) (wl : Nat) : List Nat := (if neg then [45] else []) ++ List.replicate wl 48 ++ [46, 48, 48, 48]
def spansI (m : Sre.M) : List Int := (List.range 4).flatMap fun g =>
    match if ((2 * g + 1 : Nat) : Int) ≤ m.lastmark then (m.marks.getD (2 * g) none, m.marks.getD (2 * g + 1) none) else (none, none) with
    | (some b, some e) => [(b : Int), (e : Int)]
    | _ => [-1, -1]
theorem spans_eq (m : Sre.M) : spansOf m = (spansI m).map rawInt := by
  unfold spansOf spansI
  rw [List.map_flatMap]
  congr 1
  funext g
  split <;> rename_i h <;> first | rfl | (simp only [h]; rfl)
def hitB (st hd : Nat) (sp : List Int) : Option Sre.M → Bool
  | some m => (match m.outcome with | some .matched => true | _ => false) && m.start == st && m.handed == hd && spansI m == sp && !wrongOf m
  | none => false
theorem hitB_spec {st hd : Nat} {sp : List Int} {o : Option Sre.M} (h : hitB st hd sp o = true) : ∃ m, o = some m ∧ m.outcome = some .matched ∧ m.start = st ∧ m.handed = hd ∧ spansI m = sp ∧ wrongOf m = false := by
  unfold hitB at h
  split at h
  · rename_i m
    simp only [Bool.and_eq_true, beq_iff_eq, Bool.not_eq_true'] at h
    obtain ⟨⟨⟨⟨h1, h2⟩, h3⟩, h4⟩, h5⟩ := h
    refine ⟨m, rfl, ?_, h2, h3, h4, h5⟩
    split at h1
    · assumption
    · cases h1
  · cases h
def runB (idx : Idx) (t : Array Nat) (k : Nat) (f : Option Sre.M → Bool) : Bool := okTurns idx 200 (forSearch code0 t 4 k t.size false) && f (turns 200 (forSearch code0 t 4 k t.size false))
def redT (l : List Nat) : Array Nat := ([27, 91, 51, 49, 109] ++ l ++ [27, 91, 48, 109]).toArray
def linkT (l : List Nat) : Array Nat := ([27, 93, 56, 59, 59, 104, 116, 116, 112, 58, 47, 47, 120, 27, 92] ++ l ++ [27, 93, 56, 59, 59, 27, 92]).toArray
def redChk (neg : Bool) (wl : Nat) : Bool :=
  let t := redT (smp neg wl)
  let nl := (smp neg wl).length
  runB (pcs, []) t 0 (hitB 0 5 [0, 5, -1, -1, -1, -1, -1, -1]) && runB (pcs, []) t 5 (hitB (5 + nl) (9 + nl) [5 + nl, 9 + nl, -1, -1, -1, -1, -1, -1]) && runB (pcs, []) t (9 + nl) failedB
def linkChk (neg : Bool) (wl : Nat) : Bool :=
  let t := linkT (smp neg wl)
  let nl := (smp neg wl).length
  runB (pcs, [2, 17 + nl]) t 0 (hitB 0 (22 + nl) [0, 22 + nl, -1, -1, 5, 13, 15, 15 + nl]) && runB (pcs, []) t (22 + nl) failedB
theorem red_all : ([true, false].all fun b => [1, 2, 3, 4, 5].all (redChk b)) = true := by decide +kernel
theorem link_all : ([true, false].all fun b => [1, 2, 3, 4, 5].all (linkChk b)) = true := by decide +kernel

theorem run_like {idx : Idx} {t t' : Array Nat} {k : Nat} {f : Option Sre.M → Bool} (h : runB idx t k f = true) (hs : Sim idx code0 t t') (hsz : t'.size = t.size) (hc : (forSearch code0 t 4 k t.size false).code = code0) (ht : (forSearch code0 t 4 k t.size false).text = t) :
    ∃ o, f o = true ∧ turns 200 (forSearch code0 t' 4 k t'.size false) = o.map (wt · t') := by
  unfold runB at h
  rw [Bool.and_eq_true] at h
  refine ⟨_, h.2, ?_⟩
  rw [hsz, search_wt t t']
  exact wt_turns idx t' 200 _ h.1 (by rw [hc, ht]; exact hs)
end Mine

end
section
open PySem PySem.W PyProof.Rows PySem.Calls PySem.Sre PySem.Builtin PySem.Builtin.Re PySem.Builtin.Str
set_option maxRecDepth 100000
set_option linter.unusedVariables false
namespace Mine
open PySem.F in
theorem func_call : typeLookup (.type "function") "__call__" = pure (some (.builtin "function.__call__")) := by rw [typeLookup_type, builtinLookup_eq_fast]; kernel_rfl
theorem str_notBytearray : isSubtype (.type "str") (.type "bytearray") = pure false := by rw [isSubtype_type]; kernel_rfl
def retR (Q : Value → Shared → Prop) (E : Value → Shared → Prop) : Result → Shared → Prop := fun r s' => match r with | .ok (.ret v) => Q v s' | .ok _ => False | .error e => E e s'

theorem sub_call {C : Cx} {x : Str} {t : Tok} {f : Addr} {s : Shared} {news : Led} {m : Str → Option Value} {Q : Value → Shared → Prop} {E : Value → Shared → Prop} {fo : Obj} (F : Fr C.h₀ C.L s.heap m) (N : News C.h₀ C.L s.heap news) (P : PatAt s.heap) (hf : (f, fo) ∈ news) (hfc : fo.cls = .type "function")
    (hk : ∀ h' o, Fr C.h₀ C.L h' m → News C.h₀ C.L h' ((o, lstObj #[] 0) :: news) → (∀ p ∈ news, p.1 ≠ o) → codeAny (model P0 C.w) C.A (.builtin "re.Pattern.sub.loop" (loopArgs x t f o 0 0 0 false)) (retR Q E) { s with heap := h' }) :
    wpAny (model P0 C.w) C.A (call (.builtin "re.Pattern.sub") [.ref 36, .ref f, .str x t]) Q E s := by
  obtain ⟨⟨po, vs, e36, pc, _⟩, _⟩ := id P
  have hT : s.TypeIs (.ref 36) "re.Pattern" := ⟨_, e36, pc⟩
  refine wpAny_call ?_
  show codeAny _ _ _ (retR Q E) _
  refine codeAny_call_builtin slot_sub.plain entry_sub (slot_sub.check _ _ _ _ _ _ _ _ hT (args_sub _ _ _) ?_)
  unfold Builtin.«re.Pattern.sub» reSubstitute
  dsimp only
  refine wpAny_bind (wpAny_of_eq (a := [some (.ref f), some (.str x t), none]) rfl ?_)
  dsimp only
  refine wpAny_bind (wpAny_pure ?_)
  have hTf : s.TypeIs (.ref f) "function" := ⟨fo, (N _ hf).1, hfc⟩
  refine wpAny_bind (wpAny_specialOf hTf func_call ?_)
  rw [if_pos (show (some (Value.builtin "function.__call__")).isSome = true from rfl)]
  refine wpAny_bind (wpAny_pure ?_)
  rw [if_pos (show (some (Value.builtin "function.__call__")).isSome = true from rfl)]
  refine wpAny_bind (wpAny_pure ?_)
  dsimp only
  refine wpAny_bind (wpAny_holding (wp_target P ?_))
  rw [if_pos (by rfl)]
  unfold reNotHeld
  refine wpAny_bind (wpAny_bind (wpAny_isInstance (T := "str") (U := "bytearray") (b := false) (typeIs_str _ _ _) str_notBytearray ?_))
  dsimp only
  rw [if_neg Bool.false_ne_true]
  refine wpAny_pure (wpAny_bind (newList_K F N (fun o h' F' N' hlt => ?_) (by rw [line_is]; decide)))
  refine wpAny_pure ⟨plainId_quiet plain_loop _, hk h' o F' N' (fun p hp => Nat.ne_of_lt (hlt p hp))⟩
end Mine

end
section
open PySem PySem.W PyProof.Rows PySem.Calls PySem.Sre PySem.Builtin PySem.Builtin.Re PySem.Builtin.Str
set_option maxRecDepth 100000
set_option linter.unusedVariables false
namespace Mine

inductive LikeL : List Nat → List Nat → Prop where
  | nil : LikeL [] []
  | cons {a b : Nat} {r q : List Nat} : Like a b → LikeL r q → LikeL (a :: r) (b :: q)
theorem LikeL.refl : ∀ l, LikeL l l
  | [] => .nil
  | a :: r => .cons (.inl rfl) (LikeL.refl r)
theorem LikeL.app : ∀ {a b c d : List Nat}, LikeL a b → LikeL c d → LikeL (a ++ c) (b ++ d)
  | _, _, _, _, .nil, h => h
  | _, _, _, _, .cons h r, g => .cons h (r.app g)
theorem LikeL.len : ∀ {a b : List Nat}, LikeL a b → a.length = b.length
  | _, _, .nil => rfl
  | _, _, .cons h r => by simp [r.len]
theorem LikeL.get : ∀ {a b : List Nat}, LikeL a b → ∀ p, Like (a.getD p 0) (b.getD p 0)
  | _, _, .nil, p => .inl rfl
  | _, _, .cons h r, 0 => h
  | _, _, .cons h r, p + 1 => by simpa using r.get p
theorem getD_arr (l : List Nat) (p : Nat) : l.toArray.getD p 0 = l.getD p 0 := by
  rw [Array.getD_eq_getD_getElem?, List.getD_eq_getElem?_getD]; simp

def Stripped (l raw : List Nat) : Prop :=
  (raw = l ∧ 0 < l.length ∧ l.length < 24 ∧ ∀ c ∈ l, c ≠ 27) ∨
  ∃ neg wl, wl ∈ [1, 2, 3, 4, 5] ∧ LikeL raw (smp neg wl) ∧ (l = redF ++ raw ++ redB ∨ l = linkF ++ raw ++ linkB)

theorem plain_run {l : List Nat} (h0 : l.length < 24) (h : ∀ c ∈ l, c ≠ 27) : ∃ m', turns 100 (srch ⟨l.toArray⟩ 0 false) = some m' ∧ m'.outcome = some .failed := by
  have hp := List.all_eq_true.mp plain_all l.length (List.mem_range.mpr h0)
  unfold plainB at hp
  rw [Bool.and_eq_true] at hp
  obtain ⟨m, hm, ho⟩ := failedB_spec hp.2
  have hw := wt_turns ([11], []) l.toArray 100 (forSearch code0 (Array.replicate l.length 48) 4 0 l.length false) hp.1 ?_
  · rw [← search_wt, hm] at hw
    have e : l.toArray.size = l.length := by simp
    exact ⟨wt m l.toArray, by show turns 100 (forSearch code0 l.toArray 4 0 l.toArray.size false) = _; rw [e]; exact hw, ho⟩
  · have hc : (forSearch code0 (Array.replicate l.length 48) 4 0 l.length false).code = code0 := by
      unfold forSearch; dsimp only; split
      · rfl
      · unfold M.attemptFrom; rw [if_pos (by rfl)]; exact code_attempt _ _ _ _ _
    have ht : (forSearch code0 (Array.replicate l.length 48) 4 0 l.length false).text = Array.replicate l.length 48 := by
      rw [search_wt #[]]; rfl
    rw [hc, ht]
    refine sim_plain (fun p => ?_) fun p => ?_
    · rw [getD_arr, List.getD_eq_getElem?_getD]
      cases e : l[p]? with
      | none => decide
      | some c => exact h c (List.mem_of_getElem? e)
    · rw [Array.getD_eq_getD_getElem?]
      by_cases hp : p < l.length
      · simp [hp]
      · simp [hp]

theorem search_code (t : Array Nat) (k lim : Nat) : (forSearch code0 t 4 k lim false).code = code0 := by
  unfold forSearch; dsimp only; split
  · rfl
  · unfold M.attemptFrom; rw [if_pos (by rfl)]; exact code_attempt _ _ _ _ _
theorem search_text (t : Array Nat) (k lim : Nat) : (forSearch code0 t 4 k lim false).text = t := by rw [search_wt #[]]; rfl

theorem hit_like {idx : Idx} {t t' : Array Nat} {k st hd : Nat} {sp : List Int} (h : runB idx t k (hitB st hd sp) = true) (hs : Sim idx code0 t t') (hsz : t'.size = t.size) :
    ∃ m, turns 200 (srch ⟨t'⟩ k false) = some m ∧ m.outcome = some .matched ∧ m.start = st ∧ m.handed = hd ∧ spansOf m = sp.map rawInt ∧ wrongOf m = false := by
  obtain ⟨o, ho, hr⟩ := run_like h hs hsz (search_code _ _ _) (search_text _ _ _)
  obtain ⟨m, rfl, h1, h2, h3, h4, h5⟩ := hitB_spec ho
  exact ⟨wt m t', hr, h1, h2, h3, by rw [spans_eq, show spansI (wt m t') = spansI m from rfl, h4], h5⟩
theorem fail_like {idx : Idx} {t t' : Array Nat} {k : Nat} (h : runB idx t k failedB = true) (hs : Sim idx code0 t t') (hsz : t'.size = t.size) :
    ∃ m, turns 200 (srch ⟨t'⟩ k false) = some m ∧ m.outcome = some .failed := by
  obtain ⟨o, ho, hr⟩ := run_like h hs hsz (search_code _ _ _) (search_text _ _ _)
  obtain ⟨m, rfl, h1⟩ := failedB_spec ho
  exact ⟨wt m t', hr, h1⟩
theorem red_ok {neg : Bool} {wl : Nat} (h : wl ∈ [1, 2, 3, 4, 5]) : redChk neg wl = true := by
  have := List.all_eq_true.mp red_all neg (by cases neg <;> simp)
  exact List.all_eq_true.mp this wl h
theorem link_ok {neg : Bool} {wl : Nat} (h : wl ∈ [1, 2, 3, 4, 5]) : linkChk neg wl = true := by
  have := List.all_eq_true.mp link_all neg (by cases neg <;> simp)
  exact List.all_eq_true.mp this wl h
theorem smp_len (neg : Bool) (wl : Nat) (h : wl ∈ [1, 2, 3, 4, 5]) : 5 ≤ (smp neg wl).length ∧ (smp neg wl).length ≤ 10 := by
  simp only [List.mem_cons, List.not_mem_nil, or_false] at h
  cases neg <;> rcases h with rfl | rfl | rfl | rfl | rfl <;> decide
end Mine

end
section
open PySem PySem.W PyProof.Rows PySem.Calls PySem.Sre PySem.Builtin PySem.Builtin.Re PySem.Builtin.Str
set_option maxRecDepth 100000
set_option linter.unusedVariables false
namespace Mine

theorem ext_mid (a b c : List Nat) : ((a ++ b ++ c).toArray.extract a.length (a.length + b.length)) = b.toArray := by
  apply Array.ext'
  simp [List.extract_eq_take_drop]
theorem str_size (l : List Nat) : (⟨l.toArray⟩ : Str).cps.size = l.length := by simp

theorem sim_red {neg : Bool} {wl : Nat} {raw : List Nat} (h : LikeL raw (smp neg wl)) : Sim (pcs, []) code0 (redT (smp neg wl)) (redT raw) :=
  sim_like (fun p => by
    unfold redT
    rw [getD_arr, getD_arr]
    exact (((LikeL.refl _).app h).app (LikeL.refl _)).get p) fun p hp => nomatch hp
theorem sim_link {neg : Bool} {wl : Nat} {raw : List Nat} (h : LikeL raw (smp neg wl)) (eqs : List Nat) (he : eqs = [] ∨ eqs = [2, 17 + (smp neg wl).length]) : Sim (pcs, eqs) code0 (linkT (smp neg wl)) (linkT raw) :=
  sim_like (fun p => by
    unfold linkT
    rw [getD_arr, getD_arr]
    exact (((LikeL.refl _).app h).app (LikeL.refl _)).get p) fun p hp => by
      rcases he with rfl | rfl
      · cases hp
      · unfold linkT
        rw [getD_arr, getD_arr]
        simp only [List.mem_cons, List.not_mem_nil, or_false] at hp
        rcases hp with rfl | rfl
        · rfl
        · rw [List.getD_eq_getElem?_getD, List.getD_eq_getElem?_getD, List.getElem?_append_right (by simp [h.len]; omega), List.getElem?_append_right (by simp; omega)]
          simp only [List.length_append, List.length_cons, List.length_nil, h.len]

theorem strip_loop {C : Cx} {f o : Addr} {s : Shared} {news : Led} {m : Str → Option Value} {k : Nat} {l raw : List Nat} {t : Tok} {Q : Value → Shared → Prop} {E : Value → Shared → Prop}
    {c' : Addr} {oc : Obj} {name : Str} {p0 p1 p2 p3 p4 p5 p6 p7 p8 : Pos} {pm ctv : Value} {tc : Tok} {vs : Array Value} (ok : C.Ok (k + 1))
    (F : Fr C.h₀ C.L s.heap m) (N : News C.h₀ C.L s.heap ((o, lstObj #[] 0) :: news)) (hne : ∀ p ∈ news, p.1 ≠ o)
    (hf : (f, kla_obj name lamQ (lamParams p0) (lamBody p1 p2 p3 p4 p5 p6 p7 p8) lamScope [] pm c' ctv) ∈ news) (hc : (c', oc) ∈ news) (hcd : oc.data = .fields vs) (hcv : vs[1]? = some (.str lamQ tc))
    (hme : ∀ env : Env, ∃ pl, PySem.eval (.Call (.Attribute (.Name (Str.ofString "_m") p2) (Str.ofString "group") p3) [.Constant (.int 4) 0 p4] [] p5) env = (do
      let ov ← PySem.eval (.Name (Str.ofString "_m") p2) env
      standAt p3.atName
      let (f, first) ← holding [ov] (getMethod ov (Str.ofString "group") pl)
      callWith p5 f first (backTo p5 (starEach [.Constant (.int 4) 0 p4] env)) []))
    (hst : Stripped l raw)
    (hq : ∀ u h' tk' news', Sub news news' → s.toks ≤ u → u < tk' → Fr C.h₀ C.L h' m → News C.h₀ C.L h' news' → Q (.str ⟨raw.toArray⟩ u) { s with heap := h', toks := tk' }) :
    codeAny (model P0 C.w) C.A (.builtin "re.Pattern.sub.loop" (loopArgs ⟨l.toArray⟩ t f o 0 0 0 false)) (retR Q E) s := by
  have P : ∀ {h : Heap} {m : Str → Option Value}, Fr C.h₀ C.L h m → PatAt h := fun F => patAt_of (ok.X.keeps F.keep)
  rcases hst with ⟨rfl, h0, h24, h27⟩ | ⟨neg, wl, hwl, hlike, hl⟩
  · obtain ⟨m', hrun, hout⟩ := plain_run h24 h27
    refine loop_none F N hne (P F) (by simp) (by rw [str_len]; omega) hrun (by omega) hout (fun h => absurd (by rw [str_size]; exact h0) h) fun h' tk' xs n' F' N' hx => ?_
    rw [if_pos (by rw [str_size]; exact h0)] at hx
    obtain ⟨rfl, rfl⟩ := hx
    have e : (⟨raw.toArray.extract (Int.toNat 0) raw.toArray.size⟩ : Str) = ⟨raw.toArray⟩ := by simp
    have z := (N' _ (.head _)).1
    refine join_one (y := ⟨raw.toArray⟩) (u := s.toks) (n := n') ?_ (by rw [str_len]; omega) ?_
    · rw [← e]; exact z
    · exact hq s.toks h' _ news (Sub.refl _) (Nat.le_refl _) (by omega) F' fun p hp => N' p (.tail _ hp)
  · have hsl := smp_len neg wl hwl
    have hrl := hlike.len
    rcases hl with rfl | rfl
    · -- red
      have hr := red_ok (neg := neg) hwl
      unfold redChk at hr
      simp only [Bool.and_eq_true] at hr
      obtain ⟨⟨r1, r2⟩, r3⟩ := hr
      have hsz : (redT raw).size = (redT (smp neg wl)).size := by simp [redT, hrl]
      have hszl : (redF ++ raw ++ redB).length = 9 + raw.length := by simp [redF, redB]; omega
      obtain ⟨m1, q1, o1, st1, hd1, sp1, w1⟩ := hit_like r1 (sim_red hlike) hsz
      obtain ⟨m2, q2, o2, st2, hd2, sp2, w2⟩ := hit_like r2 (sim_red hlike) hsz
      obtain ⟨m3, q3, o3⟩ := fail_like r3 (sim_red hlike) hsz
      rw [← hrl] at st2 hd2 q3 sp2
      refine loop_some (x := ⟨(redF ++ raw ++ redB).toArray⟩) (m' := m1) (b := -1) (e := -1) ok F N hne (P F) (by simp) (by rw [str_len, hszl]; omega) hf hc hcd hcv hme q1 (by omega) o1 sp1 (by rfl) w1 (by rfl) (by rfl) (.inl (by decide)) (by rw [st1]; omega) fun h1 tk1 y1 u1 n1 news1 sub1 hne1 F1 N1 htk1 hy1 _ _ => ?_
      have hy1 := hy1 (by decide)
      subst hy1
      rw [if_neg (by rw [st1]; decide)] at N1
      rw [st1, hd1]
      refine loop_some (s := { s with heap := h1, toks := tk1 }) (x := ⟨(redF ++ raw ++ redB).toArray⟩) (m' := m2) (b := -1) (e := -1) ok F1 N1 hne1 (P F1) (by simp) (by rw [str_len, hszl]; omega) (sub1 _ hf) (sub1 _ hc) hcd hcv hme q2 (by omega) o2 sp2 (by rfl) w2 (by rfl) (by rfl) (.inl (by decide)) (by rw [st2, str_size, hszl]; omega) fun h2 tk2 y2 u2 n2 news2 sub2 hne2 F2 N2 htk2 hy2 _ hlt2 => ?_
      have hy2 := hy2 (by decide)
      subst hy2
      have hlt : (Int.toNat ((5 : Nat) : Int)) < m2.start := by rw [st2]; show 5 < _; omega
      rw [if_pos hlt] at N2
      have hmf : (m2.handed == m2.start) = false := by rw [st2, hd2]; simp
      rw [hmf, hd2]
      refine loop_none (s := { s with heap := h2, toks := tk2 }) (x := ⟨(redF ++ raw ++ redB).toArray⟩) F2 N2 hne2 (P F2) (by simp) (by rw [str_len, hszl]; omega) q3 (by omega) o3 (fun _ => by simp) fun h3 tk3 xs n3 F3 N3 hx => ?_
      rw [if_neg (by rw [str_size, hszl]; show ¬ (9 + raw.length < _); omega)] at hx
      obtain ⟨rfl, rfl⟩ := hx
      have e : ((redF ++ raw ++ redB).toArray.extract (Int.toNat ((5 : Nat) : Int)) m2.start) = raw.toArray := by
        rw [st2]; exact ext_mid redF raw redB
      have z := (N3 _ (.head _)).1
      simp only [e] at z
      refine join_three (y := ⟨raw.toArray⟩) (u := tk1) (u1 := u1) (u2 := u2) (n := n3) z (by rw [str_len]; omega) ?_
      exact hq _ h3 _ news2 (sub1.trans sub2) (by show s.toks ≤ tk3 + 1; have : tk1 ≤ tk3 := htk2; omega) (Nat.lt_succ_self _) F3 fun p hp => N3 p (.tail _ hp)
    · -- a link
      have hr := link_ok (neg := neg) hwl
      unfold linkChk at hr
      simp only [Bool.and_eq_true] at hr
      obtain ⟨r1, r2⟩ := hr
      have hsz : (linkT raw).size = (linkT (smp neg wl)).size := by simp [linkT, hrl]
      have hszl : (linkF ++ raw ++ linkB).length = 22 + raw.length := by simp [linkF, linkB]; omega
      obtain ⟨m1, q1, o1, st1, hd1, sp1, w1⟩ := hit_like r1 (sim_link hlike _ (.inr rfl)) hsz
      obtain ⟨m2, q2, o2⟩ := fail_like r2 (sim_link hlike _ (.inl rfl)) hsz
      rw [← hrl] at hd1 q2 sp1
      have e : ((linkF ++ raw ++ linkB).toArray.extract (Int.toNat 15) (Int.toNat (15 + (raw.length : Int)))) = raw.toArray := by
        have := ext_mid linkF raw linkB
        have e15 : Int.toNat (15 + (raw.length : Int)) = linkF.length + raw.length := by simp [linkF]; omega
        rw [e15]; exact this
      refine loop_some (x := ⟨(linkF ++ raw ++ linkB).toArray⟩) (m' := m1) (b := 15) (e := 15 + (raw.length : Int)) ok F N hne (P F) (by simp) (by rw [str_len, hszl]; omega) hf hc hcd hcv hme q1 (by omega) o1 sp1 (by rfl) w1 (by rfl) (by rfl) (.inr ⟨by omega, by rw [e]; simp; intro h; rw [h] at hrl; simp at hrl; omega⟩) (by rw [st1]; omega) fun h1 tk1 y1 u1 n1 news1 sub1 hne1 F1 N1 htk1 _ hy1 _ => ?_
      obtain ⟨hy1, hu1, hu2⟩ := hy1 (by decide)
      rw [e] at hy1
      subst hy1
      rw [if_neg (by rw [st1]; decide)] at N1
      have hmf : (m1.handed == m1.start) = false := by rw [st1, hd1]; simp
      rw [hmf, hd1]
      refine loop_none (s := { s with heap := h1, toks := tk1 }) (x := ⟨(linkF ++ raw ++ linkB).toArray⟩) F1 N1 hne1 (P F1) (by simp) (by rw [str_len, hszl]; omega) q2 (by omega) o2 (fun _ => by simp) fun h3 tk3 xs n3 F3 N3 hx => ?_
      rw [if_neg (by rw [str_size, hszl]; show ¬ (22 + raw.length < _); omega)] at hx
      obtain ⟨rfl, rfl⟩ := hx
      have z := (N3 _ (.head _)).1
      refine join_one (y := ⟨raw.toArray⟩) (u := u1) (n := n3) z (by rw [str_len]; omega) ?_
      exact hq _ h3 _ news1 sub1 (Nat.le_of_lt hu1) (Nat.lt_succ_of_lt hu2) F3 fun p hp => N3 p (.tail _ hp)
end Mine

end
section
open PySem PySem.W PyProof.Rows PySem.Calls PySem.Sre PySem.Builtin PySem.Builtin.Re PySem.Builtin.Str
set_option maxRecDepth 100000
set_option linter.unusedVariables false
namespace Mine

theorem Go.k {α : Type} {C : Cx} {A : Around} {m : Str → Option Value} {news : Led} {t : Sem α} {P : Led → α → Prop} (h : Go C A m news t P) (s : Shared) (Q : α → Shared → Prop) (E : Value → Shared → Prop) (F : Fr C.h₀ C.L s.heap m) (N : News C.h₀ C.L s.heap news)
    (hq : ∀ (x : α) (news' : Led) (h' : Heap) (tk' : Nat), s.toks ≤ tk' → Sub news news' → P news' x → Fr C.h₀ C.L h' m → News C.h₀ C.L h' news' → Q x { s with heap := h', toks := tk' }) : wpAny C.M A t Q E s := by
  have h1 := h s (fun x s' => ∃ news' h' tk', s' = { s with heap := h', toks := tk' } ∧ Sub news news' ∧ P news' x ∧ Fr C.h₀ C.L h' m ∧ News C.h₀ C.L h' news') E F N fun x n h' tk' sub p F' N' => ⟨n, h', tk', rfl, sub, p, F', N'⟩
  refine wpAny_mono (wpAny_toks_of (Nat.le_refl _) h1) (fun x s' hx => ?_) fun e s' he => he.2
  obtain ⟨hle, n, h', tk', rfl, sub, p, F', N'⟩ := hx
  exact hq x n h' tk' hle sub p F' N'

theorem enterX {sl : Addr} {sns : List Int} {f : Addr} {k : Nat} {vs : List V} {P : Nat → Value → Prop} {name qual : Str} {params : Arguments} {body : List Stmt} {scope : Scope} {dV kV doc pm cdv ct oc : Value} {an od : Option Addr} {osl : Array (Option Value)} (names ps : List Str) (j : Nat)
    (ho : ∀ w, List.lookup f (K0 w) = some { cls := oc, dict := od, data := .func (fnOf name qual params body scope dV kV doc pm an cdv ct), slots := osl })
    (hcd : ∀ w, codeIn (K0 w) cdv qual = true)
    (hbind : ∀ xs : List Value, xs.length = ps.length → bindArgs (fnOf name qual params body scope dV kV doc pm an cdv ct) ⟨xs, []⟩ = pure (ps.zip xs))
    (hkinds : (names.all fun x => scope.names.lookup x == some .local && !(x == ("__debug__" : Str))) = true) (hnd : names.Nodup) (hp : names.take ps.length = ps) (hl : ps.length = vs.length) (hl0 : 0 < ps.length)
    (hco : scope.isCoroutine = false) (hgen : scope.isGenerator = false) (hk : scope.kind = .function) (hcell : (scope.names.all fun x => x.2 != .cell) = true)
    (hbody : ∀ C : Cx, C.sl = sl → C.sns = sns → C.Ok k → C.Nm → C.cs = scope → C.names = names → C.cn = qual → C.ccd = cdv → C.cl = [] → ∀ m news (s : Shared) (Q : Flow → Shared → Prop) (E : Value → Shared → Prop), Fr C.h₀ C.L s.heap m → News C.h₀ C.L s.heap news → TabIn news → 0 < s.toks → Agree C.names m news (vs ++ List.replicate j .undef) →
      (∀ (x : Value) (m' : Str → Option Value) (news' : Led) (h' : Heap) (tk' : Nat), SubX news news' → TabIn news' → P tk' x → Fr C.h₀ C.L h' m' → News C.h₀ C.L h' news' → Q (.ret x) { s with heap := h', toks := tk' }) → wpAny C.M C.A (execs body C.env) Q E s) :
    ∀ (C : Cx) (m : Str → Option Value) (news : Led) (xs : List Value), C.sl = sl → C.sns = sns → C.Ok (k + 1) → Reps news vs xs → GoX C m news (call (.ref f) xs) fun _ tk' n x => P tk' x := by
  intro C m news xs hsl hsns ok hr s Q E F N tb hq
  have hkl : ∀ x ∈ names, scope.names.lookup x = some .local := fun x hx => by have := List.all_eq_true.mp hkinds x hx; simp only [Bool.and_eq_true] at this; simpa using this.1
  have hdb : ∀ x ∈ names, (x == ("__debug__" : Str)) = false := fun x hx => by have := List.all_eq_true.mp hkinds x hx; simp only [Bool.and_eq_true] at this; simpa using this.2
  refine wpAny_call (code_def (binds := ps.zip xs) (dV := dV) (kV := kV) ok.B F ok.X N ok.T rfl rfl ok.fn (ho C.w) (hcd C.w) (by have := ok.dep; show C.dp < 1000; omega) (BindsTo.of_eq (hbind xs (by rw [hr.length, hl]))) ?_ ?_ hco hgen hk ?_)
  · intro y hy
    refine hkl y.1 ?_
    rw [← hp] at hy
    exact List.mem_of_mem_take (List.of_mem_zip hy).1
  · intro g L' h₁ FG F' N' B' X' T'
    let C' : Cx := { C with dp := C.dp + 1, un := C.un + 3, cn := qual, cs := scope, a := f, ccd := cdv, cl := [], outer := C.env :: C.outer, A₀ := C.A, h₀ := g, L := L', names := names }
    have ok' : C'.Ok k := ⟨B', X', T', hk, (let ⟨o, e, r⟩ := ok.lst; ⟨o, FG.keep _ _ e, r⟩), ok.iar, ok.few, ok.bits, ok.XB, ok.TB, ok.push FG, (by have := ok.dep; show C.dp + 1 + k < 990; omega), (by have := ok.uni; show C.un + 3 + 10 * k < 9000; omega)⟩
    have nm' : C'.Nm := ⟨hnd, hkl, hdb, hk⟩
    refine hbody C' hsl hsns ok' nm' rfl rfl rfl rfl rfl _ news _ _ _ F' N' tb ?_ (agree_init hnd hp hl hr) ?_
    · have : (ps.zip xs).length = ps.length := by rw [List.length_zip, hr.length, hl]; simp
      show 0 < s.toks + (ps.zip xs).length
      omega
    intro x m' news' h' tk' sub tb' px F2 N2
    exact ⟨L', m', news', F2, N2, fun F3 N3 => hq x news' h' tk' sub tb' px F3 N3⟩
  · intro x hx e
    have := List.all_eq_true.mp hcell x hx
    rw [e] at this
    exact absurd this (by decide)

theorem codeHd_of {w : World} {h : Heap} (X : (K0 w).In h) : CodeHd h 47 43 :=
  ⟨_, _, _, _, _, _, _, _, _, X 47 _ (by rfl), rfl, rfl, rfl, rfl, rfl, rfl, rfl, rfl, by decide⟩
end Mine

end
section
open PySem PySem.W PyProof.Rows PySem.Calls PySem.Sre PySem.Builtin PySem.Builtin.Re PySem.Builtin.Str
set_option maxRecDepth 100000
set_option linter.unusedVariables false
namespace Mine

theorem lam_make {C : Cx} {k : Nat} (ok : C.Ok k) (hccd : C.ccd = .ref 47) (hq : C.env.qual ++ "<lambda>" = lamQ) {p0 p1 p2 p3 p4 p5 p6 p7 p8 pos : Pos} (hl : pos.line = 6) (hc : pos.col = 27) {s : Shared} {m : Str → Option Value} {news : Led} {Q : Value → Shared → Prop} {E : Value → Shared → Prop}
    (F : Fr C.h₀ C.L s.heap m) (N : News C.h₀ C.L s.heap news) (tb : TabIn news)
    (hk : ∀ f c' oc vs t name ctv pm h' tk' n1, SubX news n1 → TabIn n1 → (f, kla_obj name lamQ (lamParams p0) (lamBody p1 p2 p3 p4 p5 p6 p7 p8) lamScope [] pm c' ctv) ∈ n1 → (c', oc) ∈ n1 → oc.data = .fields vs → vs[1]? = some (.str lamQ t) → Fr C.h₀ C.L h' m → News C.h₀ C.L h' n1 → Q (.ref f) { s with heap := h', toks := tk' }) :
    wpAny C.M C.A (eval (.Lambda (lamParams p0) (lamBody p1 p2 p3 p4 p5 p6 p7 p8) lamScope pos) C.env) Q E s := by
  refine kla_eval rfl ?_
  rw [hq]
  obtain ⟨ps, hps, hcase⟩ := tb
  rcases hcase with rfl | ⟨c', oc, vs, t, rfl, hco, hd, hv⟩
  · -- the first time: the code is made and kept in the table
    have h43 := (N _ hps).1
    have N' : News C.h₀ C.L s.heap ((43, tabObj #[]) :: news.filter fun p => p.1 != 43) := fun p hp => by
      rcases List.mem_cons.mp hp with rfl | hp
      · exact N _ hps
      · exact N p (List.mem_filter.mp hp).1
    refine kla_nest (c := 47) (P := 43) (ps := #[]) (clos := []) F N' ok.T (codeHd_of ok.X) hccd (.head fun p hp => by simpa using (List.mem_filter.mp hp).2) trivial rfl rfl fun f c' oc vs t ctv h' tk F' N'' hd hv _ _ => ?_
    refine hk f c' oc vs t _ ctv _ h' tk _ (fun p hp => ?_) ⟨_, .tail _ (.tail _ (.head _)), .inr ⟨c', oc, vs, t, by rw [hl, hc]; rfl, .tail _ (.head _), hd, hv⟩⟩ (.head _) (.tail _ (.head _)) hd hv F' N''
    by_cases e : p.1 = 43
    · right
      have := (N p hp).1
      rw [e, h43] at this
      rw [← Option.some.inj this]
    · left
      exact .tail _ (.tail _ (.tail _ (List.mem_filter.mpr ⟨hp, by simpa using e⟩)))
  · refine kla_hit (c := 47) (P := 43) (c' := c') (clos := []) F N ok.T (codeHd_of ok.X) hccd hps (by exact trivial) (by show (if ((6 : Int) == (pos.line : Int) && (27 : Int) == (pos.col : Int)) = true then some (Value.ref c') else _) = _; rw [hl, hc]; rfl) rfl fun f ctv h' tk F' N'' _ => ?_
    exact hk f c' oc vs t _ ctv _ h' tk _ (fun p hp => .inl (.tail _ hp)) ⟨_, .tail _ hps, .inr ⟨c', oc, vs, t, rfl, .tail _ hco, hd, hv⟩⟩ (.head _) (.tail _ hco) hd hv F' N''
end Mine

end
section
open PySem PySem.W PyProof.Rows PySem.Calls PySem.Sre PySem.Builtin PySem.Builtin.Re PySem.Builtin.Str
set_option maxRecDepth 100000
set_option linter.unusedVariables false
namespace Mine

theorem strip_fn (sl : Addr) (sns : List Int) (l raw : List Nat) (hst : Stripped l raw) : ∀ (C : Cx) (m : Str → Option Value) (news : Led) (xs : List Value), C.sl = sl → C.sns = sns → C.Ok (2 + 1) → Reps news [.str l] xs →
    GoX C m news (call (.ref 48) xs) fun _ tk' n x => (fun tk' x => ∃ u, x = .str ⟨raw.toArray⟩ u ∧ 0 < u ∧ u < tk') tk' x := by
  refine enterX (P := fun tk' x => ∃ u, x = .str ⟨raw.toArray⟩ u ∧ 0 < u ∧ u < tk') [Str.ofString "s"] [Str.ofString "s"] 0 (fun w => by rfl) (fun w => by rfl) (fun xs h => ?_) (by decide +kernel) (by decide +kernel) (by decide +kernel) rfl (by decide) rfl rfl rfl (by decide +kernel) ?_
  · match xs, h with
    | [a], _ => rfl
  · intro C hsl hsns ok nm hcs hnames hcn hccd hcl m news s Q E F N tb htok g hq
    have hqq : C.env.qual ++ "<lambda>" = lamQ := by
      show (envX C.cn C.cs C.L C.a C.ccd C.cl).qual ++ "<lambda>" = lamQ
      rw [hcn]; rfl
    have hNm : C.names[0]? = some (Str.ofString "s") := by rw [hnames]; rfl
    refine wpAny_execs_cons (wpAny_Return_some (MethodCall_ (Go.k ((Ev.gl (ρ := [.str l]) ok hcs g_ansi : Ev C _ [.str l] _) m news g) s _ E F N fun x n1 h1 tk1 le1 s1 r1 F1 N1 => ?_)))
    cases r1
    have P1 : PatAt h1 := patAt_of (ok.X.keeps F1.keep)
    obtain ⟨⟨po, pvs, e36, pc, pdi, _⟩, _⟩ := id P1
    refine getMethod_builtin (T := "re.Pattern") (id := "re.Pattern.sub") ⟨_, e36, pc⟩ plainAttrs_pat slot_sub type_sub (fun q hq => by cases hq; exact ⟨_, e36, pdi⟩) ?_
    refine callWith_method1 (spliced_more (wpAny_mono (wpAny_toks_of (n := 1) (by show 1 ≤ tk1; omega) (lam_make (s := { s with heap := h1, toks := tk1 }) (Q := fun x s' => ∃ f c' oc vs t name ctv pm h' tk' n2, x = .ref f ∧ s' = { s with heap := h', toks := tk' } ∧ SubX n1 n2 ∧ TabIn n2 ∧ (f, kla_obj name lamQ _ _ lamScope [] pm c' ctv) ∈ n2 ∧ (c', oc) ∈ n2 ∧ oc.data = .fields vs ∧ vs[1]? = some (.str lamQ t) ∧ Fr C.h₀ C.L h' m ∧ News C.h₀ C.L h' n2) (E := E) ok hccd hqq rfl rfl F1 N1 (tb.mono s1) (fun f c' oc vs t name ctv pm h' tk' n2 a1 a2 a3 a4 a5 a6 a7 a8 => ⟨f, c', oc, vs, t, name, ctv, pm, h', tk', n2, rfl, rfl, a1, a2, a3, a4, a5, a6, a7, a8⟩))) (fun x s' hx => ?_) fun _ _ h => h.2))
    obtain ⟨hle, f, c', oc, vs, t, name, ctv, pm, h2, tk2, n2, rfl, rfl, sx, tb2, hf, hco, hd, hv, F2, N2⟩ := hx
    obtain ⟨y, hy, ry⟩ := (g.mono s1).monoT sx.toT 0 _ _ hNm rfl (by intro h; cases h)
    cases ry
    refine spliced_more (nameX_L F2 hy (spliced_none ?_) nm.fn (nm.loc _ (List.mem_of_getElem? hNm)) (nm.dbg _ (List.mem_of_getElem? hNm)))
    refine sub_call (s := { s with heap := h2, toks := tk2 }) F2 N2 (patAt_of (ok.X.keeps F2.keep)) hf rfl fun h3 o F3 N3 hne => ?_
    refine strip_loop (s := { s with heap := h3, toks := tk2 }) ok F3 N3 hne hf hco hd hv (fun env => ⟨_, rfl⟩) hst fun u h4 tk4 n4 sub4 hu1 hu2 F4 N4 => ?_
    refine hq _ m n4 h4 tk4 ((s1.toX.trans sx).trans sub4.toX) (tb2.mono sub4) ⟨u, rfl, ?_, hu2⟩ F4 N4
    exact Nat.lt_of_lt_of_le hle hu1
end Mine

end
section
open PySem PySem.W PyProof.Rows PySem.Calls PySem.Spec
set_option maxRecDepth 100000
set_option linter.unusedVariables false
namespace Mine

def parse (l : List Nat) : Option UInt64 := Num.parseText? ⟨l.toArray⟩
def fmtF (b : UInt64) (k : Nat) : List Nat := (Txt.fmtFloat b ⟨(pform k).toArray⟩).cps.toList

theorem noneBooked_of {w : World} {h : Heap} (X : (K0 w).In h) (nl : h.NoLimit) : NoneBooked h := by
  obtain ⟨mc, hn, _⟩ := nl
  exact ⟨mc, hn, ns_none_of X hn (by rfl)⟩

section
variable {C : Cx} {m : Str → Option Value} {news : Led} {ρ : List V}
theorem repr_small {l : List Nat} (hl : l.length ≤ 1000) (hc : ∀ c ∈ l, c < 1114112) : (reprText ⟨l.toArray⟩).length + 40 ≤ sizeLine := by
  have := StrLaws.reprText_len ⟨l.toArray⟩ (fun c hcc => by have := hc c (by simpa using hcc); have e : (16 : Nat) ^ 8 = 4294967296 := by decide
                                                            omega)
  have e : (⟨l.toArray⟩ : Str).length = l.length := str_len l
  rw [line_is]; rw [e] at this; omega

theorem float_str {l : List Nat} {b : UInt64} {xs : List Value} (hl : l.length ≤ 1000) (hc : ∀ c ∈ l, c < 1114112) (hp : parse l = some b) (hx : Reps news [.str l] xs) : Go C C.A m news (call (.type "float") xs) fun n z => Rep n (.flt b) z := by
  cases hx with
  | cons h1 h2 =>
    cases h2; cases h1
    refine .still fun s Q E h => Flt.call_float_str rfl (repr_small hl hc) (fun h0 => ?_) fun _ => ?_
    · unfold parse at hp; rw [hp] at h0; cases h0
    · unfold parse at hp; rw [hp]; exact h _ _ (.flt _ _)
theorem float_int {i : Int} {xs : List Value} (hi : i.natAbs < 2 ^ 100) (hx : Reps news [.int i] xs) : Go C C.A m news (call (.type "float") xs) fun n z => Rep n (.flt (Float64.ofInt i)) z := by
  cases hx with
  | cons h1 h2 =>
    cases h2; cases h1
    refine .still fun s Q E h => call_float_int_fits ?_ (h _ _ (.flt _ _))
    exact Nat.lt_of_lt_of_le hi (Nat.pow_le_pow_right (by decide) (by decide))
theorem float_bool {c : Bool} {xs : List Value} (hx : Reps news [.bool c] xs) : Go C C.A m news (call (.type "float") xs) fun n z => Rep n (.flt (Float64.ofInt (if c then 1 else 0))) z := by
  cases hx with
  | cons h1 h2 =>
    cases h2; cases h1
    exact .still fun s Q E h => call_float_bool (h _ _ (.flt _ _))

theorem good_form (k : Nat) : GoodFloatSpec ⟨(pform k).toArray⟩ (Txt.floatSpec ⟨(pform k).toArray⟩) ∧ Flt.fieldBound (Txt.floatSpec ⟨(pform k).toArray⟩) ≤ 30000 := by
  match k with
  | 0 => exact ⟨⟨rfl, fun _ => rfl, rfl, fun _ _ => rfl⟩, by decide +kernel⟩
  | 1 => exact ⟨⟨rfl, fun _ => rfl, rfl, fun _ _ => rfl⟩, by decide +kernel⟩
  | 2 => exact ⟨⟨rfl, fun _ => rfl, rfl, fun _ _ => rfl⟩, by decide +kernel⟩
  | 3 => exact ⟨⟨rfl, fun _ => rfl, rfl, fun _ _ => rfl⟩, by decide +kernel⟩
  | 4 => exact ⟨⟨rfl, fun _ => rfl, rfl, fun _ _ => rfl⟩, by decide +kernel⟩
  | 5 => exact ⟨⟨rfl, fun _ => rfl, rfl, fun _ _ => rfl⟩, by decide +kernel⟩
  | _ + 6 => exact ⟨⟨rfl, fun _ => rfl, rfl, fun _ _ => rfl⟩, by show Flt.fieldBound (Txt.floatSpec ⟨(pform 6).toArray⟩) ≤ _; decide +kernel⟩
theorem format_flt {b : UInt64} {k : Nat} {xs : List Value} (hx : Reps news [.flt b, .str (pform k)] xs) : Go C C.A m news (call (.builtin "format") xs) fun n z => Rep n (.str (fmtF b k)) z := by
  cases hx with
  | cons h1 h2 => cases h2 with
    | cons h2 h3 =>
      cases h3; cases h1; cases h2
      obtain ⟨g, hb⟩ := good_form k
      refine .still fun s Q E h => Flt.call_format_float (N := 30000) g hb (by decide) fun _ => ?_
      have e : Txt.fmtFloat b ⟨(pform k).toArray⟩ = ⟨(fmtF b k).toArray⟩ := rfl
      rw [e]; exact h _ _ (.str _ _)
end
end Mine

end
section
open PySem PySem.W PyProof.Rows PySem.Calls PySem.Spec
set_option maxRecDepth 100000
set_option linter.unusedVariables false
namespace Mine
section
variable {C : Cx} {ρ : List V} {k : Nat}
theorem EvR.callB {f : Expr} {e : Expr} {es : List Expr} {pos : Pos} {id : String} {X : String} (hf : Ev C f ρ (.val (.builtin id))) (he : EvR C e ρ X)
    (h0 : eval (.Call f (e :: es) [] pos) C.env = (do let g ← eval f C.env; callWith pos g [] (backTo pos (starEach (e :: es) C.env)) (backToKw pos (keywordEach [] C.env))) := by rfl)
    (h1 : starEach (e :: es) C.env = (false, eval e C.env) :: starEach es C.env := by rfl)
    (h2 : ((backTo pos (starEach es C.env)).any fun x => x.1) = false := by rfl) : EvR C (.Call f (e :: es) [] pos) ρ X := fun m news g s Q E F N hq =>
  Call_ (hf m news g s _ E F N fun fv n1 h1' tk1 s1 r1 F1 N1 => by
    cases r1
    exact PyProof.Rows.callWith_builtin1 (spliced_more (he m n1 (g.mono s1) _ _ E F1 N1 fun n2 h h' a tk' sub F2 N2 X2 => hq n2 h h' a tk' (s1.trans sub) F2 N2 X2) h1) h1 h2) h0
theorem EvR.float {f : Expr} {e : Expr} {pos : Pos} {l : List Nat} (hf : Ev C f ρ (.val (.type "float"))) (he : Ev C e ρ (.str l)) (hl : l.length ≤ 1000) (hc : ∀ c ∈ l, c < 1114112) (hp : parse l = none)
    (h0 : eval (.Call f [e] [] pos) C.env = (do let g ← eval f C.env; callWith pos g [] (backTo pos (starEach [e] C.env)) (backToKw pos (keywordEach [] C.env))) := by rfl)
    (h1 : starEach [e] C.env = (false, eval e C.env) :: starEach [] C.env := by rfl)
    (h2 : ((backTo pos (starEach [] C.env)).any fun x => x.1) = false := by rfl) : EvR C (.Call f [e] [] pos) ρ "ValueError" := fun m news g s Q E F N hq =>
  Call_ (hf m news g s _ E F N fun fv n1 h1' tk1 s1 r1 F1 N1 => by
    cases r1
    refine PyProof.Rows.callWith_type1 (Evs.cons he Evs.nil h1 m n1 pos (g.mono s1) _ _ E F1 N1 fun xs n2 h2' tk2 s2 r2 F2 N2 => ?_) h1 h2
    cases r2 with
    | cons ra rb =>
    cases rb; cases ra
    refine Flt.call_float_str rfl (repr_small hl hc) (fun _ h' tk e hx => ?_) fun h => ?_
    · exact hq n2 h2' h' e tk (s1.trans s2) F2 N2 hx
    · unfold parse at hp; rw [hp] at h; cases h) h0

/-- as ExT, with n signs drawn before -/
def ExP (n : Nat) (C : Cx) (ss : List Stmt) (ρ : List V) (v : V) : Prop := ∀ m news, Agree C.names m news ρ → ∀ (s : Shared) (Q : Flow → Shared → Prop) (E : Value → Shared → Prop), Fr C.h₀ C.L s.heap m → News C.h₀ C.L s.heap news →
    TabIn news → n ≤ s.toks → (∀ (g : Heap) (x : Value) (m' : Str → Option Value) (news' : Led) (h' : Heap) (tk' : Nat), Turn C g → SubX news news' → TabIn news' → Rep news' v x → Fr g C.L h' m' → News g C.L h' news' → Q (.ret x) { s with heap := h', toks := tk' }) →
    wpAny C.M C.A (execs ss C.env) Q E s
theorem ExP.of {n : Nat} {ss : List Stmt} {v : V} (h : ExT C ss ρ v) : ExP n C ss ρ v := fun m news g s Q E F N tb _ hq => h m news g s Q E F N tb hq
theorem ExP.toT {ss : List Stmt} {v : V} (h : ExP 0 C ss ρ v) : ExT C ss ρ v := fun m news g s Q E F N tb hq => h m news g s Q E F N tb (Nat.zero_le _) hq
theorem ExP.assign {n : Nat} (i : Nat) {x : Str} {p pos : Pos} {e : Expr} {v u : V} {rest : List Stmt} (nm : C.Nm) (hx : C.names[i]? = some x) (h : Ev C e ρ v) (hr : ExP (n + 1) C rest (ρ.set i v) u) (hs : swapsWith e (some (.Name x p)) pos.line C.env = pure false := by rfl) :
    ExP n C (.Assign [.Name x p] e pos :: rest) ρ u := fun m news g s Q E F N tb htk hq =>
  wpAny_execs_cons (wpAny_Assign_Name (Go.k (h m news g) s _ E F N fun y n1 h1 tk1 le1 s1 r1 F1 N1 =>
    storeX_L F1 N1 (fun h' F' N' => hr _ n1 ((g.mono s1).set nm.nd hx r1) _ Q E F' N' (tb.mono s1) (by show n + 1 ≤ tk1 + 1; omega) fun g2 x2 m2 n2 h2 tk2 t2 s2 b2 o2 F2 N2 => hq g2 x2 m2 n2 h2 tk2 t2 (s1.toX.trans s2) b2 o2 F2 N2) nm.fn (nm.loc x (List.mem_of_getElem? hx))) hs)
theorem ExP.ite {n : Nat} {t : Expr} {b o rest : List Stmt} {pos : Pos} {c : Bool} {v : V} (ht : Tst C t ρ c) (h1 : c = true → ExP n C b ρ v) (h2 : c = false → ExP n C o ρ v) : ExP n C (.If t b o pos :: rest) ρ v := fun m news g s Q E F N tb htk hq =>
  wpAny_execs_cons (wpAny_If (Go.k (ht m news g) s _ E F N fun d n1 h1' tk1 le1 s1 r1 F1 N1 => by
    subst r1
    cases d with
    | true => exact h1 rfl m n1 (g.mono s1) _ _ E F1 N1 (tb.mono s1) (Nat.le_trans htk le1) fun g x m2 n2 h2 tk2 t2 s2 b2 r2 F2 N2 => hq g x m2 n2 h2 tk2 t2 (s1.toX.trans s2) b2 r2 F2 N2
    | false => exact h2 rfl m n1 (g.mono s1) _ _ E F1 N1 (tb.mono s1) (Nat.le_trans htk le1) fun g x m2 n2 h2 tk2 t2 s2 b2 r2 F2 N2 => hq g x m2 n2 h2 tk2 t2 (s1.toX.trans s2) b2 r2 F2 N2))
/-- an if whose body does but one thing, with what stands behind it -/
theorem ExP.iteN {n : Nat} {t : Expr} {b rest : List Stmt} {pos : Pos} {c : Bool} {v : V} (ht : Tst C t ρ c) (ρ' : List V) (h1 : c = true → ∀ m news, Agree C.names m news ρ → ∀ (s : Shared) (Q : Flow → Shared → Prop) (E : Value → Shared → Prop), Fr C.h₀ C.L s.heap m → News C.h₀ C.L s.heap news → n ≤ s.toks →
      (∀ m' h' tk' news', Sub news news' → Agree C.names m' news' ρ' → Fr C.h₀ C.L h' m' → News C.h₀ C.L h' news' → Q .next { s with heap := h', toks := tk' }) → wpAny C.M C.A (execs b C.env) Q E s) (h2 : c = false → ρ' = ρ) (hr : ExT C rest ρ' v) : ExP n C (.If t b [] pos :: rest) ρ v := fun m news g s Q E F N tb htk hq =>
  wpAny_execs_cons (wpAny_If (Go.k (ht m news g) s _ E F N fun d n1 h1' tk1 le1 s1 r1 F1 N1 => by
    subst r1
    cases d with
    | true => exact h1 rfl m n1 (g.mono s1) _ _ E F1 N1 (Nat.le_trans htk le1) fun m2 h2 tk2 n2 s2 g2 F2 N2 => hr m2 n2 g2 _ Q E F2 N2 (tb.mono (s1.trans s2)) fun g3 x m3 n3 h3 tk3 t3 s3 b3 r3 F3 N3 => hq g3 x m3 n3 h3 tk3 t3 ((s1.trans s2).toX.trans s3) b3 r3 F3 N3
    | false =>
      have := h2 rfl
      subst this
      exact wpAny_execs_nil (hr m n1 (g.mono s1) _ Q E F1 N1 (tb.mono s1) fun g3 x m3 n3 h3 tk3 t3 s3 b3 r3 F3 N3 => hq g3 x m3 n3 h3 tk3 t3 (s1.toX.trans s3) b3 r3 F3 N3)))
end
end Mine

end
section
open PySem PySem.W PyProof.Rows PySem.Calls PySem.Spec PySem.Builtin PySem.Builtin.Str PySem.StrLaws
set_option maxRecDepth 100000
set_option linter.unusedVariables false
namespace Mine

theorem occ_single {x y : Str} {p : Nat} (hw : 1 ≤ y.length) (hat : ∀ i, At x y x.length i ↔ i = p) : occurrences x y 0 x.length (x.length + 1) = [p] := by
  obtain ⟨f, hc, hn⟩ := occ_tight x y hw
  generalize occurrences x y 0 x.length (x.length + 1) = l at *
  cases l with
  | nil =>
    have e : f = 0 := hc
    exact absurd ((hat p).mpr rfl) (hn p (by omega))
  | cons c r =>
    have hcp : c = p := (hat c).mp hc.2.1
    subst hcp
    cases r with
    | nil => rfl
    | cons d q =>
      have h2 := hc.2.2.2
      have hd : d = c := (hat d).mp h2.2.1
      have := h2.1
      omega

theorem at_iff (x y : List Nat) (i : Nat) : At ⟨x.toArray⟩ ⟨y.toArray⟩ (⟨x.toArray⟩ : Str).length i ↔ i + y.length ≤ x.length ∧ (x.drop i).take y.length = y := by
  unfold At subAt Str.length
  simp only [List.size_toArray, beq_iff_eq]
  constructor
  · rintro ⟨h1, h2⟩
    refine ⟨h1, ?_⟩
    have := congrArg Array.toList h2
    simpa [List.extract_eq_take_drop] using this
  · rintro ⟨h1, h2⟩
    refine ⟨h1, ?_⟩
    apply Array.ext'
    simpa [List.extract_eq_take_drop] using h2

theorem replace_mid (a y b z : List Nat) (hy : 1 ≤ y.length) (hu : ∀ i, i + y.length ≤ (a ++ y ++ b).length → ((a ++ y ++ b).drop i).take y.length = y → i = a.length) :
    Txt.replace ⟨(a ++ y ++ b).toArray⟩ ⟨y.toArray⟩ ⟨z.toArray⟩ = ⟨(a ++ z ++ b).toArray⟩ := by
  have ho : occurrences ⟨(a ++ y ++ b).toArray⟩ ⟨y.toArray⟩ 0 (⟨(a ++ y ++ b).toArray⟩ : Str).length ((⟨(a ++ y ++ b).toArray⟩ : Str).length + 1) = [a.length] := by
    refine occ_single (by simpa [Str.length] using hy) fun i => ?_
    rw [at_iff]
    constructor
    · rintro ⟨h1, h2⟩; exact hu i h1 h2
    · rintro rfl
      refine ⟨by simp, ?_⟩
      simp
  unfold Txt.replace
  rw [ho]
  have hy0 : (y.length == 0) = false := by rw [beq_eq_false_iff_ne]; exact fun h => by omega
  have e1 : (⟨y.toArray⟩ : Str).length = y.length := by simp [Str.length]
  rw [e1, hy0]
  simp only [List.isEmpty_cons, Bool.false_and, Bool.or_self, Bool.false_eq_true, if_false]
  unfold partsBetween glued strSub
  simp only [List.map_cons, List.map_nil, List.cons_append, List.nil_append, List.zip_cons_cons, List.zip_nil_right, List.drop_succ_cons, List.drop_zero, List.foldl_cons, List.foldl_nil, List.headD_cons]
  congr 1
  apply Array.ext'
  simp [List.extract_eq_take_drop, Str.length]
  rw [show a.length + (y.length + b.length) - (a.length + y.length) = b.length by omega, List.take_length]

theorem replace_whole (y z : List Nat) (hy : 1 ≤ y.length) : Txt.replace ⟨y.toArray⟩ ⟨y.toArray⟩ ⟨z.toArray⟩ = ⟨z.toArray⟩ := by
  have := replace_mid [] y [] z hy (fun i h _ => by simp at h; simp; omega)
  simpa using this

theorem replace_char (a b : List Nat) (c : Nat) (ha : c ∉ a) (hb : c ∉ b) : Txt.replace ⟨(a ++ [c] ++ b).toArray⟩ ⟨[c].toArray⟩ ⟨([] : List Nat).toArray⟩ = ⟨(a ++ b).toArray⟩ := by
  have := replace_mid a [c] b [] (by simp) fun i h1 h2 => ?_
  · simpa using this
  · simp only [List.length_cons, List.length_nil] at h1 h2
    have hg : (a ++ [c] ++ b)[i]? = some c := by
      have h3 : (((a ++ [c] ++ b).drop i).take 1)[0]? = some c := by rw [h2]; rfl
      simpa [List.getElem?_drop] using h3
    rcases Nat.lt_trichotomy i a.length with hi | hi | hi
    · exfalso
      rw [List.getElem?_append_left (by simp; omega), List.getElem?_append_left hi] at hg
      exact ha (List.mem_of_getElem? hg)
    · exact hi
    · exfalso
      rw [List.getElem?_append_right (by simp; omega)] at hg
      exact hb (List.mem_of_getElem? hg)
end Mine

end
section
open PySem PySem.W PyProof.Rows PySem.Calls PySem.Spec
set_option maxRecDepth 100000
set_option linter.unusedVariables false
namespace Mine

theorem booked {C : Cx} {k : Nat} (ok : C.Ok k) {h : Heap} {m : Str → Option Value} (F : Fr C.h₀ C.L h m) : NoneBooked h := noneBooked_of (ok.X.keeps F.keep) (ok.T.nolimit.keeps F.keep)

theorem repl_comma {C : Cx} {k : Nat} {ρ : List V} (ok : C.Ok k) (nm : C.Nm) (i : Nat) {x : Str} (hx : C.names[i]? = some x) {l a b : List Nat} (hρ : ρ[i]? = some (.str l)) (hl : l = a ++ [44] ++ b) (ha : 44 ∉ a) (hb : 44 ∉ b) (hlen : l.length ≤ 1000) {px p2 p3 p4 p5 p6 p7 : Pos} (pl : Sem Bool)
    (h0 : PySem.eval (.Call (.Attribute (.Name x p2) (Str.ofString "replace") p3) [.Constant (.str (Str.ofString ",")) 0 p4, .Constant (.str (Str.ofString "")) 0 p5] [] p6) C.env = (do
      let ov ← PySem.eval (.Name x p2) C.env
      standAt p3.atName
      let (f, first) ← holding [ov] (getMethod ov (Str.ofString "replace") pl)
      callWith p6 f first (backTo p6 (starEach [.Constant (.str (Str.ofString ",")) 0 p4, .Constant (.str (Str.ofString "")) 0 p5] C.env)) []))
    (hs : swapsWith (.Call (.Attribute (.Name x p2) (Str.ofString "replace") p3) [.Constant (.str (Str.ofString ",")) 0 p4, .Constant (.str (Str.ofString "")) 0 p5] [] p6) (some (.Name x px)) p7.line C.env = pure false) :
    ∀ m news, Agree C.names m news ρ → ∀ (s : Shared) (Q : Flow → Shared → Prop) (E : Value → Shared → Prop), Fr C.h₀ C.L s.heap m → News C.h₀ C.L s.heap news → 1 ≤ s.toks →
      (∀ m' h' tk' news', Sub news news' → Agree C.names m' news' (ρ.set i (.str (a ++ b))) → Fr C.h₀ C.L h' m' → News C.h₀ C.L h' news' → Q .next { s with heap := h', toks := tk' }) →
      wpAny C.M C.A (execs [.Assign [.Name x px] (.Call (.Attribute (.Name x p2) (Str.ofString "replace") p3) [.Constant (.str (Str.ofString ",")) 0 p4, .Constant (.str (Str.ofString "")) 0 p5] [] p6) p7] C.env) Q E s := by
  intro m news g s Q E F N htk hq
  obtain ⟨y, hy, ry⟩ := g i x _ hx hρ (by intro h; cases h)
  cases ry
  refine wpAny_execs_cons (wpAny_Assign_Name (MethodCall_ (pl := pl) (nameX_L F hy ?_ nm.fn (nm.loc _ (List.mem_of_getElem? hx)) (nm.dbg _ (List.mem_of_getElem? hx))) h0) hs)
  refine GM.replace ?_
  refine callWith_method1 (spliced_more (Constant_str (spliced_more (Constant_str (spliced_none ?_)))))
  subst hl
  refine SC.replaceA (by show s.toks ≠ 0; exact fun h => by omega) (by show s.toks + 1 ≠ 0; omega) (by show s.toks ≠ s.toks + 1; omega) ?_ (fun t' tk => ?_) (booked ok F)
  · have e : (⟨(a ++ [44] ++ b).toArray⟩ : Str).length = (a ++ [44] ++ b).length := str_len _
    have e2 : (Str.ofString "").length = 0 := rfl
    rw [e, e2]; omega
  · have e : Txt.replace ⟨(a ++ [44] ++ b).toArray⟩ (Str.ofString ",") (Str.ofString "") = ⟨(a ++ b).toArray⟩ := replace_char a b 44 ha hb
    rw [e]
    refine store_slot (v := .str (a ++ b)) nm hx F N g (.str _ _) fun m' h' tk' g' F' N' => ?_
    exact wpAny_execs_nil (hq m' h' tk' news (Sub.refl _) g' F' N')
end Mine

end
section
open PySem PySem.W PyProof.Rows PySem.Calls PySem.Spec
set_option maxRecDepth 100000
set_option linter.unusedVariables false
namespace Mine

theorem ExT.strip {C : Cx} {k : Nat} {ρ : List V} (ok : C.Ok (3 + k)) (nm : C.Nm) (ir : Nat) {xr : Str} (hxr : C.names[ir]? = some xr) {e f : Expr} {l raw : List Nat} {rest : List Stmt} {v : V} {pr p p2 : Pos} (hf : Ev C f ρ (.val (.ref 48))) (he : Ev C e ρ (.str l)) (hst : Stripped l raw)
    (hr : ∀ u, 0 < u → ExP (u + 1) C rest (ρ.set ir (.val (.str ⟨raw.toArray⟩ u))) v)
    (h0 : eval (.Call f [e] [] p) C.env = (do let g ← eval f C.env; callWith p g [] (backTo p (starEach [e] C.env)) (backToKw p (keywordEach [] C.env))) := by rfl)
    (h1 : starEach [e] C.env = (false, eval e C.env) :: starEach [] C.env := by rfl)
    (h2 : ((backTo p (starEach [] C.env)).any fun x => x.1) = false := by rfl)
    (hs : swapsWith (.Call f [e] [] p) (some (.Name xr pr)) p2.line C.env = pure false := by rfl) :
    ExT C (.Assign [.Name xr pr] (.Call f [e] [] p) p2 :: rest) ρ v := fun m news g s Q E F N tb hq => by
  refine wpAny_execs_cons (wpAny_Assign_Name (Call_ (hf m news g s _ E F N fun fv n1 h1' tk1 s1 r1 F1 N1 => ?_) h0) hs)
  cases r1
  refine callWith_K ok.X (keep_fn (by decide) C.w) (Evs.cons he Evs.nil h1 m n1 p (g.mono s1) _ _ E F1 N1 fun xs n2 h2' tk2 s2 r2 F2 N2 => ⟨ok.X.keeps F2.keep, ?_⟩) h1 h2
  refine strip_fn C.sl C.sns l raw hst C m n2 xs rfl rfl (ok.le (by omega)) r2 _ _ E F2 N2 (tb.mono (s1.trans s2)) fun z n3 h3 tk3 sx tb3 hz F3 N3 => ?_
  obtain ⟨u, rfl, hu0, hu⟩ := hz
  have g3 := (g.mono (s1.trans s2)).monoT sx.toT
  refine storeX_L F3 N3 (fun h' F' N' => ?_) nm.fn (nm.loc xr (List.mem_of_getElem? hxr))
  exact hr u hu0 _ n3 (g3.set nm.nd hxr (.val _)) _ Q E F' N' tb3 (by show u + 1 ≤ tk3 + 1; omega) fun g2 x2 m2 n4 h4 tk4 t2 sx2 b2 o2 F4 N4 => hq g2 x2 m2 n4 h4 tk4 t2 (((s1.trans s2).toX.trans sx).trans sx2) b2 o2 F4 N4

/-- a text freshly told, its sign known to be new -/
def EvK (n : Nat) (C : Cx) (e : Expr) (ρ : List V) (l : List Nat) : Prop := ∀ m news, Agree C.names m news ρ → ∀ (s : Shared) (Q : Value → Shared → Prop) (E : Value → Shared → Prop), Fr C.h₀ C.L s.heap m → News C.h₀ C.L s.heap news → n ≤ s.toks →
    (∀ v h' tk' news', n ≤ v → Sub news news' → Fr C.h₀ C.L h' m → News C.h₀ C.L h' news' → Q (.str ⟨l.toArray⟩ v) { s with heap := h', toks := tk' }) → wpAny C.M C.A (eval e C.env) Q E s

theorem EvK.format {n : Nat} {C : Cx} {ρ : List V} {f e e2 : Expr} {pos : Pos} {b : UInt64} {k : Nat} (hf : Ev C f ρ (.val (.builtin "format"))) (he : Ev C e ρ (.flt b)) (he2 : Ev C e2 ρ (.str (pform k)))
    (h0 : eval (.Call f [e, e2] [] pos) C.env = (do let g ← eval f C.env; callWith pos g [] (backTo pos (starEach [e, e2] C.env)) (backToKw pos (keywordEach [] C.env))) := by rfl)
    (h1 : starEach [e, e2] C.env = (false, eval e C.env) :: starEach [e2] C.env := by rfl)
    (h1b : starEach [e2] C.env = (false, eval e2 C.env) :: starEach [] C.env := by rfl)
    (h2 : ((backTo pos (starEach [e2] C.env)).any fun x => x.1) = false := by rfl) : EvK n C (.Call f [e, e2] [] pos) ρ (fmtF b k) := fun m news g s Q E F N htk hq =>
  Call_ (Go.k (hf m news g) s _ E F N fun fv n1 h1' tk1 le1 s1 r1 F1 N1 => by
    cases r1
    refine PyProof.Rows.callWith_builtin1 (Go.k (Evs.cons he (Evs.cons he2 Evs.nil h1b) h1 m n1 pos (g.mono s1)) _ _ E F1 N1 fun xs n2 h2' tk2 le2 s2 r2 F2 N2 => ?_) h1 h2
    cases r2 with
    | cons ra rb => cases rb with
      | cons rb rc =>
      cases rc; cases ra; cases rb
      obtain ⟨gd, hb⟩ := good_form k
      refine Flt.call_format_float (N := 30000) gd hb (by decide) fun _ => ?_
      exact hq _ h2' _ n2 (Nat.le_trans htk (Nat.le_trans le1 le2)) (s1.trans s2) F2 N2) h0

theorem ExP.tryK {n : Nat} {C : Cx} {ρ : List V} (nm : C.Nm) (j : Nat) {x : Str} (hx : C.names[j]? = some x) {e : Expr} {l : List Nat} {px p p2 : Pos} {h₀ : ExceptHandler} {hs : List ExceptHandler} {rest : List Stmt} {u : V} (he : EvK n C e ρ l)
    (hr : ∀ v, n ≤ v → ExT C rest (ρ.set j (.val (.str ⟨l.toArray⟩ v))) u) (hsw : swapsWith e (some (.Name x px)) p.line C.env = pure false := by rfl) : ExP n C (.Try [.Assign [.Name x px] e p] (h₀ :: hs) [] [] p2 :: rest) ρ u := fun m news g s Q E F N tb htk hq => by
  refine wpAny_execs_cons (wpAny_Try_except (wpAny_execs_cons (wpAny_Assign_Name (he m news g s _ _ F N htk fun v h1 tk1 n1 hv s1 F1 N1 => ?_) hsw)))
  refine storeX_L F1 N1 (fun h' F' N' => ?_) nm.fn (nm.loc x (List.mem_of_getElem? hx))
  refine wpAny_execs_nil (wpAny_execs_nil ?_)
  exact hr v hv _ n1 ((g.mono s1).set nm.nd hx (.val _)) _ Q E F' N' (tb.mono s1) fun g2 x2 m2 n4 h4 tk4 t2 sx2 b2 o2 F4 N4 => hq g2 x2 m2 n4 h4 tk4 t2 (s1.toX.trans sx2) b2 o2 F4 N4

theorem Ev.replace {C : Cx} {k : Nat} {ρ : List V} (ok : C.Ok k) (nm : C.Nm) (i j q : Nat) {x y z : Str} (hx : C.names[i]? = some x) (hy : C.names[j]? = some y) (hz : C.names[q]? = some z) {l raw told r : List Nat} {u v : Tok} (hl : ρ[i]? = some (.str l)) (hr : ρ[j]? = some (.val (.str ⟨raw.toArray⟩ u))) (ht : ρ[q]? = some (.val (.str ⟨told.toArray⟩ v)))
    (hu : 0 < u) (huv : u + 1 ≤ v) (hrep : Txt.replace ⟨l.toArray⟩ ⟨raw.toArray⟩ ⟨told.toArray⟩ = ⟨r.toArray⟩) (hll : l.length ≤ 1000) (htl : told.length ≤ 1000) {p1 p2 p3 p4 p5 : Pos} (pl : Sem Bool)
    (h0 : PySem.eval (.Call (.Attribute (.Name x p1) (Str.ofString "replace") p2) [.Name y p3, .Name z p4] [] p5) C.env = (do
      let ov ← PySem.eval (.Name x p1) C.env
      standAt p2.atName
      let (f, first) ← holding [ov] (getMethod ov (Str.ofString "replace") pl)
      callWith p5 f first (backTo p5 (starEach [.Name y p3, .Name z p4] C.env)) [])) :
    Ev C (.Call (.Attribute (.Name x p1) (Str.ofString "replace") p2) [.Name y p3, .Name z p4] [] p5) ρ (.str r) := fun m news g s Q E F N hq => by
  obtain ⟨a, ha, ra⟩ := g i x _ hx hl (by intro h; cases h)
  obtain ⟨b, hb, rb⟩ := g j y _ hy hr (by intro h; cases h)
  obtain ⟨c, hc, rc⟩ := g q z _ hz ht (by intro h; cases h)
  cases ra; cases rb; cases rc
  refine MethodCall_ (pl := pl) (nameX_L F ha ?_ nm.fn (nm.loc _ (List.mem_of_getElem? hx)) (nm.dbg _ (List.mem_of_getElem? hx))) h0
  refine GM.replace ?_
  refine callWith_method1 (spliced_more (nameX_L F hb (spliced_more (nameX_L F hc (spliced_none ?_) nm.fn (nm.loc _ (List.mem_of_getElem? hz)) (nm.dbg _ (List.mem_of_getElem? hz)))) nm.fn (nm.loc _ (List.mem_of_getElem? hy)) (nm.dbg _ (List.mem_of_getElem? hy))))
  refine SC.replaceA (Nat.ne_of_gt hu) (Nat.ne_of_gt (Nat.lt_of_lt_of_le (Nat.succ_pos u) huv)) (Nat.ne_of_lt huv) ?_ (fun t' tk => ?_) (booked ok F)
  · have e : (⟨l.toArray⟩ : Str).length = l.length := str_len _
    have e2 : (⟨told.toArray⟩ : Str).length = told.length := str_len _
    rw [e, e2]
    have : (l.length + 1) * told.length ≤ 1001 * 1000 := Nat.mul_le_mul (by omega) htl
    omega
  · rw [hrep]
    exact hq _ news s.heap tk (Sub.refl _) (.str _ _) F N
end Mine

end
section
open PySem PySem.W PyProof.Rows PySem.Calls PySem.Spec
set_option maxRecDepth 100000
set_option linter.unusedVariables false
namespace Mine

def GoodV (v : V) : Prop := (∃ l, v = .str l ∧ l.length < 1000) ∨ (∃ i : Int, v = .int i ∧ i.natAbs < 1000) ∨ (∃ c, v = .bool c)
def fmtNames : List Str := [Str.ofString "val", Str.ofString "valtype", Str.ofString "floatfmt", Str.ofString "intfmt", Str.ofString "missingval", Str.ofString "has_invisible", Str.ofString "val_striped", Str.ofString "colored", Str.ofString "total_groups", Str.ofString "digits", Str.ofString "val_new", Str.ofString "is_a_colored_number", Str.ofString "raw_val", Str.ofString "formatted_val"]
def Plain (l : List Nat) : Prop := 0 < l.length ∧ l.length < 1000 ∧ ∀ c ∈ l, c < 1114112
def uncomma (l : List Nat) : List Nat := l.filter (· != 44)

/-- what the law asks, one case a road -/
inductive FCase (fk wk gk : Nat) : V → String → Bool → V → Prop
  | none (ty lk) : FCase fk wk gk .none ty lk (.str (gapAt gk))
  | empty (ty lk) : FCase fk wk gk (.str []) ty lk (.str [])
  | text (v ty lk) : GoodV v → v ≠ .str [] → (ty = "str" ∨ ty = "bool") → FCase fk wk gk v ty lk (.str (strOf v))
  | int (i : Int) (lk) (r : List Nat) : (∀ (C : Cx) m news xs, Reps news [.int i, .str (wform wk)] xs → Go C C.A m news (call (.builtin "format") xs) fun n z => Rep n (.str r) z) → FCase fk wk gk (.int i) "int" lk (.str r)
  | fint (i : Int) (lk) : i.natAbs < 2 ^ 100 → FCase fk wk gk (.int i) "float" lk (.str (fmtF (Float64.ofInt i) fk))
  | fbool (c lk) : FCase fk wk gk (.bool c) "float" lk (.str (fmtF (Float64.ofInt (if c then 1 else 0)) fk))
  | look (l raw r : List Nat) (b : UInt64) : Plain l → Plain raw → Stripped l raw → parse raw = some b → (fmtF b fk).length ≤ 1000 → Txt.replace ⟨l.toArray⟩ ⟨raw.toArray⟩ ⟨(fmtF b fk).toArray⟩ = ⟨r.toArray⟩ → FCase fk wk gk (.str l) "float" true (.str r)
  | lookBad (l raw : List Nat) : Plain l → Plain raw → Stripped l raw → parse raw = none → FCase fk wk gk (.str l) "float" true (.str l)
  | off (l l' : List Nat) (b : UInt64) : Plain l → (44 ∉ l ∧ l' = l ∨ ∃ x y, l = x ++ [44] ++ y ∧ 44 ∉ x ∧ 44 ∉ y ∧ l' = x ++ y) → Plain l' → parse l' = some b → FCase fk wk gk (.str l) "float" false (.str (fmtF b fk))
  | offBad (l : List Nat) : Plain l → 44 ∉ l → parse l = none → FCase fk wk gk (.str l) "float" false (.str l)

set_option maxHeartbeats 4000000 in
theorem fmt_fn (sl : Addr) (sns : List Int) (fk wk gk : Nat) (v u : V) (ty : String) (lk : Bool) (h : FCase fk wk gk v ty lk u) : ∀ (C : Cx) (m : Str → Option Value) (news : Led) (xs : List Value), C.sl = sl → C.sns = sns → C.env = envOf C.cn C.cs C.L C.a C.ccd → C.Ok (5 + 1) →
    Reps news [v, .val (.type ty), .str (pform fk), .str (wform wk), .str (gapAt gk), .bool lk] xs → GoT C m news (call (.ref 56) xs) fun n z => Rep n u z := by
  refine enterT fmtNames [Str.ofString "val", Str.ofString "valtype", Str.ofString "floatfmt", Str.ofString "intfmt", Str.ofString "missingval", Str.ofString "has_invisible"] 8 (fun w => by rfl) (fun w => by rfl) (fun w s xs X h => ?_) (by decide +kernel) (by decide +kernel) (by decide +kernel) rfl rfl rfl rfl (by decide +kernel) ?_
  · match xs, h with
    | [a, b, c, d, e, f], _ => exact kp_binds X fun S => rfl
  · intro C hsl hsns ok nm hcs hnames hA hE
    have N : ∀ {i : Nat} {x : Str}, fmtNames[i]? = some x → C.names[i]? = some x := fun h => by rw [hnames]; exact h
    have isi : ∀ {ρ : List V} {w : V} {b : Bool} {p1 p2 p3 p4 : Pos}, ρ[0]? = some w → w ≠ .undef → ((∃ l, w = .str l ∧ b = true) ∨ (∃ i, w = .int i ∧ b = false) ∨ (∃ c, w = .bool c ∧ b = false) ∨ (w = .none ∧ b = false)) →
        Ev C (.Call (.Name (Str.ofString "isinstance") p1) [.Name (Str.ofString "val") p2, .Name (Str.ofString "str") p3] [] p4) ρ (.bool b) := by
      intro ρ w b p1 p2 p3 p4 h0 hu hb
      exact Ev.callB (Ev.bl ok hcs g_isinstance b_isinstance) (Evs.cons (Ev.nm nm 0 (N rfl) h0 hu) (Evs.cons (Ev.bl ok hcs g_str b_str) Evs.nil)) fun m n xs hx => isi_str hb hx
    cases h with
    | none ty lk =>
      exact ExT.of ok (Ex.consR (Ex1.ite (c := true) (Tst.cmp (Ev.nm nm 0 (N rfl) rfl) Ev.none fun _ _ _ _ hx hy => cmp_isNone hx hy fun z hz => by cases hz; rfl) (fun _ => Ex.consR (Ex1.ret (Ev.nm nm 4 (N rfl) rfl))) fun h => by cases h))
    | empty ty lk =>
      refine ExT.iteR (c := false) (Tst.cmp (Ev.nm nm 0 (N rfl) rfl) Ev.none fun _ _ _ _ hx hy => cmp_isNone hx hy fun z hz => by cases hz; rfl) (fun h => by cases h) fun _ => ?_
      exact ExT.of ok (Ex.consR (Ex1.ite (c := true && (!(!([] : List Nat).isEmpty) && true)) (Tst.bool (TstB.and (Tst.plain (isi rfl (by intro h; cases h) (.inl ⟨_, rfl, rfl⟩)) fun _ _ _ => tr_bool) fun _ => TstB.and (Tst.not (Tst.plain (Ev.nm nm 0 (N rfl) rfl) fun _ _ _ => tr_str (by simp))) fun _ => TstB.and_nil)) (fun _ => Ex.consR (Ex1.ret (Ev.str (l := []) (by decide +kernel)))) fun h => by cases h))
    | text v ty lk hg hne hty =>
      have hg' := hg
      rcases hg' with ⟨l, rfl, hl⟩ | ⟨i, rfl, hi⟩ | ⟨c, rfl⟩
      · have hl0 : l.isEmpty = false := by cases l with | nil => exact absurd rfl hne | cons a r => rfl
        refine ExT.iteR (c := false) (Tst.cmp (Ev.nm nm 0 (N rfl) rfl) Ev.none fun _ _ _ _ hx hy => cmp_isNone hx hy fun z hz => by cases hz; rfl) (fun h => by cases h) fun _ => ?_
        refine ExT.iteR (c := true && (!(!(l : List Nat).isEmpty) && true)) (Tst.bool (TstB.and (Tst.plain (isi rfl (by intro h; cases h) (.inl ⟨_, rfl, rfl⟩)) fun _ _ _ => tr_bool) fun _ => TstB.and (Tst.not (Tst.plain (Ev.nm nm 0 (N rfl) rfl) fun _ _ _ => tr_str (by omega))) fun _ => TstB.and_nil)) (fun h => absurd h (by rw [hl0]; decide)) fun _ => ?_
        rcases hty with rfl | rfl
        · refine ExT.ite (c := true) (Tst.cmp (Ev.nm nm 1 (N rfl) rfl) (Ev.bl ok hcs g_str b_str) fun _ _ _ _ => cmp_isType) (fun _ => ?_) fun h => by cases h
          exact ExT.of ok (Ex.consR (Ex1.ret (Ev.fstr (Ev.nm nm 0 (N rfl) rfl) hg)))
        · refine ExT.ite (c := false) (Tst.cmp (Ev.nm nm 1 (N rfl) rfl) (Ev.bl ok hcs g_str b_str) fun _ _ _ _ => cmp_isType) (fun h => by cases h) fun _ => ?_
          refine ExT.ite (c := false) (Tst.cmp (Ev.nm nm 1 (N rfl) rfl) (Ev.bl ok hcs g_int b_int) fun _ _ _ _ => cmp_isType) (fun h => by cases h) fun _ => ?_
          refine ExT.ite (c := false) (Tst.cmp (Ev.nm nm 1 (N rfl) rfl) (Ev.bl ok hcs g_float b_float) fun _ _ _ _ => cmp_isType) (fun h => by cases h) fun _ => ?_
          exact ExT.of ok (Ex.consR (Ex1.ret (Ev.fstr (Ev.nm nm 0 (N rfl) rfl) hg)))
      · refine ExT.iteR (c := false) (Tst.cmp (Ev.nm nm 0 (N rfl) rfl) Ev.none fun _ _ _ _ hx hy => cmp_isNone hx hy fun z hz => by cases hz; rfl) (fun h => by cases h) fun _ => ?_
        refine ExT.iteR (c := false && true) (Tst.bool (TstB.and (Tst.plain (isi rfl (by intro h; cases h) (.inr (.inl ⟨_, rfl, rfl⟩))) fun _ _ _ => tr_bool) fun h => by cases h)) (fun h => by cases h) fun _ => ?_
        rcases hty with rfl | rfl
        · refine ExT.ite (c := true) (Tst.cmp (Ev.nm nm 1 (N rfl) rfl) (Ev.bl ok hcs g_str b_str) fun _ _ _ _ => cmp_isType) (fun _ => ?_) fun h => by cases h
          exact ExT.of ok (Ex.consR (Ex1.ret (Ev.fstr (Ev.nm nm 0 (N rfl) rfl) hg)))
        · refine ExT.ite (c := false) (Tst.cmp (Ev.nm nm 1 (N rfl) rfl) (Ev.bl ok hcs g_str b_str) fun _ _ _ _ => cmp_isType) (fun h => by cases h) fun _ => ?_
          refine ExT.ite (c := false) (Tst.cmp (Ev.nm nm 1 (N rfl) rfl) (Ev.bl ok hcs g_int b_int) fun _ _ _ _ => cmp_isType) (fun h => by cases h) fun _ => ?_
          refine ExT.ite (c := false) (Tst.cmp (Ev.nm nm 1 (N rfl) rfl) (Ev.bl ok hcs g_float b_float) fun _ _ _ _ => cmp_isType) (fun h => by cases h) fun _ => ?_
          exact ExT.of ok (Ex.consR (Ex1.ret (Ev.fstr (Ev.nm nm 0 (N rfl) rfl) hg)))
      · refine ExT.iteR (c := false) (Tst.cmp (Ev.nm nm 0 (N rfl) rfl) Ev.none fun _ _ _ _ hx hy => cmp_isNone hx hy fun z hz => by cases hz; rfl) (fun h => by cases h) fun _ => ?_
        refine ExT.iteR (c := false && true) (Tst.bool (TstB.and (Tst.plain (isi rfl (by intro h; cases h) (.inr (.inr (.inl ⟨_, rfl, rfl⟩)))) fun _ _ _ => tr_bool) fun h => by cases h)) (fun h => by cases h) fun _ => ?_
        rcases hty with rfl | rfl
        · refine ExT.ite (c := true) (Tst.cmp (Ev.nm nm 1 (N rfl) rfl) (Ev.bl ok hcs g_str b_str) fun _ _ _ _ => cmp_isType) (fun _ => ?_) fun h => by cases h
          exact ExT.of ok (Ex.consR (Ex1.ret (Ev.fstr (Ev.nm nm 0 (N rfl) rfl) hg)))
        · refine ExT.ite (c := false) (Tst.cmp (Ev.nm nm 1 (N rfl) rfl) (Ev.bl ok hcs g_str b_str) fun _ _ _ _ => cmp_isType) (fun h => by cases h) fun _ => ?_
          refine ExT.ite (c := false) (Tst.cmp (Ev.nm nm 1 (N rfl) rfl) (Ev.bl ok hcs g_int b_int) fun _ _ _ _ => cmp_isType) (fun h => by cases h) fun _ => ?_
          refine ExT.ite (c := false) (Tst.cmp (Ev.nm nm 1 (N rfl) rfl) (Ev.bl ok hcs g_float b_float) fun _ _ _ _ => cmp_isType) (fun h => by cases h) fun _ => ?_
          exact ExT.of ok (Ex.consR (Ex1.ret (Ev.fstr (Ev.nm nm 0 (N rfl) rfl) hg)))
    | int i lk r hI =>
      refine ExT.iteR (c := false) (Tst.cmp (Ev.nm nm 0 (N rfl) rfl) Ev.none fun _ _ _ _ hx hy => cmp_isNone hx hy fun z hz => by cases hz; rfl) (fun h => by cases h) fun _ => ?_
      refine ExT.iteR (c := false && true) (Tst.bool (TstB.and (Tst.plain (isi rfl (by intro h; cases h) (.inr (.inl ⟨_, rfl, rfl⟩))) fun _ _ _ => tr_bool) fun h => by cases h)) (fun h => by cases h) fun _ => ?_
      refine ExT.ite (c := false) (Tst.cmp (Ev.nm nm 1 (N rfl) rfl) (Ev.bl ok hcs g_str b_str) fun _ _ _ _ => cmp_isType) (fun h => by cases h) fun _ => ?_
      refine ExT.ite (c := true) (Tst.cmp (Ev.nm nm 1 (N rfl) rfl) (Ev.bl ok hcs g_int b_int) fun _ _ _ _ => cmp_isType) (fun _ => ?_) (fun h => by cases h)
      refine ExT.iteR (c := false) (Tst.plain (isi rfl (by intro h; cases h) (.inr (.inl ⟨_, rfl, rfl⟩))) fun _ _ _ => tr_bool) (fun h => by cases h) fun _ => ?_
      exact ExT.of ok (Ex.consR (Ex1.ret (Ev.callB (Ev.bl ok hcs g_format b_format) (Evs.cons (Ev.nm nm 0 (N rfl) rfl) (Evs.cons (Ev.nm nm 3 (N rfl) rfl) Evs.nil)) fun m n xs hx => hI C m n xs hx)))
    | fint i lk hi =>
      refine ExT.iteR (c := false) (Tst.cmp (Ev.nm nm 0 (N rfl) rfl) Ev.none fun _ _ _ _ hx hy => cmp_isNone hx hy fun z hz => by cases hz; rfl) (fun h => by cases h) fun _ => ?_
      refine ExT.iteR (c := false && true) (Tst.bool (TstB.and (Tst.plain (isi rfl (by intro h; cases h) (.inr (.inl ⟨_, rfl, rfl⟩))) fun _ _ _ => tr_bool) fun h => by cases h)) (fun h => by cases h) fun _ => ?_
      refine ExT.ite (c := false) (Tst.cmp (Ev.nm nm 1 (N rfl) rfl) (Ev.bl ok hcs g_str b_str) fun _ _ _ _ => cmp_isType) (fun h => by cases h) fun _ => ?_
      refine ExT.ite (c := false) (Tst.cmp (Ev.nm nm 1 (N rfl) rfl) (Ev.bl ok hcs g_int b_int) fun _ _ _ _ => cmp_isType) (fun h => by cases h) fun _ => ?_
      refine ExT.ite (c := true) (Tst.cmp (Ev.nm nm 1 (N rfl) rfl) (Ev.bl ok hcs g_float b_float) fun _ _ _ _ => cmp_isType) (fun _ => ?_) (fun h => by cases h)
      refine ExP.toT (ExP.assign 11 nm (N rfl) (v := .bool (lk && false)) (Ev.and (c := lk) (v := .bool lk) (w := .bool false) (Ev.nm nm 5 (N rfl) rfl) (fun _ _ _ => tr_bool) (fun _ => isi rfl (by intro h; cases h) (.inr (.inl ⟨_, rfl, rfl⟩))) _ (fun h => by rw [h]; rfl) (fun h => by rw [h]; rfl)) ?_)
      refine ExP.ite (c := lk && false) (Tst.plain (Ev.nm nm 11 (N rfl) rfl) fun _ _ _ => tr_bool) (fun h => by simp at h) fun _ => ?_
      refine ExP.iteN (c := false && true) (Tst.bool (TstB.and (Tst.plain (isi rfl (by intro h; cases h) (.inr (.inl ⟨_, rfl, rfl⟩))) fun _ _ _ => tr_bool) fun h => by cases h)) _ (fun h => by cases h) (fun _ => rfl) ?_
      exact ExT.of ok (Ex.consR (Ex1.try_ (Ex.consR (Ex1.ret (Ev.callB (Ev.bl ok hcs g_format b_format) (Evs.cons (Ev.callT (Ev.bl ok hcs g_float b_float) (Evs.cons (Ev.nm nm 0 (N rfl) rfl) Evs.nil) fun m n xs hx => float_int hi hx) (Evs.cons (Ev.nm nm 2 (N rfl) rfl) Evs.nil)) fun m n xs hx => format_flt hx)))))
    | fbool c lk =>
      refine ExT.iteR (c := false) (Tst.cmp (Ev.nm nm 0 (N rfl) rfl) Ev.none fun _ _ _ _ hx hy => cmp_isNone hx hy fun z hz => by cases hz; rfl) (fun h => by cases h) fun _ => ?_
      refine ExT.iteR (c := false && true) (Tst.bool (TstB.and (Tst.plain (isi rfl (by intro h; cases h) (.inr (.inr (.inl ⟨_, rfl, rfl⟩)))) fun _ _ _ => tr_bool) fun h => by cases h)) (fun h => by cases h) fun _ => ?_
      refine ExT.ite (c := false) (Tst.cmp (Ev.nm nm 1 (N rfl) rfl) (Ev.bl ok hcs g_str b_str) fun _ _ _ _ => cmp_isType) (fun h => by cases h) fun _ => ?_
      refine ExT.ite (c := false) (Tst.cmp (Ev.nm nm 1 (N rfl) rfl) (Ev.bl ok hcs g_int b_int) fun _ _ _ _ => cmp_isType) (fun h => by cases h) fun _ => ?_
      refine ExT.ite (c := true) (Tst.cmp (Ev.nm nm 1 (N rfl) rfl) (Ev.bl ok hcs g_float b_float) fun _ _ _ _ => cmp_isType) (fun _ => ?_) (fun h => by cases h)
      refine ExP.toT (ExP.assign 11 nm (N rfl) (v := .bool (lk && false)) (Ev.and (c := lk) (v := .bool lk) (w := .bool false) (Ev.nm nm 5 (N rfl) rfl) (fun _ _ _ => tr_bool) (fun _ => isi rfl (by intro h; cases h) (.inr (.inr (.inl ⟨_, rfl, rfl⟩)))) _ (fun h => by rw [h]; rfl) (fun h => by rw [h]; rfl)) ?_)
      refine ExP.ite (c := lk && false) (Tst.plain (Ev.nm nm 11 (N rfl) rfl) fun _ _ _ => tr_bool) (fun h => by simp at h) fun _ => ?_
      refine ExP.iteN (c := false && true) (Tst.bool (TstB.and (Tst.plain (isi rfl (by intro h; cases h) (.inr (.inr (.inl ⟨_, rfl, rfl⟩)))) fun _ _ _ => tr_bool) fun h => by cases h)) _ (fun h => by cases h) (fun _ => rfl) ?_
      exact ExT.of ok (Ex.consR (Ex1.try_ (Ex.consR (Ex1.ret (Ev.callB (Ev.bl ok hcs g_format b_format) (Evs.cons (Ev.callT (Ev.bl ok hcs g_float b_float) (Evs.cons (Ev.nm nm 0 (N rfl) rfl) Evs.nil) fun m n xs hx => float_bool hx) (Evs.cons (Ev.nm nm 2 (N rfl) rfl) Evs.nil)) fun m n xs hx => format_flt hx)))))
    | look l raw r b hpl hpr hst hp hlen hrep =>
      have hl := hpl.2.1
      have hl0 : l.isEmpty = false := by
        cases l with
        | nil => exact absurd hpl.1 (by simp)
        | cons a r => rfl
      refine ExT.iteR (c := false) (Tst.cmp (Ev.nm nm 0 (N rfl) rfl) Ev.none fun _ _ _ _ hx hy => cmp_isNone hx hy fun z hz => by cases hz; rfl) (fun h => by cases h) fun _ => ?_
      refine ExT.iteR (c := true && (!(!(l : List Nat).isEmpty) && true)) (Tst.bool (TstB.and (Tst.plain (isi rfl (by intro h; cases h) (.inl ⟨_, rfl, rfl⟩)) fun _ _ _ => tr_bool) fun _ => TstB.and (Tst.not (Tst.plain (Ev.nm nm 0 (N rfl) rfl) fun _ _ _ => tr_str (by omega))) fun _ => TstB.and_nil)) (fun h => absurd h (by rw [hl0]; decide)) fun _ => ?_
      refine ExT.ite (c := false) (Tst.cmp (Ev.nm nm 1 (N rfl) rfl) (Ev.bl ok hcs g_str b_str) fun _ _ _ _ => cmp_isType) (fun h => by cases h) fun _ => ?_
      refine ExT.ite (c := false) (Tst.cmp (Ev.nm nm 1 (N rfl) rfl) (Ev.bl ok hcs g_int b_int) fun _ _ _ _ => cmp_isType) (fun h => by cases h) fun _ => ?_
      refine ExT.ite (c := true) (Tst.cmp (Ev.nm nm 1 (N rfl) rfl) (Ev.bl ok hcs g_float b_float) fun _ _ _ _ => cmp_isType) (fun _ => ?_) (fun h => by cases h)
      refine ExP.toT (ExP.assign 11 nm (N rfl) (v := .bool (true && true)) (Ev.and (c := true) (v := .bool true) (w := .bool true) (Ev.nm nm 5 (N rfl) rfl) (fun _ _ _ => tr_bool) (fun _ => isi rfl (by intro h; cases h) (.inl ⟨_, rfl, rfl⟩)) _ (fun h => by rw [h]; rfl) (fun h => by rw [h]; rfl)) ?_)
      refine ExP.ite (c := true && true) (Tst.plain (Ev.nm nm 11 (N rfl) rfl) fun _ _ _ => tr_bool) (fun _ => ?_) (fun h => by cases h)
      refine ExP.of (ExT.strip (k := 2) ok nm 12 (N rfl) (Ev.gl ok hcs g_strip) (Ev.nm nm 0 (N rfl) rfl) hst fun u hu => ?_)
      refine ExP.tryK nm 13 (N rfl) (EvK.format (b := b) (k := fk) (Ev.bl ok hcs g_format b_format) (Ev.callT (vs := [.val (.str ⟨raw.toArray⟩ u)]) (Ev.bl ok hcs g_float b_float) (Evs.cons (Ev.nm nm 12 (N rfl) rfl) Evs.nil) fun m n xs hx => ?_) (Ev.nm nm 2 (N rfl) rfl)) fun w hw => ?_
      · refine float_str (l := raw) (by have := hpr.2.1; omega) hpr.2.2 hp ?_
        cases hx with
        | cons h1 h2 => cases h1; exact .cons (.str _ _) h2
      · exact ExT.of ok (Ex.consR (Ex1.ret (Ev.replace ok nm 0 12 13 (N rfl) (N rfl) (N rfl) rfl rfl rfl hu hw hrep (by omega) hlen _ rfl)))
    | lookBad l raw hpl hpr hst hp =>
      have hl := hpl.2.1
      have hl0 : l.isEmpty = false := by
        cases l with
        | nil => exact absurd hpl.1 (by simp)
        | cons a r => rfl
      refine ExT.iteR (c := false) (Tst.cmp (Ev.nm nm 0 (N rfl) rfl) Ev.none fun _ _ _ _ hx hy => cmp_isNone hx hy fun z hz => by cases hz; rfl) (fun h => by cases h) fun _ => ?_
      refine ExT.iteR (c := true && (!(!(l : List Nat).isEmpty) && true)) (Tst.bool (TstB.and (Tst.plain (isi rfl (by intro h; cases h) (.inl ⟨_, rfl, rfl⟩)) fun _ _ _ => tr_bool) fun _ => TstB.and (Tst.not (Tst.plain (Ev.nm nm 0 (N rfl) rfl) fun _ _ _ => tr_str (by omega))) fun _ => TstB.and_nil)) (fun h => absurd h (by rw [hl0]; decide)) fun _ => ?_
      refine ExT.ite (c := false) (Tst.cmp (Ev.nm nm 1 (N rfl) rfl) (Ev.bl ok hcs g_str b_str) fun _ _ _ _ => cmp_isType) (fun h => by cases h) fun _ => ?_
      refine ExT.ite (c := false) (Tst.cmp (Ev.nm nm 1 (N rfl) rfl) (Ev.bl ok hcs g_int b_int) fun _ _ _ _ => cmp_isType) (fun h => by cases h) fun _ => ?_
      refine ExT.ite (c := true) (Tst.cmp (Ev.nm nm 1 (N rfl) rfl) (Ev.bl ok hcs g_float b_float) fun _ _ _ _ => cmp_isType) (fun _ => ?_) (fun h => by cases h)
      refine ExP.toT (ExP.assign 11 nm (N rfl) (v := .bool (true && true)) (Ev.and (c := true) (v := .bool true) (w := .bool true) (Ev.nm nm 5 (N rfl) rfl) (fun _ _ _ => tr_bool) (fun _ => isi rfl (by intro h; cases h) (.inl ⟨_, rfl, rfl⟩)) _ (fun h => by rw [h]; rfl) (fun h => by rw [h]; rfl)) ?_)
      refine ExP.ite (c := true && true) (Tst.plain (Ev.nm nm 11 (N rfl) rfl) fun _ _ _ => tr_bool) (fun _ => ?_) (fun h => by cases h)
      refine ExP.of (ExT.strip (k := 2) ok nm 12 (N rfl) (Ev.gl ok hcs g_strip) (Ev.nm nm 0 (N rfl) rfl) hst fun u hu => ?_)
      refine ExP.of (ExT.tryR (v := .str l) ok nm hA hE 0 (N rfl) rfl (.inl ⟨l, rfl, by omega⟩) (ExR.assign (EvR.callB (Ev.bl ok hcs g_format b_format) (EvR.float (l := raw) (Ev.bl ok hcs g_float b_float) ?_ (by have := hpr.2.1; omega) hpr.2.2 hp))) (by rw [hE]; show C.cs.names.lookup _ = _; rw [hcs]; rfl) (by rw [hE]; show C.cs.names.lookup _ = _; rw [hcs]; rfl))
      intro m news g s Q E F N' hq
      exact Ev.nm (v := .val (.str ⟨raw.toArray⟩ u)) nm 12 (N rfl) rfl (by intro h; cases h) m news g s Q E F N' fun x n h' tk' sub r F2 N2 => hq x n h' tk' sub (by cases r; exact .str _ _) F2 N2
    | off l l' b hpl hcase hpl' hp =>
      have hl := hpl.2.1
      have hl0 : l.isEmpty = false := by
        cases l with
        | nil => exact absurd hpl.1 (by simp)
        | cons a r => rfl
      refine ExT.iteR (c := false) (Tst.cmp (Ev.nm nm 0 (N rfl) rfl) Ev.none fun _ _ _ _ hx hy => cmp_isNone hx hy fun z hz => by cases hz; rfl) (fun h => by cases h) fun _ => ?_
      refine ExT.iteR (c := true && (!(!(l : List Nat).isEmpty) && true)) (Tst.bool (TstB.and (Tst.plain (isi rfl (by intro h; cases h) (.inl ⟨_, rfl, rfl⟩)) fun _ _ _ => tr_bool) fun _ => TstB.and (Tst.not (Tst.plain (Ev.nm nm 0 (N rfl) rfl) fun _ _ _ => tr_str (by omega))) fun _ => TstB.and_nil)) (fun h => absurd h (by rw [hl0]; decide)) fun _ => ?_
      refine ExT.ite (c := false) (Tst.cmp (Ev.nm nm 1 (N rfl) rfl) (Ev.bl ok hcs g_str b_str) fun _ _ _ _ => cmp_isType) (fun h => by cases h) fun _ => ?_
      refine ExT.ite (c := false) (Tst.cmp (Ev.nm nm 1 (N rfl) rfl) (Ev.bl ok hcs g_int b_int) fun _ _ _ _ => cmp_isType) (fun h => by cases h) fun _ => ?_
      refine ExT.ite (c := true) (Tst.cmp (Ev.nm nm 1 (N rfl) rfl) (Ev.bl ok hcs g_float b_float) fun _ _ _ _ => cmp_isType) (fun _ => ?_) (fun h => by cases h)
      refine ExP.toT (ExP.assign 11 nm (N rfl) (v := .bool (false && true)) (Ev.and (c := false) (v := .bool false) (w := .bool true) (Ev.nm nm 5 (N rfl) rfl) (fun _ _ _ => tr_bool) (fun _ => isi rfl (by intro h; cases h) (.inl ⟨_, rfl, rfl⟩)) _ (fun h => by rw [h]; rfl) (fun h => by rw [h]; rfl)) ?_)
      refine ExP.ite (c := false && true) (Tst.plain (Ev.nm nm 11 (N rfl) rfl) fun _ _ _ => tr_bool) (fun h => by cases h) fun _ => ?_
      have tst : ∀ {ρ : List V} {p1 p2 p3 p4 p5 p6 p7 p8 : Pos}, ρ[0]? = some (.str l) → Tst C (.BoolOp .And [.Call (.Name (Str.ofString "isinstance") p1) [.Name (Str.ofString "val") p2, .Name (Str.ofString "str") p3] [] p4, .Compare (.Constant (.str (Str.ofString ",")) 0 p5) [.In] [.Name (Str.ofString "val") p6] p7] p8) ρ (true && (l.contains 44 && true)) := by
        intro ρ p1 p2 p3 p4 p5 p6 p7 p8 h0
        exact Tst.bool (TstB.and (Tst.plain (isi h0 (by intro h; cases h) (.inl ⟨_, rfl, rfl⟩)) fun _ _ _ => tr_bool) fun _ => TstB.and (Tst.cmp (Ev.str (l := [44]) (by decide +kernel)) (Ev.nm nm 0 (N rfl) h0) fun _ _ _ _ => cmp_in) fun _ => TstB.and_nil)
      rcases hcase with ⟨hno, rfl⟩ | ⟨x, y, hxy, hx44, hy44, rfl⟩
      · refine ExP.iteN (tst rfl) _ (fun h => by simp at h; exact absurd h hno) (fun _ => rfl) ?_
        exact ExT.of ok (Ex.consR (Ex1.try_ (Ex.consR (Ex1.ret (Ev.callB (Ev.bl ok hcs g_format b_format) (Evs.cons (Ev.callT (Ev.bl ok hcs g_float b_float) (Evs.cons (Ev.nm nm 0 (N rfl) rfl) Evs.nil) fun m n xs hx => float_str (by omega) hpl.2.2 hp hx) (Evs.cons (Ev.nm nm 2 (N rfl) rfl) Evs.nil)) fun m n xs hx => format_flt hx)))))
      · have hc44 : l.contains 44 = true := by rw [hxy]; simp
        refine ExP.iteN (tst rfl) _ (fun _ => repl_comma ok nm 0 (N rfl) rfl hxy hx44 hy44 (by omega) _ rfl rfl) (fun h => by rw [hc44] at h; cases h) ?_
        exact ExT.of ok (Ex.consR (Ex1.try_ (Ex.consR (Ex1.ret (Ev.callB (Ev.bl ok hcs g_format b_format) (Evs.cons (Ev.callT (Ev.bl ok hcs g_float b_float) (Evs.cons (Ev.nm nm 0 (N rfl) rfl) Evs.nil) fun m n xs hx => float_str (by have := hpl'.2.1; omega) hpl'.2.2 hp hx) (Evs.cons (Ev.nm nm 2 (N rfl) rfl) Evs.nil)) fun m n xs hx => format_flt hx)))))
    | offBad l hpl hno hp =>
      have hl := hpl.2.1
      have hl0 : l.isEmpty = false := by
        cases l with
        | nil => exact absurd hpl.1 (by simp)
        | cons a r => rfl
      refine ExT.iteR (c := false) (Tst.cmp (Ev.nm nm 0 (N rfl) rfl) Ev.none fun _ _ _ _ hx hy => cmp_isNone hx hy fun z hz => by cases hz; rfl) (fun h => by cases h) fun _ => ?_
      refine ExT.iteR (c := true && (!(!(l : List Nat).isEmpty) && true)) (Tst.bool (TstB.and (Tst.plain (isi rfl (by intro h; cases h) (.inl ⟨_, rfl, rfl⟩)) fun _ _ _ => tr_bool) fun _ => TstB.and (Tst.not (Tst.plain (Ev.nm nm 0 (N rfl) rfl) fun _ _ _ => tr_str (by omega))) fun _ => TstB.and_nil)) (fun h => absurd h (by rw [hl0]; decide)) fun _ => ?_
      refine ExT.ite (c := false) (Tst.cmp (Ev.nm nm 1 (N rfl) rfl) (Ev.bl ok hcs g_str b_str) fun _ _ _ _ => cmp_isType) (fun h => by cases h) fun _ => ?_
      refine ExT.ite (c := false) (Tst.cmp (Ev.nm nm 1 (N rfl) rfl) (Ev.bl ok hcs g_int b_int) fun _ _ _ _ => cmp_isType) (fun h => by cases h) fun _ => ?_
      refine ExT.ite (c := true) (Tst.cmp (Ev.nm nm 1 (N rfl) rfl) (Ev.bl ok hcs g_float b_float) fun _ _ _ _ => cmp_isType) (fun _ => ?_) (fun h => by cases h)
      refine ExP.toT (ExP.assign 11 nm (N rfl) (v := .bool (false && true)) (Ev.and (c := false) (v := .bool false) (w := .bool true) (Ev.nm nm 5 (N rfl) rfl) (fun _ _ _ => tr_bool) (fun _ => isi rfl (by intro h; cases h) (.inl ⟨_, rfl, rfl⟩)) _ (fun h => by rw [h]; rfl) (fun h => by rw [h]; rfl)) ?_)
      refine ExP.ite (c := false && true) (Tst.plain (Ev.nm nm 11 (N rfl) rfl) fun _ _ _ => tr_bool) (fun h => by cases h) fun _ => ?_
      refine ExP.iteN (c := true && (l.contains 44 && true)) (Tst.bool (TstB.and (Tst.plain (isi rfl (by intro h; cases h) (.inl ⟨_, rfl, rfl⟩)) fun _ _ _ => tr_bool) fun _ => TstB.and (Tst.cmp (Ev.str (l := [44]) (by decide +kernel)) (Ev.nm nm 0 (N rfl) rfl) fun _ _ _ _ => cmp_in) fun _ => TstB.and_nil)) _ (fun h => by simp at h; exact absurd h hno) (fun _ => rfl) ?_
      exact ExT.tryR (v := .str l) ok nm hA hE 0 (N rfl) rfl (.inl ⟨l, rfl, by omega⟩) (ExR.ret (EvR.callB (Ev.bl ok hcs g_format b_format) (EvR.float (l := l) (Ev.bl ok hcs g_float b_float) (Ev.nm nm 0 (N rfl) rfl) (by omega) hpl.2.2 hp))) (by rw [hE]; show C.cs.names.lookup _ = _; rw [hcs]; rfl) (by rw [hE]; show C.cs.names.lookup _ = _; rw [hcs]; rfl)
end Mine

end
section
open PySem PySem.W PyProof.Rows PySem.Calls PySem.Spec PySem.Builtin PySem.Builtin.Int PySem.Builtin.Float
set_option maxRecDepth 100000
set_option linter.unusedVariables false
namespace Mine

def specOf (k : Nat) : FormatSpec := match parseFormatSpec (wform k) "int" 62 with | .ok f => f | .error _ => { align := 62 }
def baseOf (k : Nat) : Nat := if k = 2 then 2 else if k = 3 then 16 else 10
def intText (k : Nat) (a : Int) : Str := Num.intField (specOf k) (decide (a < 0)) [] ((Nat.toDigits (baseOf k) a.natAbs).map Char.toNat) [] (if baseOf k == 10 then 3 else 4)

theorem q_eq {Q : Value → Shared → Prop} {x y : Str} {t : Tok} {s : Shared} (h : x = y) (hq : Q (.str y t) s) : Q (.str x t) s := h ▸ hq

section
variable {prog : Program} {w : World} {A : Around} {E : Value → Shared → Prop} {s : Shared} {a : Int} {t u : Tok} {Q : Value → Shared → Prop}
theorem ifmt {sp : Str} {f : FormatSpec} {c : Nat} (hp : parseFormatSpec sp.cps.toList "int" 62 = .ok f) (hne : (sp.length == 0) = false) (hasc : ((sp.cps.toList.drop 1).any (· ≥ 128) || (sp.cps.getD 0 0 ≥ 128 && !([60, 62, 61, 94] : List Nat).contains (sp.cps.getD 1 0))) = false)
    (hty : f.type.getD (if sp.cps.back? == some 0 then 0 else 100) = c) (hc : c = 100 ∨ c = 98 ∨ c = 120) (hpr : f.precision = none) (hz : f.noNeg0 = false) (hal : f.alt = false) (hw : f.width.getD 0 ≤ 100000)
    (ha : a.natAbs.log2 < 1920) {y : Str} (hy : y = Num.intField f (decide (a < 0)) [] ((Nat.toDigits (if c = 98 then 2 else if c = 120 then 16 else 10) a.natAbs).map Char.toNat) [] (if c = 100 then 3 else 4)) (hl : y.length ≤ 1000) (h : Q (.str y s.toks) { s with toks := s.toks + 1 }) :
    wpAny (model prog w) A (Builtin.«int.__format__» ⟨[.int a t, .str sp u], []⟩) (fun fin s' => ∃ v, fin = .done (.ret v) ∧ Q v s') E s := by
  have hd := PyProof.Rows.overDigitLimit_small ha
  unfold Builtin.«int.__format__»
  simp only [selfAndOne, noKeywords, Int.intOfSelf, asInt?, asStr?, List.isEmpty_nil, if_true, pure_bind, bind_pure, bind_assoc, hne, hasc, Bool.false_eq_true, if_false,
    show (Value.str sp u == Value.none) = false from rfl]
  refine wpAny_bind (wpAny_typeNameOf (T := "str") (typeIs_str _ _ _) (by decide) fun _ => ?_)
  refine wpAny_bind (wpAny_typeNameOfCut_int ?_)
  simp only [hp, hty]
  rw [if_pos (by rcases hc with rfl | rfl | rfl <;> decide)]
  show wpAny _ _ (if _ then _ else _) _ _ _
  rw [if_neg (by simp [hpr])]
  show wpAny _ _ (if _ then _ else _) _ _ _
  rw [if_neg (by simp [hz])]
  show wpAny _ _ (if _ then _ else _) _ _ _
  rw [if_neg (by rcases hc with rfl | rfl | rfl <;> decide)]
  have hw' : ¬ (f.width.getD 0 > 100000) := by omega
  rcases hc with rfl | rfl | rfl
  · show wpAny _ _ (do let r ← Builtin.overDigitLimit? a; _) _ _ _
    rw [hd]
    refine wpAny_bind (wpAny_pure ?_)
    show wpAny _ _ (if _ then _ else _) _ _ _
    rw [if_neg hw']
    refine wpAny_bind (wpAny_mkStr ?_ ?_)
    · refine wpAny_pure ⟨_, rfl, ?_⟩
      refine q_eq (y := y) ?_ h
      rw [hy, hal]; kernel_rfl
    · refine Nat.le_trans (Nat.le_of_eq ?_) (Nat.le_trans hl (by rw [line_is]; decide))
      rw [hy, hal]; kernel_rfl
  · show wpAny _ _ (if _ then _ else _) _ _ _
    rw [if_neg (by decide)]
    show wpAny _ _ (if _ then _ else _) _ _ _
    rw [if_neg hw']
    refine wpAny_bind (wpAny_mkStr ?_ ?_)
    · refine wpAny_pure ⟨_, rfl, ?_⟩
      refine q_eq (y := y) ?_ h
      rw [hy, hal]; kernel_rfl
    · refine Nat.le_trans (Nat.le_of_eq ?_) (Nat.le_trans hl (by rw [line_is]; decide))
      rw [hy, hal]; kernel_rfl
  · show wpAny _ _ (if _ then _ else _) _ _ _
    rw [if_neg (by decide)]
    show wpAny _ _ (if _ then _ else _) _ _ _
    rw [if_neg hw']
    refine wpAny_bind (wpAny_mkStr ?_ ?_)
    · refine wpAny_pure ⟨_, rfl, ?_⟩
      refine q_eq (y := y) ?_ h
      rw [hy, hal]; kernel_rfl
    · refine Nat.le_trans (Nat.le_of_eq ?_) (Nat.le_trans hl (by rw [line_is]; decide))
      rw [hy, hal]; kernel_rfl
end
end Mine

end
section
open PySem PySem.W PyProof.Rows PySem.Calls PySem.Spec PySem.Builtin PySem.Builtin.Int PySem.Builtin.Float PySem.Flt
set_option maxRecDepth 100000
set_option linter.unusedVariables false
namespace Mine

theorem format_intS {C : Cx} {m : Str → Option Value} {news : Led} {a : Int} {l0 l : List Nat} {f : FormatSpec} {c : Nat} (hp : parseFormatSpec l0 "int" 62 = .ok f) (hne : (l0.length == 0) = false) (hasc : ((l0.drop 1).any (· ≥ 128) || (l0.toArray.getD 0 0 ≥ 128 && !([60, 62, 61, 94] : List Nat).contains (l0.toArray.getD 1 0))) = false)
    (hty : f.type.getD (if l0.toArray.back? == some 0 then 0 else 100) = c) (hc : c = 100 ∨ c = 98 ∨ c = 120) (hpr : f.precision = none) (hz : f.noNeg0 = false) (hal : f.alt = false) (hw : f.width.getD 0 ≤ 100000)
    (ha : a.natAbs.log2 < 1920) (hy : (⟨l.toArray⟩ : Str) = Num.intField f (decide (a < 0)) [] ((Nat.toDigits (if c = 98 then 2 else if c = 120 then 16 else 10) a.natAbs).map Char.toNat) [] (if c = 100 then 3 else 4)) (hl : l.length ≤ 1000) {xs : List Value} (hx : Reps news [.int a, .str l0] xs) :
    Go C C.A m news (call (.builtin "format") xs) fun n z => Rep n (.str l) z := by
  cases hx with
  | cons h1 h2 => cases h2 with
    | cons h2 h3 =>
      cases h3; cases h1; cases h2
      rename_i t u
      refine .still fun s Q E h => ?_
      have hne' : ((⟨l0.toArray⟩ : Str).length == 0) = false := by rw [str_len]; exact hne
      generalize hsp : (⟨l0.toArray⟩ : Str) = sp at *
      refine Calls.call_function_entry kind_format plain_format entry_format (args_format _ _) ?_
      unfold Builtin.«format»
      refine wpAny_bind (m := someArgs "format" 1 2 _) (wpAny_pure ?_)
      show wpAny _ _ (typeNameOf (.str sp u) >>= fun specType => (if (sp.length == 0) = true then _ else _)) _ _ s
      rw [hne']
      refine wpAny_bind (wpAny_of_eq (a := "str") rfl ?_)
      show wpAny _ _ (callSpecial? (.int a t) (Str.ofString "__format__") [.str sp u] >>= _) _ _ s
      refine wpAny_bind (wpAny_callSpecial?_slot (name := Str.ofString "__format__") (T := "int") rfl F.slot_int_format (wpAny_call_entry F.slot_int_format (typeIs_int _ a t) F.entry_int_format ?_ (F.args_int_format_2 _ _)))
      refine ifmt (y := ⟨l.toArray⟩) (f := f) (c := c) (by rw [← hsp]; exact hp) hne' (by rw [← hsp]; exact hasc) (by rw [← hsp]; exact hty) hc hpr hz hal hw ha hy (by rw [str_len]; exact hl) ?_
      exact wpAny_bind (wpAny_isInstance (T := "str") (b := true) rfl isSubtype_str_str (wpAny_pure ⟨_, rfl, h _ _ (.str _ _)⟩))

theorem format_int0 {C : Cx} {m : Str → Option Value} {news : Led} {a : Int} (ha : a.natAbs.log2 < 1920) (hl : (txt (toString a)).length ≤ 1000) {xs : List Value} (hx : Reps news [.int a, .str []] xs) :
    Go C C.A m news (call (.builtin "format") xs) fun n z => Rep n (.str (txt (toString a))) z := by
  cases hx with
  | cons h1 h2 => cases h2 with
    | cons h2 h3 =>
      cases h3; cases h1; cases h2
      rename_i t u
      refine .still fun s Q E h => ?_
      refine Calls.call_function_entry kind_format plain_format entry_format (args_format _ _) ?_
      unfold Builtin.«format»
      refine wpAny_bind (m := someArgs "format" 1 2 _) (wpAny_pure ?_)
      refine wpAny_bind (wpAny_pure ?_)
      refine wpAny_bind (wpAny_of_eq (a := "str") rfl ?_)
      refine wpAny_bind (wpAny_of_eq (a := some (⟨#[]⟩ : Str)) rfl ?_)
      dsimp only
      rw [if_pos (by rfl)]
      refine wpAny_bind (wpAny_rule (wpAny_bind ?_))
      unfold pyStr
      refine wpAny_bind (pyStrObj_int ha ?_)
      refine wpAny_pure ?_
      have e : (toString a : Str) = ⟨(txt (toString a)).toArray⟩ := ofString_txt _
      rw [ofString_txt]
      refine wpAny_bind (wpAny_mkStr (wpAny_pure ⟨_, rfl, h _ _ (.str _ _)⟩) ?_)
      rw [str_len, line_is]; omega
end Mine

end
section
open PySem PySem.W PyProof.Rows PySem.Calls PySem.Spec PySem.Builtin PySem.Builtin.Int PySem.Builtin.Float
set_option maxRecDepth 100000
set_option linter.unusedVariables false
namespace Mine

theorem outAt_eq (t u : List Nat) : ∀ i, i ≤ t.length → (t.length - u.length) % 3 = 0 → u.length ≤ t.length → (∀ j, j < i → t.getD j 0 = u.getD j 0) → i ≤ u.length → outAt t i = outAt u i
  | 0, _, _, _, _, _ => rfl
  | i + 1, h1, h2, h3, h4, h5 => by
    unfold outAt
    rw [outAt_eq t u i (by omega) h2 h3 (fun j hj => h4 j (by omega)) (by omega), h4 i (by omega)]
    have : (t.length - i) % 3 = (u.length - i) % 3 := by omega
    rw [this]
theorem lawGroup_small {t : List Nat} (h : t.length ≤ 3) : lawGroup t = t := by
  match t, h with
  | [], _ => rfl
  | [a], _ => rfl
  | [a, b], _ => rfl
  | [a, b, c], _ => rfl
  | _ :: _ :: _ :: _ :: _, h => simp at h
theorem lawGroup_step (A : List Nat) (hA : A ≠ []) (b c d : Nat) : lawGroup (A ++ [b, c, d]) = lawGroup A ++ [44, b, c, d] := by
  have hl : 0 < A.length := List.length_pos_iff.mpr hA
  unfold lawGroup
  have e : (A ++ [b, c, d]).length = A.length + 3 := by simp
  rw [e]
  have g : ∀ j, j < A.length → (A ++ [b, c, d]).getD j 0 = A.getD j 0 := fun j hj => by
    rw [List.getD_eq_getElem?_getD, List.getElem?_append_left hj, ← List.getD_eq_getElem?_getD]
  have g0 : (A ++ [b, c, d]).getD A.length 0 = b := by rw [List.getD_eq_getElem?_getD, List.getElem?_append_right (by omega)]; simp
  have g1 : (A ++ [b, c, d]).getD (A.length + 1) 0 = c := by rw [List.getD_eq_getElem?_getD, List.getElem?_append_right (by omega)]; simp
  have g2 : (A ++ [b, c, d]).getD (A.length + 2) 0 = d := by rw [List.getD_eq_getElem?_getD, List.getElem?_append_right (by omega)]; simp
  have main : outAt (A ++ [b, c, d]) A.length = outAt A A.length := outAt_eq _ A _ (by rw [e]; omega) (by rw [e]; omega) (by rw [e]; omega) g (Nat.le_refl _)
  show ((((outAt (A ++ [b, c, d]) A.length ++ _) ++ [_] ++ _) ++ [_]) ++ _) ++ [_] = _
  rw [main, g0, g1, g2, e, if_pos ⟨hl, by omega⟩, if_neg (by omega), if_neg (by omega)]
  simp

theorem groups_eq : ∀ (fuel : Nat) (D : List Nat) (room : Int) (out : List Nat), D.length ≤ fuel → D ≠ [] → room ≤ 0 → Num.groupsFromRight 3 44 fuel D.reverse room out = lawGroup D ++ out
  | 0, D, _, _, h, hD, _ => absurd (List.length_pos_iff.mpr hD) (by omega)
  | fuel + 1, D, room, out, h, hD, hr => by
    have hl : 0 < D.length := List.length_pos_iff.mpr hD
    unfold Num.groupsFromRight
    simp only [List.length_reverse]
    have hn : min 3 ((max (max (D.length : Int) room) 1).toNat) = min 3 D.length := by omega
    rw [hn]
    by_cases h3 : D.length ≤ 3
    · have e : min 3 D.length = D.length := by omega
      rw [e, List.drop_of_length_le (by simp), List.take_of_length_le (by simp)]
      rw [if_pos (by simp; omega)]
      rw [lawGroup_small h3]
      simp
    · have e : min 3 D.length = 3 := by omega
      rw [e]
      obtain ⟨A, b, c, d, rfl⟩ : ∃ A b c d, D = A ++ [b, c, d] := by
        refine ⟨D.take (D.length - 3), D.getD (D.length - 3) 0, D.getD (D.length - 2) 0, D.getD (D.length - 1) 0, ?_⟩
        apply List.ext_getElem?
        intro i
        by_cases hi : i < D.length - 3
        · rw [List.getElem?_append_left (by simp; omega), List.getElem?_take_of_lt hi]
        · rw [List.getElem?_append_right (by simp; omega)]
          simp only [List.length_take, Nat.min_eq_left (Nat.sub_le D.length 3), List.getD_eq_getElem?_getD]
          by_cases h1 : i = D.length - 3
          · subst h1; rw [Nat.sub_self, List.getElem?_eq_getElem (by omega)]; simp
          · by_cases h2 : i = D.length - 2
            · subst h2; rw [show D.length - 2 - (D.length - 3) = 1 by omega, List.getElem?_eq_getElem (by omega)]; simp
            · by_cases h4 : i = D.length - 1
              · subst h4; rw [show D.length - 1 - (D.length - 3) = 2 by omega, List.getElem?_eq_getElem (by omega)]; simp
              · rw [List.getElem?_eq_none (by omega), List.getElem?_eq_none (by simp; omega)]
      have hA : A ≠ [] := by
        intro q; subst q; simp at h3
      have er : (A ++ [b, c, d]).reverse = d :: c :: b :: A.reverse := by simp
      rw [er]
      simp only [List.drop_succ_cons, List.drop_zero, List.take_succ_cons, List.take_zero]
      have hne : A.reverse.isEmpty = false := by cases hq : A.reverse with
        | nil => exact absurd (by simpa using hq) hA
        | cons _ _ => rfl
      rw [hne, Bool.false_and, if_neg Bool.false_ne_true]
      rw [groups_eq fuel A _ _ (by simp at h; omega) hA (by omega), lawGroup_step A hA]
      simp

theorem digits_ne (b n : Nat) : (Nat.toDigits b n).map Char.toNat ≠ [] := by
  intro h
  have h2 : Nat.toDigits b n = [] := by simpa using h
  exact Nat.toDigits_ne_nil h2

theorem dec_ne (n : Nat) : dec n ≠ [] := digits_ne 10 n

theorem whole1 (a : Int) : Num.intField { fill := 32, align := 62, grouping := some ',' } (decide (a < 0)) [] (dec a.natAbs) [] 3 = ⟨(lawWhole a 1).toArray⟩ := by
  unfold Num.intField
  have hd : (dec a.natAbs).isEmpty = false := by cases h : dec a.natAbs with
    | nil => exact absurd h (dec_ne _)
    | cons _ _ => rfl
  have e44 : (','.toNat) = 44 := rfl
  simp only [hd, Bool.false_eq_true, if_false, e44, show ((32 : Nat) == 48) = false from rfl, Bool.false_and, show ((62 : Nat) == 60) = false from rfl, show ((62 : Nat) == 94) = false from rfl, show ((62 : Nat) == 61) = false from rfl]
  rw [groups_eq _ _ _ _ (by simp) (dec_ne _) (by omega)]
  by_cases ha : a < 0
  · simp [ha, lawWhole]
  · simp [ha, lawWhole]
theorem whole4 (a : Int) : Num.intField { fill := 32, align := 62, sign := some 43 } (decide (a < 0)) [] (dec a.natAbs) [] 3 = ⟨(lawWhole a 4).toArray⟩ := by
  unfold Num.intField
  have hd : (dec a.natAbs).isEmpty = false := by cases h : dec a.natAbs with
    | nil => exact absurd h (dec_ne _)
    | cons _ _ => rfl
  simp only [hd, Bool.false_eq_true, if_false, show ((32 : Nat) == 48) = false from rfl, Bool.false_and, show ((62 : Nat) == 60) = false from rfl, show ((62 : Nat) == 94) = false from rfl, show ((62 : Nat) == 61) = false from rfl]
  by_cases ha : a < 0
  · simp [ha, lawWhole]
  · simp [ha, lawWhole]
theorem whole5 (a : Int) : Num.intField { fill := 48, align := 61, width := some 8 } (decide (a < 0)) [] (dec a.natAbs) [] 3 = ⟨(lawWhole a 5).toArray⟩ := by
  unfold Num.intField
  have hd : (dec a.natAbs).isEmpty = false := by cases h : dec a.natAbs with
    | nil => exact absurd h (dec_ne _)
    | cons _ _ => rfl
  simp only [hd, Bool.false_eq_true, if_false, show ((48 : Nat) == 48) = true from rfl, Bool.true_and, show ((61 : Nat) == 60) = false from rfl, show ((61 : Nat) == 94) = false from rfl, show ((61 : Nat) == 61) = true from rfl, if_true]
  by_cases ha : a < 0
  · simp [ha, lawWhole]; omega
  · simp [ha, lawWhole]; omega
end Mine

end
section
open PySem PySem.W PyProof.Rows PySem.Calls PySem.Spec PySem.Builtin PySem.Builtin.Int PySem.Builtin.Float
set_option maxRecDepth 100000
set_option linter.unusedVariables false
namespace Mine

theorem baseAt_step (b n : Nat) (hb : 0 < b) : ∀ i, baseAt b n (i + 1) = baseAt b (n / b) i ++ [figs.getD (n % b) 0]
  | 0 => by simp [baseAt]
  | i + 1 => by
    show figs.getD (n / b ^ (i + 1) % b) 0 :: baseAt b n (i + 1) = (figs.getD (n / b / b ^ i % b) 0 :: baseAt b (n / b) i) ++ _
    rw [baseAt_step b n hb i, Nat.div_div_eq_div_mul, ← Nat.pow_succ']
    rfl
theorem fig_char {d : Nat} (h : d < 16) : (Nat.digitChar d).toNat = figs.getD d 0 := by
  have : ∀ d : Fin 16, (Nat.digitChar d.val).toNat = figs.getD d.val 0 := by decide
  exact this ⟨d, h⟩
theorem toDigits_base (b : Nat) (hb : 1 < b) (hb2 : b ≤ 16) : ∀ (L n : Nat), n < b ^ (L + 1) → (L = 0 ∨ b ^ L ≤ n) → (Nat.toDigits b n).map Char.toNat = baseAt b n (L + 1)
  | 0, n, h, _ => by
    have hn : n < b := by simpa using h
    rw [Nat.toDigits_of_lt_base hn]
    simp [baseAt, fig_char (show n < 16 by omega), Nat.mod_eq_of_lt hn]
  | L + 1, n, h, h2 => by
    have h2' : b ^ (L + 1) ≤ n := h2.resolve_left (by omega)
    have hbn : b ≤ n := Nat.le_trans (by rw [Nat.pow_succ]; exact Nat.le_mul_of_pos_left b (Nat.pow_pos (by omega))) h2'
    rw [Nat.toDigits_of_base_le hb hbn, List.map_append, baseAt_step b n (by omega)]
    rw [toDigits_base b hb hb2 L (n / b) (Nat.div_lt_of_lt_mul (by rw [← Nat.pow_succ']; exact h)) (by
      by_cases hL : L = 0
      · exact .inl hL
      · exact .inr ((Nat.le_div_iff_mul_le (by omega)).mpr (by rw [← Nat.pow_succ]; exact h2')))]
    simp [fig_char (show n % b < 16 from Nat.lt_of_lt_of_le (Nat.mod_lt n (by omega)) hb2)]
theorem baseLen_min (b n : Nat) (hb : 1 < b) : ∀ (f i : Nat), n < b ^ (i + f) → (∀ j, j < i → ¬ n / b ^ j = 0) → n / b ^ (baseLen b n f i) = 0 ∧ ∀ j, j < baseLen b n f i → ¬ n / b ^ j = 0
  | 0, i, h, hj => by
    unfold baseLen
    exact ⟨Nat.div_eq_of_lt (by simpa using h), hj⟩
  | f + 1, i, h, hj => by
    unfold baseLen
    by_cases h0 : n / b ^ i = 0
    · rw [if_pos h0]; exact ⟨h0, hj⟩
    · rw [if_neg h0]
      refine baseLen_min b n hb f (i + 1) (by rw [show i + 1 + f = i + (f + 1) by omega]; exact h) fun j hji => ?_
      by_cases e : j = i
      · subst e; exact h0
      · exact hj j (by omega)
theorem base_eq (b n : Nat) (hb : 1 < b) (hb2 : b ≤ 16) (hn : n < b ^ 64) : (Nat.toDigits b n).map Char.toNat = if (baseAt b n (baseLen b n 64 0)).isEmpty then [48] else baseAt b n (baseLen b n 64 0) := by
  obtain ⟨h1, h2⟩ := baseLen_min b n hb 64 0 (by simpa using hn) (fun j hj => by omega)
  generalize baseLen b n 64 0 = L at *
  cases L with
  | zero =>
    have : n = 0 := by simpa using h1
    subst this
    rw [Nat.toDigits_of_lt_base (by omega)]
    rfl
  | succ L =>
    have hlt : n < b ^ (L + 1) := by
      rcases Nat.div_eq_zero_iff.mp h1 with h | h
      · exact absurd h (by have := Nat.pow_pos (n := L + 1) (show 0 < b by omega); omega)
      · exact h
    rw [toDigits_base b hb hb2 L n hlt (by
      by_cases hL : L = 0
      · exact .inl hL
      · right
        have := h2 L (by omega)
        have hp := Nat.pow_pos (n := L) (show 0 < b by omega)
        refine Nat.le_of_not_lt fun hlt => this (Nat.div_eq_of_lt hlt))]
    rfl
theorem wholeB (a : Int) (b c : Nat) (hb : 1 < b) (hb2 : b ≤ 16) (ha : a.natAbs < b ^ 64) : Num.intField { fill := 32, align := 62, type := some c } (decide (a < 0)) [] ((Nat.toDigits b a.natAbs).map Char.toNat) [] 4 = ⟨(lawInBase a b).toArray⟩ := by
  unfold Num.intField
  have hd : ((Nat.toDigits b a.natAbs).map Char.toNat).isEmpty = false := by cases h : (Nat.toDigits b a.natAbs).map Char.toNat with
    | nil => exact absurd h (digits_ne _ _)
    | cons _ _ => rfl
  simp only [hd, Bool.false_eq_true, if_false, show ((32 : Nat) == 48) = false from rfl, Bool.false_and, show ((62 : Nat) == 60) = false from rfl, show ((62 : Nat) == 94) = false from rfl, show ((62 : Nat) == 61) = false from rfl]
  rw [base_eq b _ hb hb2 ha]
  unfold lawInBase
  by_cases hneg : a < 0
  · simp [hneg]
  · simp [hneg]

theorem whole_len (a : Int) (k : Nat) (ha : a.natAbs < 2 ^ 45) : (lawWhole a k).length ≤ 1000 := by
  have h1 : (dec a.natAbs).length ≤ 14 := dec_len_le 13 _ (Nat.lt_of_lt_of_le ha (by decide))
  have hbl : ∀ b n i, (baseAt b n i).length = i := by
    intro b n i
    induction i with
    | zero => rfl
    | succ i ih => simp [baseAt, ih]
  have hL : ∀ b n f i, baseLen b n f i ≤ i + f := by
    intro b n f
    induction f with
    | zero => intro i; unfold baseLen; omega
    | succ f ih =>
      intro i
      unfold baseLen
      split
      · omega
      · have := ih (i + 1); omega
  have hB : ∀ b, (lawInBase a b).length ≤ 100 := by
    intro b
    have := hL b a.natAbs 64 0
    have e1 : (if a < 0 then [45] else ([] : List Nat)).length ≤ 1 := by split <;> simp
    have e2 : (if (baseAt b a.natAbs (baseLen b a.natAbs 64 0)).isEmpty then [48] else baseAt b a.natAbs (baseLen b a.natAbs 64 0)).length ≤ 64 := by
      split
      · simp
      · rw [hbl]; omega
    show ((if a < 0 then [45] else ([] : List Nat)) ++ (if (baseAt b a.natAbs (baseLen b a.natAbs 64 0)).isEmpty then [48] else baseAt b a.natAbs (baseLen b a.natAbs 64 0))).length ≤ 100
    rw [List.length_append]
    omega
  have e1 : (if a < 0 then [45] else ([] : List Nat)).length ≤ 1 := by split <;> simp
  match k with
  | 0 => simp only [lawWhole, List.length_append]; omega
  | 1 =>
    have := outAt_len (dec a.natAbs) (dec a.natAbs).length
    simp only [lawWhole, List.length_append, lawGroup]; omega
  | 2 => exact Nat.le_trans (hB 2) (by decide)
  | 3 => exact Nat.le_trans (hB 16) (by decide)
  | 4 =>
    have e2 : (if a < 0 then [45] else ([43] : List Nat)).length ≤ 1 := by split <;> simp
    simp only [lawWhole, List.length_append]; omega
  | _ + 5 => simp only [lawWhole, List.length_append, List.length_replicate]; omega

theorem format_int {C : Cx} {m : Str → Option Value} {news : Led} {a : Int} {k : Nat} (hk : k < 6) (ha : a.natAbs < 2 ^ 45) {xs : List Value} (hx : Reps news [.int a, .str (wform k)] xs) : Go C C.A m news (call (.builtin "format") xs) fun n z => Rep n (.str (lawWhole a k)) z := by
  have hlog : a.natAbs.log2 < 1920 := by
    by_cases h0 : a.natAbs = 0
    · rw [h0]; decide
    · exact Nat.lt_of_lt_of_le ((Nat.log2_lt h0).mpr ha) (by decide)
  have hl := whole_len a k ha
  have h64 : ∀ b, 2 ≤ b → a.natAbs < b ^ 64 := fun b hb => Nat.lt_of_lt_of_le ha (Nat.le_trans (Nat.pow_le_pow_right (by decide) (by decide : 45 ≤ 64)) (Nat.pow_le_pow_left hb 64))
  match k, hk with
  | 0, _ =>
    have := format_int0 (C := C) (m := m) (news := news) (a := a) hlog (by rw [txt_int]; exact hl) hx
    rw [txt_int] at this
    exact this
  | 1, _ => exact format_intS (f := { fill := 32, align := 62, grouping := some ',' }) (c := 100) rfl rfl rfl rfl (.inl rfl) rfl rfl rfl (by decide) hlog (whole1 a).symm hl hx
  | 2, _ => exact format_intS (f := { fill := 32, align := 62, type := some 98 }) (c := 98) rfl rfl rfl rfl (.inr (.inl rfl)) rfl rfl rfl (by decide) hlog (wholeB a 2 98 (by decide) (by decide) (h64 2 (by decide))).symm hl hx
  | 3, _ => exact format_intS (f := { fill := 32, align := 62, type := some 120 }) (c := 120) rfl rfl rfl rfl (.inr (.inr rfl)) rfl rfl rfl (by decide) hlog (wholeB a 16 120 (by decide) (by decide) (h64 16 (by decide))).symm hl hx
  | 4, _ => exact format_intS (f := { fill := 32, align := 62, sign := some 43 }) (c := 100) rfl rfl rfl rfl (.inl rfl) rfl rfl rfl (by decide) hlog (whole4 a).symm hl hx
  | 5, _ => exact format_intS (f := { fill := 48, align := 61, width := some 8 }) (c := 100) rfl rfl rfl rfl (.inl rfl) rfl rfl rfl (by decide) hlog (whole5 a).symm hl hx
end Mine

end
section
open PySem PySem.W PyProof.Rows
set_option maxRecDepth 100000
set_option linter.unusedVariables false
namespace Mine

theorem half_mul (m d : Nat) (hd : 0 < d) : Float64.halfEven (m * d) d = m := by
  unfold Float64.halfEven
  simp only [Nat.mul_div_cancel m hd, Nat.mul_mod_left]
  rw [if_neg]
  simp
  omega
def magOf (k : Nat) : Nat := if k = 0 then 0 else (1019 + k.log2) * 2 ^ 52 + k * 2 ^ (52 - k.log2)

def expOf (n d : Nat) : Int := max (if (Float64.shift n d (-((n.log2 : Int) - (d.log2 : Int)))).1 ≥ (Float64.shift n d (-((n.log2 : Int) - (d.log2 : Int)))).2 then (n.log2 : Int) - (d.log2 : Int) - 52 else (n.log2 : Int) - (d.log2 : Int) - 53) (-1074)
theorem roundMag_eq (n d : Nat) (hn : n ≠ 0) : Float64.roundMag n d = min Float64.infMag ((expOf n d + 1074).toNat * 2 ^ 52 + Float64.halfEven (Float64.shift n d (-expOf n d)).1 (Float64.shift n d (-expOf n d)).2) := by
  unfold Float64.roundMag
  rw [if_neg (by simpa using hn)]
  rfl
theorem logs {k n d : Nat} (hk : k ≠ 0) (hn : n ≠ 0) (hd : d ≠ 0) (h : k * d = 8 * n) : 2 ^ k.log2 * d ≤ 8 * n ∧ 8 * n < 2 ^ (k.log2 + 1) * d ∧ n.log2 + 2 ≤ k.log2 + d.log2 ∧ k.log2 + d.log2 ≤ n.log2 + 3 := by
  have hj1 : 2 ^ k.log2 ≤ k := Nat.log2_self_le hk
  have hj2 : k < 2 ^ (k.log2 + 1) := Nat.lt_log2_self
  have hp1 : 2 ^ n.log2 ≤ n := Nat.log2_self_le hn
  have hp2 : n < 2 ^ (n.log2 + 1) := Nat.lt_log2_self
  have hq1 : 2 ^ d.log2 ≤ d := Nat.log2_self_le hd
  have hq2 : d < 2 ^ (d.log2 + 1) := Nat.lt_log2_self
  have hA : 2 ^ k.log2 * d ≤ 8 * n := by rw [← h]; exact Nat.mul_le_mul_right d hj1
  have hB : 8 * n < 2 ^ (k.log2 + 1) * d := by rw [← h]; exact Nat.mul_lt_mul_of_pos_right hj2 (Nat.pos_of_ne_zero hd)
  generalize n.log2 = p at *
  generalize d.log2 = q at *
  generalize k.log2 = j at *
  have l1 : j + q < p + 4 := by
    refine (Nat.pow_lt_pow_iff_right (a := 2) (by decide)).mp ?_
    calc 2 ^ (j + q) = 2 ^ j * 2 ^ q := Nat.pow_add ..
      _ ≤ 2 ^ j * d := Nat.mul_le_mul_left _ hq1
      _ ≤ 8 * n := hA
      _ < 8 * 2 ^ (p + 1) := Nat.mul_lt_mul_of_pos_left hp2 (by decide)
      _ = 2 ^ (p + 4) := by rw [show p + 4 = 3 + (p + 1) by omega, Nat.pow_add 2 3 (p + 1)]
  have l2 : p + 3 < j + q + 2 := by
    refine (Nat.pow_lt_pow_iff_right (a := 2) (by decide)).mp ?_
    calc 2 ^ (p + 3) = 8 * 2 ^ p := by rw [Nat.add_comm p 3, Nat.pow_add 2 3 p]
      _ ≤ 8 * n := Nat.mul_le_mul_left _ hp1
      _ < 2 ^ (j + 1) * d := hB
      _ ≤ 2 ^ (j + 1) * 2 ^ (q + 1) := Nat.mul_le_mul_left _ (Nat.le_of_lt hq2)
      _ = 2 ^ (j + q + 2) := by rw [← Nat.pow_add, show j + 1 + (q + 1) = j + q + 2 by omega]
  exact ⟨hA, hB, by omega, by omega⟩
end Mine

end
section
open PySem PySem.W PyProof.Rows
set_option maxRecDepth 100000
set_option linter.unusedVariables false
namespace Mine
theorem exp_is {n d j p q : Nat} (hp : n.log2 = p) (hq : d.log2 = q) (hA : 2 ^ j * d ≤ 8 * n) (hB : 8 * n < 2 ^ (j + 1) * d) (l1 : p + 2 ≤ j + q) (l2 : j + q ≤ p + 3) (hj16 : j ≤ 16) : expOf n d = (j : Int) - 55 := by
  unfold expOf
  rw [hp, hq]
  have hl : (p : Int) - q = j - 3 ∨ (p : Int) - q = j - 2 := by omega
  unfold Float64.shift
  rcases hl with hl | hl <;> rw [hl]
  · by_cases hj : j ≤ 3
    · have e8 : (8 : Nat) = 2 ^ j * 2 ^ (3 - j) := by rw [← Nat.pow_add, show j + (3 - j) = 3 by omega]
      have h3 : d ≤ n * 2 ^ (3 - j) := by
        refine Nat.le_of_mul_le_mul_left (c := 2 ^ j) ?_ (Nat.two_pow_pos j)
        calc 2 ^ j * d ≤ 8 * n := hA
          _ = 2 ^ j * (n * 2 ^ (3 - j)) := by rw [e8, Nat.mul_assoc, Nat.mul_comm n]
      rw [if_pos (show -((j : Int) - 3) ≥ 0 by omega), show (-((j : Int) - 3)).toNat = 3 - j by omega]
      dsimp only
      rw [if_pos h3]; omega
    · have e8 : 2 ^ j = 8 * 2 ^ (j - 3) := by rw [show (8 : Nat) = 2 ^ 3 from rfl, ← Nat.pow_add, show 3 + (j - 3) = j by omega]
      have h3 : d * 2 ^ (j - 3) ≤ n := by
        rw [e8, Nat.mul_assoc, Nat.mul_comm (2 ^ (j - 3))] at hA
        exact Nat.le_of_mul_le_mul_left hA (by decide)
      rw [if_neg (show ¬ -((j : Int) - 3) ≥ 0 by omega), show (-(-((j : Int) - 3))).toNat = j - 3 by omega]
      dsimp only
      rw [if_pos h3]; omega
  · by_cases hj : j ≤ 2
    · have e8 : (8 : Nat) = 2 ^ (j + 1) * 2 ^ (2 - j) := by rw [← Nat.pow_add, show j + 1 + (2 - j) = 3 by omega]
      have h3 : n * 2 ^ (2 - j) < d := by
        refine Nat.lt_of_mul_lt_mul_left (a := 2 ^ (j + 1)) ?_
        calc 2 ^ (j + 1) * (n * 2 ^ (2 - j)) = 8 * n := by rw [e8, Nat.mul_assoc, Nat.mul_comm n]
          _ < 2 ^ (j + 1) * d := hB
      rw [if_pos (show -((j : Int) - 2) ≥ 0 by omega), show (-((j : Int) - 2)).toNat = 2 - j by omega]
      dsimp only
      rw [if_neg (Nat.not_le.mpr h3)]; omega
    · have e8 : 2 ^ (j + 1) = 8 * 2 ^ (j - 2) := by rw [show (8 : Nat) = 2 ^ 3 from rfl, ← Nat.pow_add, show 3 + (j - 2) = j + 1 by omega]
      have h3 : n < d * 2 ^ (j - 2) := by
        rw [e8, Nat.mul_assoc, Nat.mul_comm (2 ^ (j - 2))] at hB
        exact Nat.lt_of_mul_lt_mul_left hB
      rw [if_neg (show ¬ -((j : Int) - 2) ≥ 0 by omega), show (-(-((j : Int) - 2))).toNat = j - 2 by omega]
      dsimp only
      rw [if_neg (Nat.not_le.mpr h3)]; omega
theorem round_eighth (k n d : Nat) (hk2 : k < 2 ^ 17) (hd : 0 < d) (h : k * d = 8 * n) : Float64.roundMag n d = magOf k := by
  unfold magOf
  by_cases hk : k = 0
  · subst hk
    have : n = 0 := by omega
    subst this
    unfold Float64.roundMag
    rw [if_pos (by decide), if_pos rfl]
  rw [if_neg hk]
  have hn : n ≠ 0 := by
    intro q; subst q
    have := Nat.mul_pos (Nat.pos_of_ne_zero hk) hd
    omega
  obtain ⟨hA, hB, l1, l2⟩ := logs hk hn (by omega) h
  have hj16 : k.log2 ≤ 16 := by
    have := (Nat.log2_lt hk).mpr hk2; omega
  have he := exp_is rfl rfl hA hB l1 l2 hj16
  have hj2 : k < 2 ^ (k.log2 + 1) := Nat.lt_log2_self
  rw [roundMag_eq n d hn, he]
  clear hA hB l1 l2 he
  generalize k.log2 = j at *
  have hlt : k * 2 ^ (52 - j) < 2 ^ 53 := by
    calc k * 2 ^ (52 - j) < 2 ^ (j + 1) * 2 ^ (52 - j) := Nat.mul_lt_mul_of_pos_right hj2 (Nat.two_pow_pos _)
      _ = 2 ^ 53 := by rw [← Nat.pow_add, show j + 1 + (52 - j) = 53 by omega]
  have hm : n * 2 ^ (55 - j) = k * 2 ^ (52 - j) * d := by
    rw [show 55 - j = 3 + (52 - j) by omega, Nat.pow_add]
    calc n * (2 ^ 3 * 2 ^ (52 - j)) = 8 * n * 2 ^ (52 - j) := by rw [← Nat.mul_assoc, Nat.mul_comm n (2 ^ 3)]
      _ = k * d * 2 ^ (52 - j) := by rw [h]
      _ = _ := by rw [Nat.mul_assoc, Nat.mul_comm d, ← Nat.mul_assoc]
  have hs : Float64.shift n d (-((j : Int) - 55)) = (n * 2 ^ (55 - j), d) := by
    unfold Float64.shift
    rw [if_pos (by omega), show (-((j : Int) - 55)).toNat = 55 - j by omega]
  rw [hs]
  dsimp only
  rw [hm, half_mul _ _ hd, show (((j : Int) - 55) + 1074).toNat = 1019 + j by omega]
  generalize k * 2 ^ (52 - j) = M at *
  have e2 : Float64.infMag = 2047 * 2 ^ 52 := rfl
  rw [e2]
  clear hm hs h hk2 hj2
  have e3 : (2 : Nat) ^ 52 = 4503599627370496 := by decide
  have e4 : (2 : Nat) ^ 53 = 9007199254740992 := by decide
  rw [e4] at hlt
  rw [e3]
  omega
end Mine

end
section
open PySem PySem.W PyProof.Rows
set_option maxRecDepth 100000
set_option linter.unusedVariables false
namespace Mine
def bitsOf (n : Int) : UInt64 := Float64.pack (decide (n < 0)) (magOf n.natAbs)

theorem mag_parts {k : Nat} (hk : k ≠ 0) (hk2 : k < 2 ^ 17) : ∃ j M, k.log2 = j ∧ j ≤ 16 ∧ k * 2 ^ (52 - j) = M ∧ 2 ^ 52 ≤ M ∧ M < 2 ^ 53 ∧ magOf k = (1019 + j) * 2 ^ 52 + M := by
  refine ⟨k.log2, k * 2 ^ (52 - k.log2), rfl, ?_, rfl, ?_, ?_, ?_⟩
  · have := (Nat.log2_lt hk).mpr hk2; omega
  · have hj : k.log2 ≤ 16 := by have := (Nat.log2_lt hk).mpr hk2; omega
    calc 2 ^ 52 = 2 ^ k.log2 * 2 ^ (52 - k.log2) := by rw [← Nat.pow_add, show k.log2 + (52 - k.log2) = 52 by omega]
      _ ≤ _ := Nat.mul_le_mul_right _ (Nat.log2_self_le hk)
  · have hj : k.log2 ≤ 16 := by have := (Nat.log2_lt hk).mpr hk2; omega
    calc k * 2 ^ (52 - k.log2) < 2 ^ (k.log2 + 1) * 2 ^ (52 - k.log2) := Nat.mul_lt_mul_of_pos_right Nat.lt_log2_self (Nat.two_pow_pos _)
      _ = 2 ^ 53 := by rw [← Nat.pow_add, show k.log2 + 1 + (52 - k.log2) = 53 by omega]
  · unfold magOf; rw [if_neg hk]

theorem decode_bits {n : Int} (h0 : n ≠ 0) (hn : n.natAbs < 2 ^ 17) : Float64.decode (bitsOf n) = .fin (decide (n < 0)) (n.natAbs * 2 ^ (52 - n.natAbs.log2)) ((n.natAbs.log2 : Int) - 55) := by
  obtain ⟨j, M, hj, hj16, hM, h1, h2, hm⟩ := mag_parts (k := n.natAbs) (by omega) hn
  rw [hj, hM]
  unfold bitsOf
  rw [hm]
  have e52 : (2 : Nat) ^ 52 = 4503599627370496 := by decide
  have e53 : (2 : Nat) ^ 53 = 9007199254740992 := by decide
  have e63 : (2 : Nat) ^ 63 = 9223372036854775808 := by decide
  rw [e52] at h1 ⊢
  rw [e53] at h2
  have ht := Float64.toNat_pack (decide (n < 0)) (mag := (1019 + j) * 4503599627370496 + M) (by rw [e63]; omega)
  generalize Float64.pack (decide (n < 0)) ((1019 + j) * 4503599627370496 + M) = x at *
  unfold Float64.decode
  simp only [e52, e63] at ht ⊢
  rw [ht]
  generalize decide (n < 0) = neg
  have hs : (if neg = true then 9223372036854775808 else 0) + ((1019 + j) * 4503599627370496 + M) = (if neg = true then 9223372036854775808 else 0) + ((1020 + j) * 4503599627370496 + (M - 4503599627370496)) := by omega
  rw [hs]
  have hf : M - 4503599627370496 < 4503599627370496 := by omega
  generalize hF : M - 4503599627370496 = F at *
  have hMF : M = 4503599627370496 + F := by omega
  have q1 : ((if neg = true then 9223372036854775808 else 0) + ((1020 + j) * 4503599627370496 + F)) / 4503599627370496 % 2048 = 1020 + j := by
    cases neg
    · simp only [Bool.false_eq_true, if_false]; omega
    · simp only [if_true]; omega
  have q2 : ((if neg = true then 9223372036854775808 else 0) + ((1020 + j) * 4503599627370496 + F)) % 4503599627370496 = F := by
    cases neg
    · simp only [Bool.false_eq_true, if_false]; omega
    · simp only [if_true]; omega
  have q3 : (((if neg = true then 9223372036854775808 else 0) + ((1020 + j) * 4503599627370496 + F)) / 9223372036854775808 == 1) = neg := by
    cases neg
    · simp only [Bool.false_eq_true, if_false, beq_eq_false_iff_ne]; omega
    · simp only [if_true, beq_iff_eq]; omega
  rw [q1, q2, q3]
  rw [if_neg (by simp only [beq_iff_eq]; omega), if_neg (by simp only [beq_iff_eq]; omega)]
  rw [hMF]
  have e : (((1020 + j : Nat) : Int) - 1075) = (j : Int) - 55 := by omega
  rw [e]
theorem decode_zero : Float64.decode (bitsOf 0) = .fin false 0 (-1074) := by kernel_rfl

theorem half_scale (x y c : Nat) (hc : 0 < c) : Float64.halfEven (x * c) (y * c) = Float64.halfEven x y := by
  unfold Float64.halfEven
  simp only [Nat.mul_div_mul_right _ _ hc, Nat.mul_mod_mul_right]
  have e1 : decide (2 * (x % y * c) > y * c) = decide (2 * (x % y) > y) := by
    rw [← Nat.mul_assoc]
    exact decide_eq_decide.mpr (Nat.mul_lt_mul_right hc)
  have e2 : (2 * (x % y * c) == y * c) = (2 * (x % y) == y) := by
    rw [← Nat.mul_assoc, Bool.eq_iff_iff, beq_iff_eq, beq_iff_eq]
    exact Nat.mul_left_inj (Nat.ne_of_gt hc)
  rw [e1, e2]
theorem half_eight (s : Nat) : Float64.halfEven s 8 = roundE s := by
  unfold Float64.halfEven roundE
  simp only [Bool.or_eq_true, decide_eq_true_eq, Bool.and_eq_true, beq_iff_eq]
  by_cases h : s % 8 > 4 ∨ (s % 8 = 4 ∧ s / 8 % 2 = 1)
  · rw [if_pos h, if_pos (by omega)]
  · rw [if_neg h, if_neg (by omega)]
end Mine

end
section
open PySem PySem.W PyProof.Rows
set_option maxRecDepth 100000
set_option linter.unusedVariables false
namespace Mine
open Float64

theorem strip_zeros (D : List Char) : ∃ z, D = (D.reverse.dropWhile (· == '0')).reverse ++ List.replicate z '0' := by
  have h := List.takeWhile_append_dropWhile (p := (· == '0')) (l := D.reverse)
  have ht : ∃ z, D.reverse.takeWhile (· == '0') = List.replicate z '0' := by
    refine ⟨(D.reverse.takeWhile (· == '0')).length, ?_⟩
    rw [List.eq_replicate_iff]
    refine ⟨rfl, fun b hb => ?_⟩
    have := List.all_takeWhile (p := (· == '0')) (l := D.reverse)
    rw [List.all_eq_true] at this
    simpa using this b hb
  obtain ⟨z, hz⟩ := ht
  refine ⟨z, ?_⟩
  have h2 := congrArg List.reverse h
  rw [List.reverse_append, List.reverse_reverse, hz, List.reverse_replicate] at h2
  exact h2.symm

/-- the digits D with the point pt places behind their start -/
theorem pointed_eq (D : List Char) (hD : 0 < D.length) (p : Nat) :
    pointed ⟨(D.reverse.dropWhile (· == '0')).reverse, (D.length : Int) - p⟩ p false =
      (if D.length ≤ p then ['0'] else D.take (D.length - p)) ++ (if p > 0 then '.' :: (if D.length ≤ p then List.replicate (p - D.length) '0' ++ D else D.drop (D.length - p)) else []) := by
  obtain ⟨z, hz⟩ := strip_zeros D
  generalize (D.reverse.dropWhile (· == '0')).reverse = s at *
  have hl : D.length = s.length + z := by rw [hz]; simp
  unfold pointed
  simp only [Bool.or_false, decide_eq_true_eq]
  by_cases hp : D.length ≤ p
  · rw [if_pos (by omega), if_pos hp, if_pos hp]
    congr 1
    by_cases hp0 : p > 0
    · rw [if_pos hp0, if_pos hp0]
      congr 1
      have e1 : (-((D.length : Int) - p)).toNat = p - D.length := by omega
      have e2 : ((D.length : Int) - p).toNat = 0 := by omega
      rw [e1, e2, List.drop_zero]
      unfold padRight zeros
      rw [hz]
      simp only [List.length_append, List.length_replicate, List.append_assoc]
      congr 3
      omega
    · omega
  · rw [if_neg (by omega), if_neg hp, if_neg hp]
    have e2 : ((D.length : Int) - p).toNat = D.length - p := by omega
    have e1 : (-((D.length : Int) - p)).toNat = 0 := by omega
    rw [e2]
    have hw : ∀ q, q ≤ D.length → padRight (s.take q) q = D.take q := by
      intro q hq
      unfold padRight zeros
      rw [hz, List.take_append, List.take_replicate, List.length_take]
      congr 2
      omega
    have hw2 : ∀ q, q ≤ D.length → padRight (s.drop q) (D.length - q) = D.drop q := by
      intro q hq
      unfold padRight zeros
      rw [hl, hz, List.drop_append, List.drop_replicate, List.length_drop]
      congr 2
      omega
    rw [hw _ (by omega)]
    congr 1
    by_cases hp0 : p > 0
    · rw [if_pos hp0, if_pos hp0]
      congr 1
      rw [e1]
      unfold zeros
      rw [List.replicate_zero, List.nil_append]
      have := hw2 (D.length - p) (by omega)
      rw [show D.length - (D.length - p) = p by omega] at this
      exact this
    · rw [if_neg hp0, if_neg hp0]

/-- the law's digits: at least p and one -/
def fixedBody (c p : Nat) : List Nat := (padTo (p + 1) (dec c)).take ((padTo (p + 1) (dec c)).length - p) ++ (if p > 0 then 46 :: (padTo (p + 1) (dec c)).drop ((padTo (p + 1) (dec c)).length - p) else [])

theorem pointed_dec (c p : Nat) : (pointed (Digits.of c (-(p : Int))) p false).map Char.toNat = fixedBody c p := by
  have e : Digits.of c (-(p : Int)) = ⟨((Nat.toDigits 10 c).reverse.dropWhile (· == '0')).reverse, ((Nat.toDigits 10 c).length : Int) - p⟩ := by
    unfold Digits.of
    rw [Nat.toList_repr]
    simp only []
    congr 1
    omega
  have hD : 0 < (Nat.toDigits 10 c).length := List.length_pos_iff.mpr Nat.toDigits_ne_nil
  rw [e, pointed_eq _ hD]
  unfold fixedBody padTo
  have hdl : (dec c).length = (Nat.toDigits 10 c).length := by unfold dec; simp
  rw [hdl]
  have hd : dec c = (Nat.toDigits 10 c).map Char.toNat := rfl
  rw [hd]
  generalize Nat.toDigits 10 c = D at *
  by_cases hp : D.length ≤ p
  · rw [if_pos hp, if_pos hp]
    have e1 : (List.replicate (p + 1 - D.length) 48 ++ D.map Char.toNat).length - p = 1 := by simp; omega
    rw [e1]
    have e2 : p + 1 - D.length = (p - D.length) + 1 := by omega
    rw [e2, List.replicate_succ]
    simp only [List.cons_append, List.take_succ_cons, List.take_zero, List.drop_succ_cons, List.drop_zero, List.map_append, List.map_cons, List.map_nil]
    by_cases hp0 : p > 0
    · rw [if_pos hp0, if_pos hp0]
      simp
    · rw [if_neg hp0, if_neg hp0]
      simp
  · rw [if_neg hp, if_neg hp]
    have e2 : p + 1 - D.length = 0 := by omega
    rw [e2]
    simp only [List.replicate_zero, List.nil_append, List.length_map]
    by_cases hp0 : p > 0
    · rw [if_pos hp0, if_pos hp0]
      simp [List.map_take, List.map_drop]
    · rw [if_neg hp0, if_neg hp0]
      simp [List.map_take]
theorem pointed_zero (p : Nat) : (pointed ⟨[], 1⟩ p false).map Char.toNat = fixedBody 0 p := by
  have e : dec 0 = [48] := rfl
  unfold fixedBody padTo
  rw [e]
  have e2 : List.replicate (p + 1 - [48].length) 48 ++ [48] = 48 :: List.replicate p 48 := by
    rw [show p + 1 - [48].length = p by simp, ← List.replicate_succ', List.replicate_succ]
  rw [e2]
  have e3 : (48 :: List.replicate p 48).length - p = 1 := by simp
  rw [e3]
  unfold pointed padRight zeros
  by_cases hp : p > 0
  · simp [hp]
  · simp [hp]
end Mine

end
section
open PySem PySem.W PyProof.Rows PySem.Builtin PySem.Builtin.Float PySem.Flt
set_option maxRecDepth 100000
set_option linter.unusedVariables false
namespace Mine

theorem groupLoop_nat : ∀ (fuel : Nat) (ds : List Char) (room : Int) (out : List Char), (groupLoop' ',' fuel ds room out).map Char.toNat = Num.groupsFromRight 3 44 fuel (ds.map Char.toNat) room (out.map Char.toNat)
  | 0, ds, room, out => by rw [groupLoop_zero]; rfl
  | fuel + 1, ds, room, out => by
    rw [groupLoop_succ]
    unfold Num.groupsFromRight
    simp only [List.length_map]
    generalize min 3 (max (max (ds.length : Int) room) 1).toNat = l
    have e0 : (Float64.zeros (l - ds.length) ++ (ds.take l).reverse ++ out).map Char.toNat = List.replicate (l - ds.length) 48 ++ ((ds.map Char.toNat).take l).reverse ++ out.map Char.toNat := by
      unfold Float64.zeros
      simp [List.map_take]
    have e1 : ((ds.map Char.toNat).drop l).isEmpty = (ds.drop l).isEmpty := by
      rw [← List.map_drop]; cases ds.drop l <;> rfl
    rw [e1, ← e0, ← List.map_drop]
    split
    · rfl
    · have := groupLoop_nat fuel (ds.drop l) (room - l - 1) (',' :: (Float64.zeros (l - ds.length) ++ (ds.take l).reverse ++ out))
      rw [this]
      rfl
theorem grouped_comma (w : List Char) (hw : w ≠ []) : (grouped' w 0 (some ',')).map Char.toNat = lawGroup (w.map Char.toNat) := by
  show (groupLoop' ',' (w.length + 0 + 1) w.reverse 0 []).map Char.toNat = _
  rw [groupLoop_nat, List.map_reverse, List.map_nil, groups_eq _ _ _ _ (by simp) (by simpa using hw) (by omega), List.append_nil]
theorem grouped_none (w : List Char) : grouped' w 0 none = w := by
  show Float64.zeros ((0 : Int).toNat - w.length) ++ w = w
  simp [Float64.zeros]

theorem digit_iff (c : Char) : c.isDigit = (decide (48 ≤ c.toNat) && decide (c.toNat ≤ 57)) := by
  unfold Char.isDigit Char.toNat
  rfl
theorem span_loop {r : List Char} (hr : r = [] ∨ ∃ q, r = '.' :: q) : ∀ (w acc : List Char), (∀ c ∈ w, c.isDigit = true) → List.span.loop Char.isDigit (w ++ r) acc = (acc.reverse ++ w, r)
  | [], acc, _ => by
    rcases hr with rfl | ⟨q, rfl⟩
    · simp [List.span.loop]
    · have h : ('.' : Char).isDigit = false := by decide
      simp [List.span.loop, h]
  | c :: w, acc, h => by
    have hc := h c (.head _)
    simp only [List.cons_append, List.span.loop, hc]
    rw [span_loop hr w (c :: acc) fun d hd => h d (.tail _ hd)]
    simp
theorem span_split {w r : List Char} (hw : ∀ c ∈ w, c.isDigit = true) (hr : r = [] ∨ ∃ q, r = '.' :: q) : (w ++ r).span Char.isDigit = (w, r) := by
  unfold List.span
  rw [span_loop hr w [] hw]
  rfl

theorem field_eq {f : FormatSpec} (hf : f.fill = 32) (ha : f.align = 62) (hwd : f.width = none) (hg : f.grouping = none ∨ f.grouping = some ',') (neg : Bool) {body : List Char} {H T : List Nat} (h : body.map Char.toNat = H ++ T) (hH : ∀ c ∈ H, 48 ≤ c ∧ c ≤ 57) (hne : H ≠ []) (hT : T = [] ∨ ∃ q, T = 46 :: q) :
    numberField f neg body = ⟨((signOf f neg).map Char.toNat ++ (if f.grouping = none then H else lawGroup H) ++ T).toArray⟩ := by
  obtain ⟨w, r, rfl, rfl, rfl⟩ := List.map_eq_append_iff.mp h
  have hw : ∀ c ∈ w, c.isDigit = true := fun c hc => by
    have := hH _ (List.mem_map_of_mem hc)
    rw [digit_iff]; simp [this.1, this.2]
  have hr : r = [] ∨ ∃ q, r = '.' :: q := by
    rcases hT with h | ⟨q, h⟩
    · left; simpa using h
    · right
      cases r with
      | nil => cases h
      | cons a s =>
        simp only [List.map_cons, List.cons.injEq] at h
        refine ⟨s, ?_⟩
        have : a = '.' := by
          apply Char.ext
          apply UInt32.toNat_inj.mp
          exact h.1
        rw [this]
  have hwne : w ≠ [] := by intro q; subst q; exact hne rfl
  rw [numberField_eq, span_split hw hr]
  unfold laidOut digitsOf widthOf
  have hwe : w.isEmpty = false := by cases w with
    | nil => exact absurd rfl hwne
    | cons _ _ => rfl
  simp only [hf, ha, hwd, hwe, Bool.false_eq_true, if_false, show ((32 : Nat) == 48) = false from rfl, show ((62 : Nat) == 60) = false from rfl, show ((62 : Nat) == 94) = false from rfl, show ((62 : Nat) == 61) = false from rfl, Bool.false_and]
  have hpad : ∀ a b c : Nat, ((-1 : Int) - ((a : Int) + b) - c).toNat = 0 := fun a b c => by omega
  rw [hpad]
  rcases hg with hg | hg
  · rw [hg, grouped_none]
    simp
  · rw [hg]
    simp [grouped_comma w hwne]
end Mine

end
section
open PySem PySem.W PyProof.Rows PySem.Builtin PySem.Builtin.Float PySem.Flt
set_option maxRecDepth 100000
set_option linter.unusedVariables false
namespace Mine

theorem shift_bits (m j : Nat) (hj : j ≤ 16) : Float64.shift m 1 ((j : Int) - 55) = (m, 1 * 2 ^ (55 - j)) := by
  unfold Float64.shift
  rw [if_neg (by omega), show (-((j : Int) - 55)).toNat = 55 - j by omega]
theorem log_small {k : Nat} (hk : k ≠ 0) (h : k < 2 ^ 17) : k.log2 ≤ 16 := by
  have := (Nat.log2_lt hk).mpr h; omega
theorem eight_pow {j : Nat} (hj : j ≤ 16) : 1 * 2 ^ (55 - j) = 8 * 2 ^ (52 - j) := by
  rw [Nat.one_mul, show 55 - j = 3 + (52 - j) by omega, Nat.pow_add]

theorem text_f (n : Int) (hn : n.natAbs < 2 ^ 17) (p : Nat) : ∃ body, Float64.text (bitsOf n) 'f' p false false false = (decide (n < 0), body) ∧ body.map Char.toNat = fixedBody (roundE (n.natAbs * 10 ^ p)) p := by
  by_cases h0 : n = 0
  · subst h0
    refine ⟨Float64.pointed ⟨[], 1⟩ p false, ?_, ?_⟩
    · unfold Float64.text
      rw [decode_zero]
      rfl
    · rw [pointed_zero]
      have : roundE ((0 : Int).natAbs * 10 ^ p) = 0 := by
        rw [Int.natAbs_zero, Nat.zero_mul]; rfl
      rw [this]
  · have hk : n.natAbs ≠ 0 := by omega
    have hj := log_small hk hn
    refine ⟨Float64.pointed (Float64.Digits.of (roundE (n.natAbs * 10 ^ p)) (-(p : Int))) p false, ?_, pointed_dec _ _⟩
    have hfx : Float64.fixed (n.natAbs * 2 ^ (52 - n.natAbs.log2)) (1 * 2 ^ (55 - n.natAbs.log2)) p = Float64.Digits.of (roundE (n.natAbs * 10 ^ p)) (-(p : Int)) := by
      unfold Float64.fixed Float64.shift10
      rw [if_pos (by omega)]
      dsimp only
      rw [eight_pow hj, Int.toNat_natCast, Nat.mul_right_comm, half_scale _ _ _ (Nat.two_pow_pos _), half_eight]
    have hm : (n.natAbs * 2 ^ (52 - n.natAbs.log2) == 0) = false := by
      rw [beq_eq_false_iff_ne]
      exact Nat.ne_of_gt (Nat.mul_pos (Nat.pos_of_ne_zero hk) (Nat.two_pow_pos _))
    unfold Float64.text
    rw [decode_bits h0 hn]
    dsimp only
    rw [shift_bits _ _ hj]
    dsimp only
    rw [hm, hfx]
    generalize Float64.Digits.of (roundE (n.natAbs * 10 ^ p)) (-(p : Int)) = x
    simp

theorem head_digits (c p : Nat) : (∀ d ∈ (padTo (p + 1) (dec c)).take ((padTo (p + 1) (dec c)).length - p), 48 ≤ d ∧ d ≤ 57) ∧ (padTo (p + 1) (dec c)).take ((padTo (p + 1) (dec c)).length - p) ≠ [] := by
  constructor
  · intro d hd
    have h1 := List.mem_of_mem_take hd
    unfold padTo at h1
    rcases List.mem_append.mp h1 with h2 | h2
    · have := List.eq_of_mem_replicate h2; omega
    · exact dec_digits c d h2
  · intro h
    have h1 := congrArg List.length h
    simp only [List.length_take, List.length_nil] at h1
    have : p + 1 ≤ (padTo (p + 1) (dec c)).length := by unfold padTo; simp; omega
    omega

theorem fmt_fixed (n : Int) (hn : n.natAbs < 2 ^ 17) (k p : Nat) (comma plus : Bool) (f : FormatSpec) (hsp : Txt.floatSpec ⟨(pform k).toArray⟩ = f) (hft : ∀ x, floatText x f = numberField f (Float64.text x 'f' p false false false).1 (Float64.text x 'f' p false false false).2)
    (hf : f.fill = 32) (ha : f.align = 62) (hwd : f.width = none) (hg : f.grouping = if comma then some ',' else none) (hs : f.sign = if plus then some 43 else none) : fmtF (bitsOf n) k = lawFixed n p comma plus := by
  unfold fmtF Txt.fmtFloat
  rw [hsp, hft]
  obtain ⟨body, hb, hbm⟩ := text_f n hn p
  rw [hb]
  dsimp only
  unfold fixedBody at hbm
  obtain ⟨h1, h2⟩ := head_digits (roundE (n.natAbs * 10 ^ p)) p
  rw [field_eq hf ha hwd (by rw [hg]; cases comma <;> simp) _ hbm h1 h2 (by split <;> simp)]
  unfold lawFixed signOf
  rw [hg, hs]
  simp only []
  cases comma <;> cases plus <;> (by_cases hneg : n < 0) <;> simp [hneg]

theorem fmtF_fixed (n : Int) (hn : n.natAbs < 2 ^ 17) (k : Nat) (hk : 1 ≤ k) (hk2 : k < 7) : fmtF (bitsOf n) k = lawDecimal n k := by
  match k, hk, hk2 with
  | 1, _, _ => exact fmt_fixed n hn 1 0 false false _ rfl (fun x => rfl) rfl rfl rfl rfl rfl
  | 2, _, _ => exact fmt_fixed n hn 2 1 false false _ rfl (fun x => rfl) rfl rfl rfl rfl rfl
  | 3, _, _ => exact fmt_fixed n hn 3 2 false false _ rfl (fun x => rfl) rfl rfl rfl rfl rfl
  | 4, _, _ => exact fmt_fixed n hn 4 3 false false _ rfl (fun x => rfl) rfl rfl rfl rfl rfl
  | 5, _, _ => exact fmt_fixed n hn 5 2 false true _ rfl (fun x => rfl) rfl rfl rfl rfl rfl
  | 6, _, _ => exact fmt_fixed n hn 6 1 true false _ rfl (fun x => rfl) rfl rfl rfl rfl rfl
end Mine

end
section
open PySem PySem.W PyProof.Rows PySem.Builtin PySem.Builtin.Float PySem.Flt
set_option maxRecDepth 100000
set_option linter.unusedVariables false
namespace Mine
def ab (k : Nat) (K : Int) : Bool := if K ≤ 0 then decide (k * 10 ^ (-K).toNat < 8) else decide (k < 8 * 10 ^ K.toNat)
def fa (k : Nat) : Nat → Int → Int
  | 0, K => K
  | t + 1, K => if ab k K then K else fa k t (K + 1)
theorem firstAbove_eq (k c : Nat) (hc : 0 < c) : ∀ (t : Nat) (K : Int), Float64.firstAbove (k * c) (8 * c) t K = fa k t K
  | 0, K => rfl
  | t + 1, K => by
    unfold Float64.firstAbove fa
    rw [firstAbove_eq k c hc t (K + 1)]
    unfold Float64.shift10 ab
    by_cases hK : K ≤ 0
    · rw [if_pos (by omega), if_pos hK]
      dsimp only
      have e : (k * c * 10 ^ (-K).toNat < 8 * c) ↔ (k * 10 ^ (-K).toNat < 8) := by
        rw [Nat.mul_right_comm]; exact Nat.mul_lt_mul_right hc
      simp only [e, decide_eq_true_eq]
    · rw [if_neg (by omega), if_neg hK]
      dsimp only
      have e : (k * c < 8 * c * 10 ^ (- -K).toNat) ↔ (k < 8 * 10 ^ K.toNat) := by
        rw [Int.neg_neg, Nat.mul_right_comm]; exact Nat.mul_lt_mul_right hc
      simp only [e, decide_eq_true_eq]
def wd (k : Nat) : Nat := if k < 8 then 0 else if k < 80 then 1 else if k < 800 then 2 else if k < 8000 then 3 else if k < 80000 then 4 else 5
theorem fa_is (k j : Nat) (hk : k ≤ 80000) (hj : k.log2 = j) (hk0 : k ≠ 0) : fa k 3 (((j : Int) - 3) * 30103 / 100000) = wd k := by
  have h1 : 2 ^ j ≤ k := hj ▸ Nat.log2_self_le hk0
  have h2 : k < 2 ^ (j + 1) := hj ▸ Nat.lt_log2_self
  have hj16 : j ≤ 16 := by rw [← hj]; exact log_small hk0 (by omega)
  clear hj
  have hc : j = 0 ∨ j = 1 ∨ j = 2 ∨ j = 3 ∨ j = 4 ∨ j = 5 ∨ j = 6 ∨ j = 7 ∨ j = 8 ∨ j = 9 ∨ j = 10 ∨ j = 11 ∨ j = 12 ∨ j = 13 ∨ j = 14 ∨ j = 15 ∨ j = 16 := by omega
  have r : ∀ K : Int, K = -1 ∨ K = 0 ∨ K = 1 ∨ K = 2 ∨ K = 3 → fa k 3 K = if ab k K then K else if ab k (K + 1) then K + 1 else if ab k (K + 2) then K + 2 else K + 3 := by
    intro K _
    unfold fa fa fa fa
    rw [show K + 1 + 1 = K + 2 by omega, show K + 2 + 1 = K + 3 by omega]
  have an : ab k (-1) = decide (k * 10 < 8) := rfl
  have a0 : ab k 0 = decide (k < 8) := by unfold ab; rw [if_pos (by decide)]; simp
  have a1 : ab k 1 = decide (k < 80) := rfl
  have a2 : ab k 2 = decide (k < 800) := rfl
  have a3 : ab k 3 = decide (k < 8000) := rfl
  have a4 : ab k 4 = decide (k < 80000) := rfl
  have a5 : ab k 5 = decide (k < 800000) := rfl
  rcases hc with rfl | rfl | rfl | rfl | rfl | rfl | rfl | rfl | rfl | rfl | rfl | rfl | rfl | rfl | rfl | rfl | rfl
  case' inl => rw [show ((((0 : Nat) : Int) - 3) * 30103 / 100000) = -1 by decide]
  case' inr.inl => rw [show ((((1 : Nat) : Int) - 3) * 30103 / 100000) = -1 by decide]
  case' inr.inr.inl => rw [show ((((2 : Nat) : Int) - 3) * 30103 / 100000) = -1 by decide]
  case' inr.inr.inr.inl => rw [show ((((3 : Nat) : Int) - 3) * 30103 / 100000) = 0 by decide]
  case' inr.inr.inr.inr.inl => rw [show ((((4 : Nat) : Int) - 3) * 30103 / 100000) = 0 by decide]
  case' inr.inr.inr.inr.inr.inl => rw [show ((((5 : Nat) : Int) - 3) * 30103 / 100000) = 0 by decide]
  case' inr.inr.inr.inr.inr.inr.inl => rw [show ((((6 : Nat) : Int) - 3) * 30103 / 100000) = 0 by decide]
  case' inr.inr.inr.inr.inr.inr.inr.inl => rw [show ((((7 : Nat) : Int) - 3) * 30103 / 100000) = 1 by decide]
  case' inr.inr.inr.inr.inr.inr.inr.inr.inl => rw [show ((((8 : Nat) : Int) - 3) * 30103 / 100000) = 1 by decide]
  case' inr.inr.inr.inr.inr.inr.inr.inr.inr.inl => rw [show ((((9 : Nat) : Int) - 3) * 30103 / 100000) = 1 by decide]
  case' inr.inr.inr.inr.inr.inr.inr.inr.inr.inr.inl => rw [show ((((10 : Nat) : Int) - 3) * 30103 / 100000) = 2 by decide]
  case' inr.inr.inr.inr.inr.inr.inr.inr.inr.inr.inr.inl => rw [show ((((11 : Nat) : Int) - 3) * 30103 / 100000) = 2 by decide]
  case' inr.inr.inr.inr.inr.inr.inr.inr.inr.inr.inr.inr.inl => rw [show ((((12 : Nat) : Int) - 3) * 30103 / 100000) = 2 by decide]
  case' inr.inr.inr.inr.inr.inr.inr.inr.inr.inr.inr.inr.inr.inl => rw [show ((((13 : Nat) : Int) - 3) * 30103 / 100000) = 3 by decide]
  case' inr.inr.inr.inr.inr.inr.inr.inr.inr.inr.inr.inr.inr.inr.inl => rw [show ((((14 : Nat) : Int) - 3) * 30103 / 100000) = 3 by decide]
  case' inr.inr.inr.inr.inr.inr.inr.inr.inr.inr.inr.inr.inr.inr.inr.inl => rw [show ((((15 : Nat) : Int) - 3) * 30103 / 100000) = 3 by decide]
  case' inr.inr.inr.inr.inr.inr.inr.inr.inr.inr.inr.inr.inr.inr.inr.inr => rw [show ((((16 : Nat) : Int) - 3) * 30103 / 100000) = 3 by decide]
  all_goals
    rw [r _ (by decide)]
    simp only [Int.reduceAdd, Int.reduceNeg, an, a0, a1, a2, a3, a4, a5, decide_eq_true_eq]
    unfold wd
    simp only [Nat.reducePow, Nat.reduceAdd] at h1 h2
    (repeat' split) <;> omega
end Mine

end
section
open PySem PySem.W PyProof.Rows PySem.Builtin PySem.Builtin.Float PySem.Flt
set_option maxRecDepth 100000
set_option linter.unusedVariables false
namespace Mine
open Float64

theorem dp_is {k : Nat} (hk0 : k ≠ 0) (hk : k ≤ 80000) : decimalPoint (k * 2 ^ (52 - k.log2)) (8 * 2 ^ (52 - k.log2)) = wd k := by
  obtain ⟨j, M, hj, hj16, hM, h1, h2, _⟩ := mag_parts hk0 (show k < 2 ^ 17 by omega)
  have l1 : (k * 2 ^ (52 - j)).log2 = 52 := by
    rw [hM]
    exact (Nat.log2_eq_iff (by have := Nat.two_pow_pos 52; omega)).mpr ⟨h1, h2⟩
  have l2 : (8 * 2 ^ (52 - j)).log2 = 55 - j := by
    rw [show (8 : Nat) = 2 ^ 3 from rfl, ← Nat.pow_add, Nat.log2_two_pow]; omega
  unfold decimalPoint
  rw [hj, l1, l2]
  dsimp only
  rw [firstAbove_eq k _ (Nat.two_pow_pos _), show ((52 : Nat) : Int) - ((55 - j : Nat) : Int) = (j : Int) - 3 by omega]
  exact fa_is k j hk hj hk0

theorem dw_head {p : Char → Bool} : ∀ {l : List Char} {a : Char} {r : List Char}, l.dropWhile p = a :: r → p a = false
  | [], _, _, h => by simp at h
  | b :: l, a, r, h => by
    rw [List.dropWhile_cons] at h
    split at h
    · exact dw_head h
    · rename_i hb
      simp only [List.cons.injEq] at h
      rw [← h.1]; simpa using hb

theorem lt_pow_dec (n : Nat) : n < 10 ^ (dec n).length := by
  induction n using Nat.strongRecOn with
  | ind n ih =>
    by_cases h : n < 10
    · rw [dec_small h]; simpa using h
    · rw [dec_step (by omega)]
      have := ih (n / 10) (by omega)
      simp only [List.length_append, List.length_cons, List.length_nil, Nat.pow_succ]
      omega

theorem cut48 (A P : List Nat) (y : Nat) (hP : ∀ a r, P.reverse = a :: r → a ≠ 48) : cutEnd 48 ((A ++ [46]) ++ (P ++ List.replicate y 48)) = (A ++ [46]) ++ P := by
  unfold cutEnd
  have e : ((A ++ [46]) ++ (P ++ List.replicate y 48)).reverse = List.replicate y 48 ++ (P.reverse ++ (46 :: A.reverse)) := by simp
  rw [e, List.dropWhile_append_of_pos (by intro a ha; rw [List.eq_of_mem_replicate ha]; rfl)]
  have e2 : (P.reverse ++ (46 :: A.reverse)).dropWhile (· == 48) = P.reverse ++ (46 :: A.reverse) := by
    cases h : P.reverse with
    | nil => simp
    | cons a r =>
      have := hP a r h
      simp [List.dropWhile_cons, this]
  rw [e2]
  simp
theorem cut46 (A P : List Nat) (hA : ∀ a r, A.reverse = a :: r → a ≠ 46) (hP : ∀ a r, P.reverse = a :: r → a ≠ 46) : cutEnd 46 ((A ++ [46]) ++ P) = A ++ (if P = [] then [] else 46 :: P) := by
  unfold cutEnd
  have e : ((A ++ [46]) ++ P).reverse = P.reverse ++ (46 :: A.reverse) := by simp
  rw [e]
  by_cases hp : P = []
  · subst hp
    rw [if_pos rfl]
    have e2 : A.reverse.dropWhile (· == 46) = A.reverse := by
      cases h : A.reverse with
      | nil => rfl
      | cons a r =>
        have := hA a r h
        simp [List.dropWhile_cons, this]
    simp [List.dropWhile_cons, e2]
  · rw [if_neg hp]
    cases h : P.reverse with
    | nil => exact absurd (by simpa using h) hp
    | cons a r =>
      have := hP a r h
      simp only [List.cons_append, List.dropWhile_cons, beq_eq_false_iff_ne.mpr this, Bool.false_eq_true, if_false]
      rw [← List.cons_append, ← h]
      simp

/-- six figures without noughts at the end: digits D, the point q places behind their start -/
theorem pointed_g (D : List Char) (q : Nat) (hq : q ≤ D.length) : ∃ (s : List Char) (y : Nat), (D.reverse.dropWhile (· == '0')).reverse = s ∧ D.drop q = s.drop q ++ List.replicate y '0' ∧ (∀ a r, (s.drop q).reverse = a :: r → a ≠ '0') ∧
    pointed ⟨s, (q : Int)⟩ (max (s.length : Int) ((q : Int) + 0) - (q : Int)).toNat false = (if q = 0 then ['0'] else D.take q) ++ (if s.drop q = [] then [] else '.' :: s.drop q) := by
  obtain ⟨z, hz⟩ := strip_zeros D
  have hlast : ∀ a r, (D.reverse.dropWhile (· == '0')).reverse.reverse = a :: r → a ≠ '0' := by
    intro a r h
    rw [List.reverse_reverse] at h
    have := dw_head h
    simpa using this
  generalize (D.reverse.dropWhile (· == '0')).reverse = s at *
  have hl : D.length = s.length + z := by rw [hz]; simp
  refine ⟨s, z - (q - s.length), rfl, ?_, ?_, ?_⟩
  · rw [hz, List.drop_append, List.drop_replicate]
  · intro a r h
    have hne : s.drop q ≠ [] := by intro e; rw [e] at h; cases h
    have e : s.reverse = (s.drop q).reverse ++ (s.take q).reverse := by rw [← List.reverse_append, List.take_append_drop]
    rw [h] at e
    exact hlast a _ e
  · have hf : (max (s.length : Int) ((q : Int) + 0) - (q : Int)).toNat = (s.drop q).length := by simp; omega
    rw [hf]
    unfold pointed
    have e1 : (-(q : Int)).toNat = 0 := by omega
    simp only [Int.toNat_natCast, e1]
    have hW : (if (q : Int) ≤ 0 then ['0'] else padRight (s.take q) q) = (if q = 0 then ['0'] else D.take q) := by
      by_cases h0 : q = 0
      · rw [if_pos (by omega), if_pos h0]
      · rw [if_neg (by omega), if_neg h0]
        unfold padRight zeros
        rw [hz, List.take_append, List.take_replicate, List.length_take]
        congr 2
        omega
    rw [hW]
    congr 1
    have hz0 : zeros 0 = ([] : List Char) := rfl
    rw [hz0, List.nil_append]
    unfold padRight zeros
    rw [Nat.sub_self, List.replicate_zero, List.append_nil]
    by_cases hp : s.drop q = []
    · rw [hp]; simp
    · rw [if_neg hp, if_pos (by have := List.length_pos_iff.mpr hp; simp only [Bool.or_false, decide_eq_true_eq]; exact this)]
end Mine

end
section
open PySem PySem.W PyProof.Rows PySem.Builtin PySem.Builtin.Float PySem.Flt
set_option maxRecDepth 100000
set_option linter.unusedVariables false
namespace Mine
open Float64

theorem wd_le (k : Nat) : wd k ≤ 5 := by unfold wd; (repeat' split) <;> omega
theorem six_range {k : Nat} (hk0 : k ≠ 0) (hk : k ≤ 80000) : 10 ^ 5 ≤ roundE (k * 10 ^ (6 - wd k)) ∧ roundE (k * 10 ^ (6 - wd k)) < 10 ^ 7 := by
  have hr : ∀ s, s / 8 ≤ roundE s ∧ roundE s ≤ s / 8 + 1 := by
    intro s; unfold roundE; split <;> omega
  obtain ⟨a, b⟩ := hr (k * 10 ^ (6 - wd k))
  have key : 800000 ≤ k * 10 ^ (6 - wd k) ∧ k * 10 ^ (6 - wd k) ≤ 8000000 := by
    unfold wd
    (repeat' split) <;> (simp only [Nat.sub_zero, Nat.reduceSub, Nat.reducePow]; omega)
  have e5 : (10 : Nat) ^ 5 = 100000 := rfl
  have e7 : (10 : Nat) ^ 7 = 10000000 := rfl
  omega

theorem dec_len_ge {n m : Nat} (h : 10 ^ m ≤ n) : m < (dec n).length := by
  have := lt_pow_dec n
  exact (Nat.pow_lt_pow_iff_right (a := 10) (by decide)).mp (Nat.lt_of_le_of_lt h this)

theorem text_g (n : Int) (h0 : n ≠ 0) (hn : n.natAbs ≤ 80000) (D : List Char) (q : Nat) (hD : D = Nat.toDigits 10 (roundE (n.natAbs * 10 ^ (6 - wd n.natAbs)))) (hq : q + (6 - wd n.natAbs) = D.length) :
    ∃ (s : List Char) (y : Nat), D.drop q = s.drop q ++ List.replicate y '0' ∧ (∀ a r, (s.drop q).reverse = a :: r → a ≠ '0') ∧
      Float64.text (bitsOf n) 'g' 6 false false false = (decide (n < 0), (if q = 0 then ['0'] else D.take q) ++ (if s.drop q = [] then [] else '.' :: s.drop q)) := by
  have hk0 : n.natAbs ≠ 0 := by omega
  have hn17 : n.natAbs < 2 ^ 17 := by omega
  have hj := log_small hk0 hn17
  obtain ⟨r1, r2⟩ := six_range hk0 hn
  have hL7 : D.length ≤ 7 := by
    have : (dec (roundE (n.natAbs * 10 ^ (6 - wd n.natAbs)))).length ≤ 6 + 1 := dec_len_le 6 _ r2
    rw [hD]; unfold dec at this; simpa using this
  have hwd := wd_le n.natAbs
  obtain ⟨s, y, hs, h1, h2, h3⟩ := pointed_g D q (by omega)
  refine ⟨s, y, h1, h2, ?_⟩
  have hsig : significant (n.natAbs * 2 ^ (52 - n.natAbs.log2)) (8 * 2 ^ (52 - n.natAbs.log2)) 6 = ⟨s, (q : Int)⟩ := by
    unfold significant
    rw [dp_is hk0 hn]
    dsimp only
    have hpos : (((6 : Nat) : Int) - ((wd n.natAbs : Nat) : Int)) ≥ 0 := by omega
    unfold shift10
    rw [if_pos hpos, show ((((6 : Nat) : Int) - ((wd n.natAbs : Nat) : Int))).toNat = 6 - wd n.natAbs by omega]
    dsimp only
    rw [Nat.mul_right_comm, half_scale _ _ _ (Nat.two_pow_pos _), half_eight]
    unfold Digits.of
    rw [Nat.toList_repr, ← hD]
    dsimp only
    rw [hs]
    congr 1
    omega
  have hm : (n.natAbs * 2 ^ (52 - n.natAbs.log2) == 0) = false := by
    rw [beq_eq_false_iff_ne]
    exact Nat.ne_of_gt (Nat.mul_pos (Nat.pos_of_ne_zero hk0) (Nat.two_pow_pos _))
  unfold Float64.text
  rw [decode_bits h0 hn17]
  dsimp only
  rw [shift_bits _ _ hj, eight_pow hj]
  dsimp only
  rw [hm, show max 6 1 = 6 from rfl, hsig]
  have hc : (decide ((q : Int) ≤ -4) || decide ((q : Int) > ((6 : Nat) : Int))) = false := by
    simp only [Bool.or_eq_false_iff, decide_eq_false_iff_not]
    omega
  simp only [Bool.false_eq_true, if_false, show ('g' == 'e') = false from rfl, show ('g' == 'f') = false from rfl, show ('g' == 'g') = true from rfl, if_true, hc, Bool.false_and, Bool.and_true, Bool.not_false]
  rw [h3]

theorem g_zero : fmtF (bitsOf 0) 0 = lawSix 0 := by decide +kernel
end Mine

end
section
open PySem PySem.W PyProof.Rows PySem.Builtin PySem.Builtin.Float PySem.Flt
set_option maxRecDepth 100000
set_option linter.unusedVariables false
namespace Mine
open Float64

theorem places_eq {k : Nat} (hk : k ≤ 80000) : (if k / 8 > 0 then 6 - (dec (k / 8)).length else 6) = 6 - wd k := by
  by_cases h8 : k < 8
  · rw [if_neg (by omega)]; unfold wd; rw [if_pos h8]
  · rw [if_pos (by omega)]
    congr 1
    have hl : ∀ m, k / 8 < 10 ^ (m + 1) → 10 ^ m ≤ k / 8 → (dec (k / 8)).length = m + 1 := fun m h1 h2 => by
      have := dec_len_le m _ h1
      have := dec_len_ge h2
      omega
    unfold wd
    rw [if_neg h8]
    have e0 : (10 : Nat) ^ 0 = 1 := rfl
    have e1 : (10 : Nat) ^ (0 + 1) = 10 := rfl
    have e2 : (10 : Nat) ^ (1 + 1) = 100 := rfl
    have e3 : (10 : Nat) ^ (2 + 1) = 1000 := rfl
    have e4 : (10 : Nat) ^ (3 + 1) = 10000 := rfl
    have e5 : (10 : Nat) ^ (4 + 1) = 100000 := rfl
    split
    · exact hl 0 (by omega) (by omega)
    · split
      · exact hl 1 (by omega) (by have : (10 : Nat) ^ 1 = 10 := rfl
                                  omega)
      · split
        · exact hl 2 (by omega) (by have : (10 : Nat) ^ 2 = 100 := rfl
                                    omega)
        · split
          · exact hl 3 (by omega) (by have : (10 : Nat) ^ 3 = 1000 := rfl
                                      omega)
          · exact hl 4 (by omega) (by have : (10 : Nat) ^ 4 = 10000 := rfl
                                      omega)

theorem g_text (x : UInt64) : Txt.fmtFloat x ⟨(pform 0).toArray⟩ = numberField { fill := 32, align := 62, type := some 103 } (Float64.text x 'g' 6 false false false).1 (Float64.text x 'g' 6 false false false).2 := by kernel_rfl

theorem fmt_six (n : Int) (hn : n.natAbs ≤ 80000) : fmtF (bitsOf n) 0 = lawSix n := by
  by_cases h0 : n = 0
  · subst h0; exact g_zero
  have hk0 : n.natAbs ≠ 0 := by omega
  obtain ⟨r1, r2⟩ := six_range hk0 hn
  have hwd := wd_le n.natAbs
  let p := 6 - wd n.natAbs
  have hp : p = 6 - wd n.natAbs := rfl
  let D := Nat.toDigits 10 (roundE (n.natAbs * 10 ^ (6 - wd n.natAbs)))
  have hDd : dec (roundE (n.natAbs * 10 ^ (6 - wd n.natAbs))) = D.map Char.toNat := rfl
  have hL : 6 ≤ D.length := by
    have := dec_len_ge r1
    rw [hDd, List.length_map] at this; omega
  obtain ⟨s, y, h1, h2, h3⟩ := text_g n h0 hn D (D.length - p) rfl (by omega)
  have hq : D.length - p + p = D.length := by omega
  generalize hQ : D.length - p = q at *
  have hdig : ∀ c ∈ D.map Char.toNat, 48 ≤ c ∧ c ≤ 57 := fun c hc => dec_digits _ c (by rw [hDd]; exact hc)
  have hsd : ∀ c ∈ (s.drop q).map Char.toNat, 48 ≤ c ∧ c ≤ 57 := fun c hc => by
    obtain ⟨d, hd, rfl⟩ := List.mem_map.mp hc
    exact hdig _ (List.mem_map_of_mem (List.mem_of_mem_drop (by rw [h1]; exact List.mem_append_left _ hd)))
  unfold fmtF
  rw [g_text, h3]
  dsimp only
  -- the law's text
  have hpad : (padTo (p + 1) (D.map Char.toNat)).take ((padTo (p + 1) (D.map Char.toNat)).length - p) = (if q = 0 then ['0'] else D.take q).map Char.toNat ∧
      (padTo (p + 1) (D.map Char.toNat)).drop ((padTo (p + 1) (D.map Char.toNat)).length - p) = (s.drop q).map Char.toNat ++ List.replicate y 48 := by
    have e1 : (s.drop q).map Char.toNat ++ List.replicate y 48 = (D.drop q).map Char.toNat := by rw [h1]; simp
    rw [e1]
    unfold padTo
    by_cases hq0 : q = 0
    · have : D.length = p := by omega
      rw [List.length_map, this, show p + 1 - p = 1 by omega, hq0]
      simp [this]
    · have e2 : p + 1 - (D.map Char.toNat).length = 0 := by rw [List.length_map]; omega
      rw [e2, List.replicate_zero, List.nil_append, List.length_map, hQ, if_neg hq0]
      exact ⟨List.map_take.symm, List.map_drop.symm⟩
  have hWd : ∀ c ∈ (if q = 0 then ['0'] else D.take q).map Char.toNat, 48 ≤ c ∧ c ≤ 57 := by
    intro c hc
    split at hc
    · simp at hc; subst hc; decide
    · rw [List.map_take] at hc
      exact hdig c (List.mem_of_mem_take hc)
  have hWne : (if q = 0 then ['0'] else D.take q).map Char.toNat ≠ [] := by
    split
    · simp
    · rename_i h
      intro e
      have hl : (D.take q).length = q := by rw [List.length_take]; omega
      have e2 : D.take q = [] := by simpa only [List.map_eq_nil_iff] using e
      rw [e2] at hl
      exact h hl.symm
  have hlaw : lawSix n = ((if n < 0 then [45] else []) ++ (if q = 0 then ['0'] else D.take q).map Char.toNat) ++ (if (s.drop q).map Char.toNat = [] then [] else 46 :: (s.drop q).map Char.toNat) := by
    unfold lawSix
    dsimp only
    rw [places_eq hn, ← hp]
    have ht : lawFixed n p false false = (((if n < 0 then [45] else []) ++ (if q = 0 then ['0'] else D.take q).map Char.toNat) ++ [46]) ++ ((s.drop q).map Char.toNat ++ List.replicate y 48) := by
      unfold lawFixed
      dsimp only
      rw [hp, hDd, ← hp, hpad.1, hpad.2, if_pos (show p > 0 by omega)]
      simp
    rw [ht]
    rw [if_pos (by simp)]
    rw [cut48 _ _ _ ?_, cut46 _ _ ?_ ?_]
    · intro a r h
      rw [List.reverse_append] at h
      cases hw : ((if q = 0 then ['0'] else D.take q).map Char.toNat).reverse with
      | nil => exact absurd (by simpa using hw) hWne
      | cons b t =>
        rw [hw] at h
        simp only [List.cons_append, List.cons.injEq] at h
        have := hWd b (by rw [← List.mem_reverse, hw]; exact .head _)
        omega
    · intro a r h
      have := hsd a (by rw [← List.mem_reverse, h]; exact .head _)
      omega
    · intro a r h
      rw [← List.map_reverse] at h
      cases hw : (s.drop q).reverse with
      | nil => rw [hw] at h; cases h
      | cons b t =>
        rw [hw] at h
        simp only [List.map_cons, List.cons.injEq] at h
        have hb := h2 b t hw
        rw [← h.1]
        intro e
        apply hb
        apply Char.ext
        apply UInt32.toNat_inj.mp
        exact e
  rw [hlaw]
  have hbody : ((if q = 0 then ['0'] else D.take q) ++ (if s.drop q = [] then [] else '.' :: s.drop q)).map Char.toNat = (if q = 0 then ['0'] else D.take q).map Char.toNat ++ (if (s.drop q).map Char.toNat = [] then [] else 46 :: (s.drop q).map Char.toNat) := by
    rw [List.map_append]
    congr 1
    by_cases hs : s.drop q = []
    · rw [hs]; rfl
    · rw [if_neg hs, if_neg (by simpa using hs)]; rfl
  rw [field_eq (f := { fill := 32, align := 62, type := some 103 }) rfl rfl rfl (.inl rfl) _ hbody hWd hWne (by split <;> simp)]
  unfold signOf
  by_cases hneg : n < 0 <;> simp [hneg]

theorem fmtF_law (n : Int) (hn : n.natAbs ≤ 80000) (k : Nat) (hk : k < 7) : fmtF (bitsOf n) k = lawDecimal n k := by
  by_cases h0 : k = 0
  · subst h0; exact fmt_six n hn
  · exact fmtF_fixed n (by omega) k (by omega) hk
end Mine

end
section
open PySem PySem.W PyProof.Rows PySem.Builtin PySem.Builtin.Float PySem.Flt
set_option maxRecDepth 100000
set_option linter.unusedVariables false
namespace Mine
open Float64

theorem ofInt_bits (i : Int) (hi : i.natAbs ≤ 10000) : Float64.ofInt i = bitsOf (8 * i) := by
  unfold Float64.ofInt Float64.ofFrac bitsOf
  rw [round_eighth (8 * i).natAbs i.natAbs 1 (by omega) (by decide) (by omega)]
  congr 1
  simp only [decide_eq_decide]
  omega

def isD (c : Char) : Prop := 48 ≤ c.toNat ∧ c.toNat ≤ 57
theorem isD_cases {c : Char} (h : isD c) : c = '0' ∨ c = '1' ∨ c = '2' ∨ c = '3' ∨ c = '4' ∨ c = '5' ∨ c = '6' ∨ c = '7' ∨ c = '8' ∨ c = '9' := by
  have key : ∀ d : Char, c.toNat = d.toNat → c = d := fun d e => Char.ext (UInt32.toNat_inj.mp e)
  obtain ⟨h1, h2⟩ := h
  have hc : c.toNat = 48 ∨ c.toNat = 49 ∨ c.toNat = 50 ∨ c.toNat = 51 ∨ c.toNat = 52 ∨ c.toNat = 53 ∨ c.toNat = 54 ∨ c.toNat = 55 ∨ c.toNat = 56 ∨ c.toNat = 57 := by omega
  rcases hc with e | e | e | e | e | e | e | e | e | e
  · exact .inl (key '0' e)
  · exact .inr (.inl (key '1' e))
  · exact .inr (.inr (.inl (key '2' e)))
  · exact .inr (.inr (.inr (.inl (key '3' e))))
  · exact .inr (.inr (.inr (.inr (.inl (key '4' e)))))
  · exact .inr (.inr (.inr (.inr (.inr (.inl (key '5' e))))))
  · exact .inr (.inr (.inr (.inr (.inr (.inr (.inl (key '6' e)))))))
  · exact .inr (.inr (.inr (.inr (.inr (.inr (.inr (.inl (key '7' e))))))))
  · exact .inr (.inr (.inr (.inr (.inr (.inr (.inr (.inr (.inl (key '8' e)))))))))
  · exact .inr (.inr (.inr (.inr (.inr (.inr (.inr (.inr (.inr (key '9' e)))))))))

theorem more_cons {c : Char} (h : isD c) (r : List Char) : moreDigits (c :: r) = (c :: (moreDigits r).1, (moreDigits r).2) := by
  rcases isD_cases h with rfl | rfl | rfl | rfl | rfl | rfl | rfl | rfl | rfl | rfl <;> (cases r <;> rfl)
theorem more_end {r : List Char} (hr : r = [] ∨ ∃ q, r = '.' :: q) : moreDigits r = ([], r) := by
  rcases hr with rfl | ⟨q, rfl⟩
  · rfl
  · unfold moreDigits; rfl
theorem more_run {r : List Char} (hr : r = [] ∨ ∃ q, r = '.' :: q) : ∀ w : List Char, (∀ c ∈ w, isD c) → moreDigits (w ++ r) = (w, r)
  | [], _ => more_end hr
  | c :: w, h => by
    rw [List.cons_append, more_cons (h c (.head _)), more_run hr w fun d hd => h d (.tail _ hd)]
theorem digit_run {r : List Char} (hr : r = [] ∨ ∃ q, r = '.' :: q) {w : List Char} (hw : w ≠ []) (h : ∀ c ∈ w, isD c) : digitRun (w ++ r) = (w, r) := by
  cases w with
  | nil => exact absurd rfl hw
  | cons c w =>
    have hd : c.isDigit = true := by
      rcases isD_cases (h c (.head _)) with rfl | rfl | rfl | rfl | rfl | rfl | rfl | rfl | rfl | rfl <;> rfl
    show (if c.isDigit = true then (let (ds, t) := moreDigits (w ++ r); (c :: ds, t)) else ([], c :: (w ++ r))) = _
    rw [if_pos hd, more_run hr w fun d hd => h d (.tail _ hd)]

theorem nospace {c : Char} (h : isD c) : isSpace c = false := by
  rcases isD_cases h with rfl | rfl | rfl | rfl | rfl | rfl | rfl | rfl | rfl | rfl <;> rfl
theorem sign_digit {c : Char} (h : isD c) (r : List Char) : readSign (c :: r) = (false, c :: r) := by
  rcases isD_cases h with rfl | rfl | rfl | rfl | rfl | rfl | rfl | rfl | rfl | rfl <;> rfl
theorem special_none {c : Char} (h : isD c) (r : List Char) : dropPrefix? "inf" (c :: r) = none ∧ dropPrefix? "nan" (c :: r) = none := by
  rcases isD_cases h with rfl | rfl | rfl | rfl | rfl | rfl | rfl | rfl | rfl | rfl <;> exact ⟨rfl, rfl⟩

theorem parse_point (neg : Bool) (w p : List Char) (hw : w ≠ []) (hp : p ≠ []) (dw : ∀ c ∈ w, isD c) (dp : ∀ c ∈ p, isD c) :
    parse? ((if neg then ['-'] else []) ++ (w ++ '.' :: p)) = some (ofDecimal neg (natOf 10 (w ++ p)) (-(p.length : Int))) := by
  obtain ⟨c, w', rfl⟩ : ∃ c w', w = c :: w' := by
    cases w with
    | nil => exact absurd rfl hw
    | cons c w => exact ⟨c, w, rfl⟩
  have hc := dw c (.head _)
  obtain ⟨l, p', hpl⟩ : ∃ l p', p.reverse = l :: p' := by
    cases h : p.reverse with
    | nil => exact absurd (by simpa using h) hp
    | cons l r => exact ⟨l, r, rfl⟩
  have hld : isD l := dp l (by rw [← List.mem_reverse, hpl]; exact .head _)
  have htrim : ((((if neg then ['-'] else []) ++ (c :: w' ++ '.' :: p)).dropWhile isSpace).reverse.dropWhile isSpace).reverse = (if neg then ['-'] else []) ++ (c :: w' ++ '.' :: p) := by
    have h1 : ((if neg then ['-'] else []) ++ (c :: w' ++ '.' :: p)).dropWhile isSpace = (if neg then ['-'] else []) ++ (c :: w' ++ '.' :: p) := by
      cases neg
      · simp [List.dropWhile_cons, nospace hc]
      · have : isSpace '-' = false := rfl
        simp [List.dropWhile_cons, this]
    rw [h1]
    have h2 : ((if neg then ['-'] else []) ++ (c :: w' ++ '.' :: p)).reverse = l :: (p' ++ ((if neg then ['-'] else []) ++ (c :: w' ++ ['.'])).reverse) := by
      rw [← List.cons_append, ← hpl, ← List.reverse_append]
      simp
    rw [h2, List.dropWhile_cons, nospace hld]
    simp only [Bool.false_eq_true, if_false]
    rw [← h2, List.reverse_reverse]
  unfold parse?
  rw [htrim]
  have hsp : readSpecial? ((if neg then ['-'] else []) ++ (c :: w' ++ '.' :: p)) = none := by
    unfold readSpecial?
    have hs : readSign ((if neg then ['-'] else []) ++ (c :: w' ++ '.' :: p)) = (neg, c :: w' ++ '.' :: p) := by
      cases neg
      · exact sign_digit hc _
      · rfl
    rw [hs]
    dsimp only
    rw [List.cons_append, (special_none hc _).1, (special_none hc _).2]
    rfl
  dsimp only
  rw [hsp]
  have hs : readSign ((if neg then ['-'] else []) ++ (c :: w' ++ '.' :: p)) = (neg, c :: w' ++ '.' :: p) := by
    cases neg
    · exact sign_digit hc _
    · rfl
  dsimp only
  rw [hs]
  dsimp only
  rw [digit_run (.inr ⟨p, rfl⟩) hw dw]
  dsimp only
  have h3 := digit_run (.inl rfl) hp dp
  rw [List.append_nil] at h3
  simp [h3]
end Mine

end
section
open PySem PySem.W PyProof.Rows PySem.Builtin PySem.Builtin.Float PySem.Flt
set_option maxRecDepth 100000
set_option linter.unusedVariables false
namespace Mine
open Float64

def val (l : List Nat) : Nat := l.foldl (fun n c => n * 10 + (c - 48)) 0
theorem val_acc (l : List Nat) : ∀ a, l.foldl (fun n c => n * 10 + (c - 48)) a = a * 10 ^ l.length + val l := by
  unfold val
  induction l with
  | nil => intro a; simp
  | cons c r ih =>
    intro a
    simp only [List.foldl_cons, List.length_cons]
    rw [ih (a * 10 + (c - 48)), ih (0 * 10 + (c - 48)), Nat.pow_succ, Nat.add_mul, Nat.zero_mul, Nat.zero_add]
    rw [Nat.mul_assoc, Nat.mul_comm 10]
    omega
theorem val_app (a b : List Nat) : val (a ++ b) = val a * 10 ^ b.length + val b := by
  show (a ++ b).foldl _ 0 = _
  rw [List.foldl_append, val_acc b]; rfl
theorem val_dec (n : Nat) : val (dec n) = n := by
  induction n using Nat.strongRecOn with
  | ind n ih =>
    by_cases h : n < 10
    · rw [dec_small h]; simp [val]
    · rw [dec_step (by omega), val_app, ih _ (by omega)]
      simp [val]; omega
def Dig (l : List Nat) : Prop := ∀ c ∈ l, 48 ≤ c ∧ c ≤ 57
theorem isD_ofNat {c : Nat} (h : 48 ≤ c ∧ c ≤ 57) : isD (Char.ofNat c) ∧ digitValue (Char.ofNat c) = c - 48 := by
  have hc : c = 48 ∨ c = 49 ∨ c = 50 ∨ c = 51 ∨ c = 52 ∨ c = 53 ∨ c = 54 ∨ c = 55 ∨ c = 56 ∨ c = 57 := by omega
  rcases hc with rfl | rfl | rfl | rfl | rfl | rfl | rfl | rfl | rfl | rfl <;> exact ⟨by unfold isD; decide, rfl⟩
theorem natOf_val (l : List Nat) (h : Dig l) : natOf 10 (l.map Char.ofNat) = val l := by
  unfold natOf val
  have : ∀ (l : List Nat) (a : Nat), Dig l → (l.map Char.ofNat).foldl (fun n c => n * 10 + digitValue c) a = l.foldl (fun n c => n * 10 + (c - 48)) a := by
    intro l
    induction l with
    | nil => intro a _; rfl
    | cons c r ih =>
      intro a hd
      simp only [List.map_cons, List.foldl_cons, (isD_ofNat (hd c (.head _))).2]
      exact ih _ fun d hd' => hd d (.tail _ hd')
  exact this l 0 h

theorem parse_ascii {l : List Nat} (h : ∀ c ∈ l, c < 128) : parse l = Float64.parse? (l.map Char.ofNat) := by
  unfold parse Num.parseText?
  have : l.toArray.all (fun x => decide (x < 128)) = true := by
    rw [← Array.all_toList]
    simp only [List.all_eq_true, decide_eq_true_eq]
    exact h
  show Float64.parse? ((if (l.toArray.all fun x => decide (x < 128)) = true then l.toArray.toList else _).map Char.ofNat) = _
  rw [if_pos this]

theorem parse_num (neg : Bool) (W P : List Nat) (hW : W ≠ []) (hP : P ≠ []) (dW : Dig W) (dP : Dig P) : parse ((if neg then [45] else []) ++ (W ++ 46 :: P)) = some (ofDecimal neg (val (W ++ P)) (-(P.length : Int))) := by
  rw [parse_ascii]
  · have e : ((if neg then [45] else []) ++ (W ++ 46 :: P)).map Char.ofNat = (if neg then ['-'] else []) ++ (W.map Char.ofNat ++ '.' :: P.map Char.ofNat) := by
      cases neg
      · simp
      · simp
    rw [e, parse_point neg _ _ (by simpa using hW) (by simpa using hP) (fun c hc => by obtain ⟨d, hd, rfl⟩ := List.mem_map.mp hc; exact (isD_ofNat (dW d hd)).1) (fun c hc => by obtain ⟨d, hd, rfl⟩ := List.mem_map.mp hc; exact (isD_ofNat (dP d hd)).1)]
    rw [← List.map_append, natOf_val _ (fun c hc => (List.mem_append.mp hc).elim (dW c) (dP c)), List.length_map]
  · intro c hc
    rcases List.mem_append.mp hc with h | h
    · split at h
      · simp at h; omega
      · cases h
    · rcases List.mem_append.mp h with h | h
      · have := dW c h; omega
      · rcases List.mem_cons.mp h with rfl | h
        · decide
        · have := dP c h; omega

theorem ofDecimal_bits (neg : Bool) (c m k : Nat) (hk : k < 2 ^ 17) (hm : m ≤ 3) (hc : c < 10 ^ 9) (h : k * 10 ^ m = 8 * c) : ofDecimal neg c (-(m : Int)) = pack neg (magOf k) := by
  unfold ofDecimal
  by_cases h0 : c = 0
  · subst h0
    rw [if_pos (by rfl)]
    have hk0 : k = 0 := by
      have hp : 0 < 10 ^ m := Nat.pow_pos (by decide)
      rcases Nat.eq_zero_or_pos k with h1 | h1
      · exact h1
      · have := Nat.mul_pos h1 hp; omega
    subst hk0
    rfl
  · rw [if_neg (by simpa using h0)]
    have hl : (Nat.repr c).length ≤ 9 := by
      have := dec_len_le 8 c hc
      unfold dec at this
      rw [List.length_map, ← Nat.toList_repr, String.length_toList] at this
      exact this
    dsimp only
    rw [if_neg (by omega), if_neg (by omega)]
    have hs : shift10 c 1 (-(m : Int)) = (c, 1 * 10 ^ m) := by
      unfold shift10
      by_cases hm0 : m = 0
      · subst hm0; rw [if_pos (by decide)]; simp
      · rw [if_neg (by omega), show (-(-(m : Int))).toNat = m by omega]
    rw [hs]
    unfold ofFrac
    dsimp only
    rw [Nat.one_mul, round_eighth k c (10 ^ m) hk (Nat.pow_pos (by decide)) h]

def partOf (r : Nat) (long : Bool) : List Nat :=
  let part := padTo 3 (dec (r * 125))
  if long then part else if (cutEnd 48 part).isEmpty then [48] else cutEnd 48 part
theorem part_facts : ∀ (r : Fin 8) (long : Bool), partOf r.val long ≠ [] ∧ (partOf r.val long).length ≤ 3 ∧ 8 * val (partOf r.val long) = r.val * 10 ^ (partOf r.val long).length ∧ (∀ c ∈ partOf r.val long, 48 ≤ c ∧ c ≤ 57) ∧ (long = true → (partOf r.val long).length = 3) := by decide +kernel

theorem parse_numeral (n : Int) (hn : n.natAbs ≤ 80000) (long : Bool) : parse (lawNumeral n long false) = some (bitsOf n) := by
  have hp := part_facts ⟨n.natAbs % 8, Nat.mod_lt _ (by decide)⟩ long
  have e : lawNumeral n long false = (if decide (n < 0) then [45] else []) ++ (dec (n.natAbs / 8) ++ 46 :: partOf (n.natAbs % 8) long) := by
    show (((if n < 0 then [45] else []) ++ _) ++ [46]) ++ numPart n long = _
    have : numPart n long = partOf (n.natAbs % 8) long := rfl
    rw [this]
    simp
  simp only at hp
  obtain ⟨h1, h2, h3, h4, _⟩ := hp
  rw [e, parse_num _ _ _ (dec_ne _) h1 (dec_digits _) h4, val_app, val_dec]
  have hpow : 10 ^ (partOf (n.natAbs % 8) long).length ≤ 1000 := by
    calc 10 ^ (partOf (n.natAbs % 8) long).length ≤ 10 ^ 3 := Nat.pow_le_pow_right (by decide) h2
      _ = 1000 := rfl
  generalize hP : partOf (n.natAbs % 8) long = P at *
  generalize hT : 10 ^ P.length = T at *
  have hw : n.natAbs / 8 * T ≤ 10000 * 1000 := Nat.mul_le_mul (by omega) hpow
  have hr : n.natAbs % 8 * T ≤ 7 * 1000 := Nat.mul_le_mul (by omega) hpow
  rw [ofDecimal_bits _ _ _ n.natAbs (by omega) h2 (by omega) ?_]
  · rfl
  · rw [hT]
    have : n.natAbs * T = (8 * (n.natAbs / 8) + n.natAbs % 8) * T := by rw [Nat.div_add_mod]
    rw [this, Nat.add_mul, Nat.mul_add, ← h3, Nat.mul_assoc]
end Mine

end
section
open PySem PySem.W PyProof.Rows PySem.Builtin PySem.Builtin.Float PySem.Flt
set_option maxRecDepth 100000
set_option linter.unusedVariables false
namespace Mine
open Float64

/-- a text that begins with a sign that no number begins with -/
theorem parse_odd (c : Char) (t : List Char) (h1 : isSpace c = false) (h2 : ∀ r, readSign (c :: r) = (false, c :: r)) (h3 : ∀ r, dropPrefix? "inf" (c :: r) = none ∧ dropPrefix? "nan" (c :: r) = none) (h4 : c.isDigit = false) (h5 : c ≠ '.') (l : Char) (t' : List Char) (hl : (c :: t).reverse = l :: t') (hls : isSpace l = false) : parse? (c :: t) = none := by
  unfold parse?
  have htrim : (((c :: t).dropWhile isSpace).reverse.dropWhile isSpace).reverse = c :: t := by
    rw [List.dropWhile_cons, h1]
    simp only [Bool.false_eq_true, if_false]
    rw [hl, List.dropWhile_cons, hls]
    simp only [Bool.false_eq_true, if_false]
    rw [← hl, List.reverse_reverse]
  rw [htrim]
  dsimp only
  have hsp : readSpecial? (c :: t) = none := by
    unfold readSpecial?
    rw [h2]
    dsimp only
    rw [(h3 t).1, (h3 t).2]
    rfl
  rw [hsp, h2]
  dsimp only
  have hd : digitRun (c :: t) = ([], c :: t) := by
    show (if c.isDigit = true then _ else ([], c :: t)) = _
    rw [h4]; rfl
  rw [hd]
  simp [h5]
theorem parse_esc (t : List Nat) (h : ∀ c ∈ t, c < 128) (l : Nat) (t' : List Nat) (hl : t.reverse = l :: t') (hls : l = 109 ∨ l = 92) : parse (27 :: t) = none := by
  rw [parse_ascii (fun c hc => by rcases List.mem_cons.mp hc with rfl | hc; decide; exact h c hc)]
  rw [List.map_cons]
  refine parse_odd (Char.ofNat 27) _ rfl (fun r => rfl) (fun r => ⟨rfl, rfl⟩) rfl (by decide) (Char.ofNat l) (t'.map Char.ofNat ++ [Char.ofNat 27]) ?_ ?_
  · rw [List.reverse_cons, ← List.map_reverse, hl]; rfl
  · rcases hls with rfl | rfl <;> rfl

theorem parse_comma (neg : Bool) (w : List Char) (hw : w ≠ []) (dw : ∀ c ∈ w, isD c) (t : List Char) (l : Char) (t' : List Char) (hl : t.reverse = l :: t') (hls : isD l) : parse? ((if neg then ['-'] else []) ++ (w ++ ',' :: t)) = none := by
  obtain ⟨c, w', rfl⟩ : ∃ c w', w = c :: w' := by
    cases w with
    | nil => exact absurd rfl hw
    | cons c w => exact ⟨c, w, rfl⟩
  have hc := dw c (.head _)
  have htrim : ((((if neg then ['-'] else []) ++ (c :: w' ++ ',' :: t)).dropWhile isSpace).reverse.dropWhile isSpace).reverse = (if neg then ['-'] else []) ++ (c :: w' ++ ',' :: t) := by
    have h1 : ((if neg then ['-'] else []) ++ (c :: w' ++ ',' :: t)).dropWhile isSpace = (if neg then ['-'] else []) ++ (c :: w' ++ ',' :: t) := by
      cases neg
      · simp [List.dropWhile_cons, nospace hc]
      · have : isSpace '-' = false := rfl
        simp [List.dropWhile_cons, this]
    rw [h1]
    have h2 : ((if neg then ['-'] else []) ++ (c :: w' ++ ',' :: t)).reverse = l :: (t' ++ ((if neg then ['-'] else []) ++ (c :: w' ++ [','])).reverse) := by
      rw [← List.cons_append, ← hl, ← List.reverse_append]
      simp
    rw [h2, List.dropWhile_cons, nospace hls]
    simp only [Bool.false_eq_true, if_false]
    rw [← h2, List.reverse_reverse]
  unfold parse?
  rw [htrim]
  have hs : readSign ((if neg then ['-'] else []) ++ (c :: w' ++ ',' :: t)) = (neg, c :: w' ++ ',' :: t) := by
    cases neg
    · exact sign_digit hc _
    · rfl
  have hsp : readSpecial? ((if neg then ['-'] else []) ++ (c :: w' ++ ',' :: t)) = none := by
    unfold readSpecial?
    rw [hs]
    dsimp only
    rw [List.cons_append, (special_none hc _).1, (special_none hc _).2]
    rfl
  dsimp only
  rw [hsp, hs]
  dsimp only
  have hrun : digitRun (c :: w' ++ ',' :: t) = (c :: w', ',' :: t) := by
    have hm : ∀ w : List Char, (∀ c ∈ w, isD c) → moreDigits (w ++ ',' :: t) = (w, ',' :: t) := by
      intro w
      induction w with
      | nil => intro _; cases t <;> rfl
      | cons a r ih => intro h; rw [List.cons_append, more_cons (h a (.head _)), ih fun d hd => h d (.tail _ hd)]
    have hd : c.isDigit = true := by
      rcases isD_cases hc with rfl | rfl | rfl | rfl | rfl | rfl | rfl | rfl | rfl | rfl <;> rfl
    show (if c.isDigit = true then (let (ds, t) := moreDigits (w' ++ ',' :: t); (c :: ds, t)) else ([], c :: (w' ++ ',' :: t))) = _
    rw [if_pos hd, hm w' fun d hd => dw d (.tail _ hd)]
  rw [hrun]
  simp
end Mine

end
section
open PySem PySem.W PyProof.Rows
set_option maxRecDepth 100000
set_option linter.unusedVariables false
namespace Mine

theorem group_cases (m : Nat) (hm : m ≤ 10000) : (m < 1000 ∧ lawGroup (dec m) = dec m) ∨ ∃ A B, lawGroup (dec m) = A ++ [44] ++ B ∧ dec m = A ++ B ∧ A ≠ [] ∧ B ≠ [] ∧ Dig A ∧ Dig B := by
  by_cases h : m < 1000
  · exact .inl ⟨h, lawGroup_small (dec_len_le 2 m (by simpa using h))⟩
  · right
    have e : dec m = dec (m / 1000) ++ [48 + m / 10 / 10 % 10, 48 + m / 10 % 10, 48 + m % 10] := by
      rw [dec_step (n := m) (by omega), dec_step (n := m / 10) (by omega), dec_step (n := m / 10 / 10) (by omega)]
      rw [show m / 10 / 10 / 10 = m / 1000 by omega]
      simp
    refine ⟨dec (m / 1000), [48 + m / 10 / 10 % 10, 48 + m / 10 % 10, 48 + m % 10], ?_, e, dec_ne _, by simp, dec_digits _, ?_⟩
    · rw [e, lawGroup_step _ (dec_ne _), lawGroup_small (Nat.le_trans (dec_len_le 1 (m / 1000) (by simp; omega)) (by decide))]
      simp
    · intro c hc
      simp only [List.mem_cons, List.not_mem_nil, or_false] at hc
      rcases hc with rfl | rfl | rfl <;> omega

theorem like_dig : ∀ l : List Nat, Dig l → LikeL l (List.replicate l.length 48)
  | [], _ => .nil
  | c :: r, h => .cons (.inr ⟨h c (.head _), by unfold isDig; omega⟩) (like_dig r fun d hd => h d (.tail _ hd))

def Num (c : Nat) : Prop := c = 45 ∨ c = 46 ∨ (48 ≤ c ∧ c ≤ 57)
theorem window {x y : List Nat} {i p c : Nat} (h1 : i + y.length ≤ x.length) (h2 : (x.drop i).take y.length = y) (hy : ∀ c ∈ y, Num c) (hp : i ≤ p) (hp2 : p < i + y.length) (hc : x[p]? = some c) : Num c := by
  refine hy c ?_
  have : y[p - i]? = some c := by
    rw [← h2, List.getElem?_take_of_lt (by omega), List.getElem?_drop, show i + (p - i) = p by omega]; exact hc
  exact List.mem_of_getElem? this

theorem uniq_red (y : List Nat) (h5 : 5 ≤ y.length) (hy : ∀ c ∈ y, Num c) (i : Nat) (h1 : i + y.length ≤ (redF ++ y ++ redB).length) (h2 : ((redF ++ y ++ redB).drop i).take y.length = y) : i = redF.length := by
  have hF : redF.length = 5 := rfl
  have hB : redB.length = 4 := rfl
  have hl : (redF ++ y ++ redB).length = 9 + y.length := by simp [hF, hB]; omega
  rw [hF]
  rcases Nat.lt_trichotomy i 5 with h | h | h
  · exfalso
    have : (redF ++ y ++ redB)[4]? = some 109 := by rw [List.append_assoc, List.getElem?_append_left (by decide)]; rfl
    have := window h1 h2 hy (by omega) (by omega) this
    unfold Num at this; omega
  · exact h
  · exfalso
    have : (redF ++ y ++ redB)[5 + y.length]? = some 27 := by rw [List.getElem?_append_right (by simp [hF])]; simp [hF]; rfl
    have := window h1 h2 hy (by omega) (by omega) this
    unfold Num at this; omega
theorem uniq_link (y : List Nat) (h5 : 5 ≤ y.length) (hy : ∀ c ∈ y, Num c) (i : Nat) (h1 : i + y.length ≤ (linkF ++ y ++ linkB).length) (h2 : ((linkF ++ y ++ linkB).drop i).take y.length = y) : i = linkF.length := by
  have hF : linkF.length = 15 := rfl
  have hB : linkB.length = 7 := rfl
  have hl : (linkF ++ y ++ linkB).length = 22 + y.length := by simp [hF, hB]; omega
  rw [hF]
  have front : ∀ p c, p < 15 → linkF[p]? = some c → (linkF ++ y ++ linkB)[p]? = some c := fun p c hp hc => by
    rw [List.append_assoc, List.getElem?_append_left (by rw [hF]; exact hp)]; exact hc
  have back : ∀ p c, linkB[p]? = some c → (linkF ++ y ++ linkB)[15 + y.length + p]? = some c := fun p c hc => by
    rw [List.getElem?_append_right (by simp [hF])]
    simp only [List.length_append, hF]
    rw [show 15 + y.length + p - (15 + y.length) = p by omega]; exact hc
  have no : ∀ {c : Nat}, Num c → c = 59 ∨ c = 116 ∨ c = 58 ∨ c = 92 ∨ c = 27 ∨ c = 93 → False := fun h h' => by unfold Num at h; omega
  rcases Nat.lt_trichotomy i 15 with h | h | h
  · exfalso
    by_cases a : i ≤ 3
    · exact no (window h1 h2 hy a (by omega) (front 3 59 (by decide) rfl)) (by omega)
    · by_cases b : i ≤ 7
      · exact no (window h1 h2 hy b (by omega) (front 7 116 (by decide) rfl)) (by omega)
      · by_cases c : i ≤ 9
        · exact no (window h1 h2 hy c (by omega) (front 9 58 (by decide) rfl)) (by omega)
        · exact no (window h1 h2 hy (p := 14) (by omega) (by omega) (front 14 92 (by decide) rfl)) (by omega)
  · exact h
  · exfalso
    by_cases a : i ≤ 15 + y.length
    · exact no (window h1 h2 hy (p := 15 + y.length + 0) (by omega) (by omega) (back 0 27 rfl)) (by omega)
    · by_cases b : i = 15 + y.length + 1
      · exact no (window h1 h2 hy (p := 15 + y.length + 1) (by omega) (by omega) (back 1 93 rfl)) (by omega)
      · exact no (window h1 h2 hy (p := 15 + y.length + 3) (by omega) (by omega) (back 3 59 rfl)) (by omega)

theorem num_shape (n : Int) (hn : n.natAbs ≤ 80000) (long : Bool) : lawNumeral n long false = (if decide (n < 0) then [45] else []) ++ (dec (n.natAbs / 8) ++ 46 :: partOf (n.natAbs % 8) long) := by
  show (((if n < 0 then [45] else []) ++ _) ++ [46]) ++ numPart n long = _
  have : numPart n long = partOf (n.natAbs % 8) long := rfl
  rw [this]
  simp
theorem num_num (n : Int) (hn : n.natAbs ≤ 80000) (long : Bool) : ∀ c ∈ lawNumeral n long false, Num c := by
  have hp := part_facts ⟨n.natAbs % 8, Nat.mod_lt _ (by decide)⟩ long
  simp only at hp
  rw [num_shape n hn long]
  intro c hc
  rcases List.mem_append.mp hc with h | h
  · split at h
    · simp at h; exact .inl h
    · cases h
  · rcases List.mem_append.mp h with h | h
    · exact .inr (.inr (dec_digits _ c h))
    · rcases List.mem_cons.mp h with rfl | h
      · exact .inr (.inl rfl)
      · exact .inr (.inr (hp.2.2.2.1 c h))
theorem num_like (n : Int) (hn : n.natAbs ≤ 80000) : LikeL (lawNumeral n true false) (smp (decide (n < 0)) (dec (n.natAbs / 8)).length) ∧ (dec (n.natAbs / 8)).length ∈ [1, 2, 3, 4, 5] := by
  have hp := part_facts ⟨n.natAbs % 8, Nat.mod_lt _ (by decide)⟩ true
  simp only at hp
  refine ⟨?_, ?_⟩
  · rw [num_shape n hn true]
    unfold smp
    rw [List.append_assoc]
    refine (LikeL.refl _).app ((like_dig _ (dec_digits _)).app (.cons (.inl rfl) ?_))
    have h3 := like_dig _ hp.2.2.2.1
    have hlen := hp.2.2.2.2 (by simp)
    rw [hlen] at h3
    exact h3
  · have h1 := dec_pos (n.natAbs / 8)
    have h2 := dec_len_le 4 (n.natAbs / 8) (by have : (10 : Nat) ^ (4 + 1) = 100000 := rfl
                                               omega)
    simp only [List.mem_cons, List.not_mem_nil, or_false]
    omega
end Mine

end
section
open PySem PySem.W PyProof.Rows
set_option maxRecDepth 100000
set_option linter.unusedVariables false
namespace Mine

theorem num_len (n : Int) (hn : n.natAbs ≤ 80000) (long : Bool) : 3 ≤ (lawNumeral n long false).length ∧ (lawNumeral n long false).length ≤ 10 := by
  have hp := part_facts ⟨n.natAbs % 8, Nat.mod_lt _ (by decide)⟩ long
  simp only at hp
  rw [num_shape n hn long]
  have h1 := dec_pos (n.natAbs / 8)
  have h2 := dec_len_le 4 (n.natAbs / 8) (by have : (10 : Nat) ^ (4 + 1) = 100000 := rfl
                                             omega)
  have h3 : 0 < (partOf (n.natAbs % 8) long).length := List.length_pos_iff.mpr hp.1
  have h4 : (if decide (n < 0) = true then [45] else ([] : List Nat)).length ≤ 1 := by split <;> simp
  simp only [List.length_append, List.length_cons]
  omega
theorem num_plain (n : Int) (hn : n.natAbs ≤ 80000) (long : Bool) : Plain (lawNumeral n long false) := by
  have hl := num_len n hn long
  refine ⟨by omega, by omega, fun c hc => ?_⟩
  have := num_num n hn long c hc
  unfold Num at this; omega
theorem num_no (n : Int) (hn : n.natAbs ≤ 80000) (long : Bool) {c : Nat} (hc : c = 44 ∨ c = 27) : c ∉ lawNumeral n long false := fun h => by
  have := num_num n hn long c h
  unfold Num at this; omega

theorem case_num {fk wk gk : Nat} (n : Int) (hn : n.natAbs ≤ 80000) (hf : fk < 7) (long : Bool) (lk : Bool) : FCase fk wk gk (.str (lawNumeral n long false)) "float" lk (.str (lawDecimal n fk)) := by
  have hp := num_plain n hn long
  have hl := num_len n hn long
  have e := fmtF_law n hn fk hf
  cases lk with
  | true =>
    refine .look _ (lawNumeral n long false) _ (bitsOf n) hp hp (.inl ⟨rfl, by omega, by omega, fun c hc => ?_⟩) (parse_numeral n hn long) (by rw [e]; exact Nat.le_trans (decimal_len n fk hn) (by decide)) ?_
    · rintro rfl; exact num_no n hn long (.inr rfl) hc
    · rw [e]; exact replace_whole _ _ (by omega)
  | false =>
    rw [← e]
    exact .off _ _ (bitsOf n) hp (.inl ⟨num_no n hn long (.inl rfl), rfl⟩) hp (parse_numeral n hn long)

theorem case_comma {fk wk gk : Nat} (n : Int) (hn : n.natAbs ≤ 80000) (hf : fk < 7) (lk : Bool) : FCase fk wk gk (.str (lawNumeral n false true)) "float" lk (.str (if (lk && (lawNumeral n false true).contains 44) = true then lawNumeral n false true else lawDecimal n fk)) := by
  have hshape : lawNumeral n false true = (if decide (n < 0) then [45] else []) ++ (lawGroup (dec (n.natAbs / 8)) ++ 46 :: partOf (n.natAbs % 8) false) := by
    show (((if n < 0 then [45] else []) ++ _) ++ [46]) ++ numPart n false = _
    have : numPart n false = partOf (n.natAbs % 8) false := rfl
    rw [this]
    simp
  have hpf := part_facts ⟨n.natAbs % 8, Nat.mod_lt _ (by decide)⟩ false
  simp only at hpf
  rcases group_cases (n.natAbs / 8) (by omega) with ⟨_, hg⟩ | ⟨A, B, hg, hd, hA, hB, dA, dB⟩
  · have e : lawNumeral n false true = lawNumeral n false false := by rw [hshape, hg, num_shape n hn false]
    rw [e]
    have hno : (lawNumeral n false false).contains 44 = false := by
      have := num_no n hn false (c := 44) (.inl rfl)
      simpa using this
    rw [hno, Bool.and_false, if_neg Bool.false_ne_true]
    exact case_num n hn hf false lk
  · have hl : lawNumeral n false true = ((if decide (n < 0) then [45] else []) ++ A) ++ [44] ++ (B ++ 46 :: partOf (n.natAbs % 8) false) := by
      rw [hshape, hg]; simp
    have hl' : ((if decide (n < 0) then [45] else []) ++ A) ++ (B ++ 46 :: partOf (n.natAbs % 8) false) = lawNumeral n false false := by
      rw [num_shape n hn false, hd]; simp
    have hc : (lawNumeral n false true).contains 44 = true := by rw [hl]; simp
    rw [hc, Bool.and_true]
    have hlen := num_len n hn false
    have hlen2 : (lawNumeral n false true).length = (lawNumeral n false false).length + 1 := by
      rw [hl, ← hl']; simp; omega
    have hmem : ∀ c ∈ lawNumeral n false true, c = 44 ∨ Num c := by
      intro c h
      rw [hl] at h
      rcases List.mem_append.mp h with h | h
      · rcases List.mem_append.mp h with h | h
        · right; exact num_num n hn false c (by rw [← hl']; exact List.mem_append_left _ h)
        · left; simpa using h
      · right; exact num_num n hn false c (by rw [← hl']; exact List.mem_append_right _ h)
    have hp : Plain (lawNumeral n false true) := ⟨by omega, by omega, fun c h => by have := hmem c h; unfold Num at this; omega⟩
    have hx : (44 : Nat) ∉ (if decide (n < 0) = true then [45] else []) ++ A := fun h => num_no n hn false (c := 44) (.inl rfl) (by rw [← hl']; exact List.mem_append_left _ h)
    have hy : (44 : Nat) ∉ B ++ 46 :: partOf (n.natAbs % 8) false := fun h => num_no n hn false (c := 44) (.inl rfl) (by rw [← hl']; exact List.mem_append_right _ h)
    cases lk with
    | true =>
      rw [if_pos rfl]
      refine .lookBad _ (lawNumeral n false true) hp hp (.inl ⟨rfl, by omega, by omega, fun c h => ?_⟩) ?_
      · rintro rfl
        have := hmem 27 h
        unfold Num at this; omega
      · rw [parse_ascii (fun c h => by have := hmem c h; unfold Num at this; omega), hl]
        have e : (((if decide (n < 0) then [45] else []) ++ A) ++ [44] ++ (B ++ 46 :: partOf (n.natAbs % 8) false)).map Char.ofNat = (if decide (n < 0) then ['-'] else []) ++ (A.map Char.ofNat ++ ',' :: (B ++ 46 :: partOf (n.natAbs % 8) false).map Char.ofNat) := by
          cases decide (n < 0) <;> simp
        rw [e]
        obtain ⟨l, t, hlt⟩ : ∃ l t, (partOf (n.natAbs % 8) false).reverse = l :: t := by
          cases h : (partOf (n.natAbs % 8) false).reverse with
          | nil => exact absurd (by simpa using h) hpf.1
          | cons a r => exact ⟨a, r, rfl⟩
        have hld : 48 ≤ l ∧ l ≤ 57 := hpf.2.2.2.1 l (by rw [← List.mem_reverse, hlt]; exact .head _)
        refine parse_comma _ _ (by simpa using hA) (fun c hc => by obtain ⟨d, hd, rfl⟩ := List.mem_map.mp hc; exact (isD_ofNat (dA d hd)).1) _ (Char.ofNat l) ((t ++ 46 :: B.reverse).map Char.ofNat) ?_ (isD_ofNat hld).1
        rw [← List.map_reverse, List.reverse_append, List.reverse_cons, hlt]
        simp
    | false =>
      rw [if_neg Bool.false_ne_true, ← fmtF_law n hn fk hf]
      refine .off _ (lawNumeral n false false) (bitsOf n) hp (.inr ⟨_, _, hl, hx, hy, hl'.symm⟩) (num_plain n hn false) (parse_numeral n hn false)

theorem case_code {fk wk gk : Nat} (n : Int) (hn : n.natAbs ≤ 80000) (hf : fk < 7) (lk red : Bool) :
    FCase fk wk gk (.str (((if red then redF else linkF) ++ lawNumeral n true false) ++ (if red then redB else linkB))) "float" lk (.str (((if red then redF else linkF) ++ (if lk = true then lawDecimal n fk else lawNumeral n true false)) ++ (if red then redB else linkB))) := by
  have hlen := num_len n hn true
  obtain ⟨hlike, hwl⟩ := num_like n hn
  have h5 : 5 ≤ (lawNumeral n true false).length := by
    rw [hlike.len]; exact (smp_len _ _ hwl).1
  have hFl : ∀ c ∈ (if red then redF else linkF), c < 128 ∧ c ≠ 44 := by cases red <;> decide
  have hBl : ∀ c ∈ (if red then redB else linkB), c < 128 ∧ c ≠ 44 := by cases red <;> decide
  have hFlen : (if red then redF else linkF).length ≤ 15 := by cases red <;> decide
  have hBlen : (if red then redB else linkB).length ≤ 7 := by cases red <;> decide
  have hmem : ∀ c ∈ ((if red then redF else linkF) ++ lawNumeral n true false) ++ (if red then redB else linkB), c < 128 ∧ c ≠ 44 := by
    intro c h
    rcases List.mem_append.mp h with h | h
    · rcases List.mem_append.mp h with h | h
      · exact hFl c h
      · have := num_num n hn true c h
        unfold Num at this; omega
    · exact hBl c h
  have hp : Plain (((if red then redF else linkF) ++ lawNumeral n true false) ++ (if red then redB else linkB)) :=
    ⟨by simp only [List.length_append]; omega, by simp only [List.length_append]; omega, fun c h => by have := (hmem c h).1; omega⟩
  have e := fmtF_law n hn fk hf
  cases lk with
  | true =>
    rw [if_pos rfl]
    refine .look _ (lawNumeral n true false) _ (bitsOf n) hp (num_plain n hn true) (.inr ⟨_, _, hwl, hlike, ?_⟩) (parse_numeral n hn true) (by rw [e]; exact Nat.le_trans (decimal_len n fk hn) (by decide)) ?_
    · cases red
      · exact .inr rfl
      · exact .inl rfl
    · rw [e]
      refine replace_mid _ _ _ _ (by omega) fun i h1 h2 => ?_
      cases red
      · exact uniq_link _ h5 (num_num n hn true) i h1 h2
      · exact uniq_red _ h5 (num_num n hn true) i h1 h2
  | false =>
    rw [if_neg Bool.false_ne_true]
    refine .offBad _ hp (fun h => (hmem 44 h).2 rfl) ?_
    cases red
    · exact parse_esc ([93, 56, 59, 59, 104, 116, 116, 112, 58, 47, 47, 120, 27, 92] ++ lawNumeral n true false ++ linkB) (fun c h => (hmem c (List.mem_cons_of_mem _ h)).1) 92 (([93, 56, 59, 59, 104, 116, 116, 112, 58, 47, 47, 120, 27, 92] ++ lawNumeral n true false ++ [27, 93, 56, 59, 59, 27]).reverse) (by simp [linkB]) (.inr rfl)
    · exact parse_esc ([91, 51, 49, 109] ++ lawNumeral n true false ++ redB) (fun c h => (hmem c (List.mem_cons_of_mem _ h)).1) 109 (([91, 51, 49, 109] ++ lawNumeral n true false ++ [27, 91, 48]).reverse) (by simp [redB]) (.inl rfl)
end Mine

end
section
open PySem PySem.W PyProof.Rows
set_option maxRecDepth 100000
set_option linter.unusedVariables false
namespace Mine

theorem word_good (j : Nat) : GoodV (lawWord j) ∧ lawWord j ≠ .str [] := by
  match j with
  | 0 => exact ⟨.inl ⟨_, rfl, by decide⟩, by intro h; cases h⟩
  | 1 => exact ⟨.inl ⟨_, rfl, by decide⟩, by intro h; cases h⟩
  | 2 => exact ⟨.inl ⟨_, rfl, by decide⟩, by intro h; cases h⟩
  | 3 => exact ⟨.inl ⟨_, rfl, by decide⟩, by intro h; cases h⟩
  | 4 => exact ⟨.inl ⟨_, rfl, by decide⟩, by intro h; cases h⟩
  | 5 => exact ⟨.inl ⟨_, rfl, by decide⟩, by intro h; cases h⟩
  | 6 => exact ⟨.inl ⟨_, rfl, by decide⟩, by intro h; cases h⟩
  | 7 => exact ⟨.inr (.inl ⟨_, rfl, by decide⟩), by intro h; cases h⟩
  | 8 => exact ⟨.inr (.inr ⟨_, rfl⟩), by intro h; cases h⟩
  | _ + 9 => exact ⟨.inl ⟨_, rfl, by decide⟩, by intro h; cases h⟩
theorem case_word {fk wk gk : Nat} {j : Nat} (hj : j < 6) (lk : Bool) : FCase fk wk gk (lawWord j) "float" lk (lawWord j) := by
  have main : ∀ l : List Nat, lawWord j = .str l → Plain l → 44 ∉ l → (∀ c ∈ l, c ≠ 27) → l.length < 24 → parse l = none → FCase fk wk gk (lawWord j) "float" lk (lawWord j) := by
    intro l e hp h44 h27 h24 hn
    rw [e]
    cases lk with
    | true => exact .lookBad l l hp hp (.inl ⟨rfl, hp.1, h24, h27⟩) hn
    | false => exact .offBad l hp h44 hn
  match j, hj with
  | 0, _ => exact main [115, 112, 97, 109] rfl ⟨by decide, by decide, by decide⟩ (by decide) (by decide) (by decide) (by decide +kernel)
  | 1, _ => exact main [97, 32, 98] rfl ⟨by decide, by decide, by decide⟩ (by decide) (by decide) (by decide) (by decide +kernel)
  | 2, _ => exact main [32, 120, 32] rfl ⟨by decide, by decide, by decide⟩ (by decide) (by decide) (by decide) (by decide +kernel)
  | 3, _ => exact main [84, 114, 117, 101] rfl ⟨by decide, by decide, by decide⟩ (by decide) (by decide) (by decide) (by decide +kernel)
  | 4, _ => exact main [70, 97, 108, 115, 101] rfl ⟨by decide, by decide, by decide⟩ (by decide) (by decide) (by decide) (by decide +kernel)
  | 5, _ => exact main [45] rfl ⟨by decide, by decide, by decide⟩ (by decide) (by decide) (by decide) (by decide +kernel)

theorem cell_case {fk wk gk kd pick : Nat} {w : Int} {lk : Bool} (hw0 : 0 ≤ w) (hw1 : w < 1000003) (hf : fk < 7) (hk : wk < 6) (hkd : kd ≤ 3) (hpick : pick < 10) :
    FCase fk wk gk (caseCell w kd fk wk gk pick lk).1 (kdTy kd) lk (caseCell w kd fk wk gk pick lk).2 := by
  unfold caseCell
  by_cases h2 : pick < 2
  · rw [if_pos h2]
    by_cases h0 : pick = 0
    · rw [if_pos h0]; exact .none _ _
    · rw [if_neg h0]; exact .empty _ _
  rw [if_neg h2]
  by_cases k1 : kd = 1
  · rw [if_pos k1]; subst k1
    refine .int _ _ _ fun C m news xs hx => format_int hk ?_ hx
    unfold caseWhole
    rw [Int.natAbs_mul]
    have a1 : (w - 500000).natAbs ≤ 500003 := by omega
    have a2 : (1 + w % 3 * 999983).natAbs ≤ 1999967 := by omega
    have := Nat.mul_le_mul a1 a2
    have e : (2 : Nat) ^ 45 = 35184372088832 := by decide
    omega
  rw [if_neg k1]
  by_cases k2 : kd = 2
  · rw [if_pos k2]; subst k2
    have hn : (cellN w).natAbs ≤ 80000 := by unfold cellN; omega
    show FCase fk wk gk (pointCell w pick fk lk).1 "float" lk (pointCell w pick fk lk).2
    unfold pointCell
    dsimp only
    generalize cellN w = n at *
    by_cases p4 : pick < 4
    · rw [if_pos p4]; exact case_num n hn hf _ lk
    rw [if_neg p4]
    by_cases p5 : pick = 4
    · rw [if_pos p5]; exact case_comma n hn hf lk
    rw [if_neg p5]
    by_cases p7 : pick < 7
    · rw [if_pos p7]
      have := case_code (fk := fk) (wk := wk) (gk := gk) n hn hf lk (decide (pick = 5))
      simpa using this
    rw [if_neg p7]
    by_cases p8 : pick = 7
    · rw [if_pos p8]
      have e := fmtF_law (8 * (n / 8)) (by omega) fk hf
      rw [← ofInt_bits (n / 8) (by omega)] at e
      have e2 : n / 8 * 8 = 8 * (n / 8) := Int.mul_comm _ _
      dsimp only
      rw [e2, ← e]
      refine .fint _ _ ?_
      have : (n / 8).natAbs < 2 ^ 17 := by omega
      exact Nat.lt_of_lt_of_le this (Nat.pow_le_pow_right (by decide) (by decide))
    rw [if_neg p8]
    by_cases p9 : pick = 8
    · rw [if_pos p9]
      have hc : (if w % 2 = 0 then (8 : Int) else 0) = 8 * (if (w % 2 == 0) = true then 1 else 0) := by
        by_cases h : w % 2 = 0 <;> simp [h]
      have e := fmtF_law (8 * (if (w % 2 == 0) = true then 1 else 0)) (by split <;> decide) fk hf
      rw [← ofInt_bits _ (by split <;> decide)] at e
      dsimp only
      rw [hc, ← e]
      exact .fbool _ _
    rw [if_neg p9]
    exact case_word (by omega) lk
  · rw [if_neg k2]
    obtain ⟨g1, g2⟩ := word_good (w % 10).toNat
    refine .text _ _ _ g1 g2 ?_
    have : kd = 0 ∨ kd = 3 := by omega
    rcases this with rfl | rfl
    · exact .inl rfl
    · exact .inr rfl

theorem fmt_ok (sl : Addr) (ns : List Int) : ∀ i, i < 6 → FmtOk sl ns (rowOf ns i) := by
  intro i _ C m news xs hsl hsns hE ok hr
  obtain ⟨v0, v1⟩ := lawAt_range ns (1 + 2 * i)
  obtain ⟨w0, w1⟩ := lawAt_range ns (2 + 2 * i)
  refine fmt_fn sl ns (rowOf ns i).fk (rowOf ns i).wk (rowOf ns i).gk _ _ (kdTy (rowOf ns i).kd) (rowOf ns i).looks ?_ C m news xs hsl hsns hE ok hr
  refine cell_case w0 w1 ?_ ?_ (kindAt_le _) ?_
  · show (lawAt ns (1 + 2 * i) / 12 % 7).toNat < 7; omega
  · show (lawAt ns (1 + 2 * i) / 84 % 6).toNat < 6; omega
  · show (lawAt ns (1 + 2 * i) / 2016 % 10).toNat < 10; omega
end Mine

end
open PySem PySem.W PyProof.Rows
set_option maxRecDepth 100000 in
set_option maxHeartbeats 8000000 in
theorem PySem.Challenge.cw_bf6024_01_holds : PySem.Challenge.rw_bf6024_01.Holds :=
  Mine.hd (by w_strict (k_go0; (all_goals try k_fold); refine' Mine.law_wp ?zk ?zx ?zt ?zf ?zl ?zi ?zn ?zb ?znn (fun w => by rfl) (by rfl) (by decide +kernel) ?zm (Mine.fmt_ok _ _) ⟨#[], .head _, .inl rfl⟩ ?zq; (case zk => assumption); (case zl => assumption); (case zx => assumption); (case zt => assumption); (case zf => assumption); (case zi => assumption); (case znn => assumption); (case zb => assumption); (case zn => omega); (case zm => rfl); (intro h2 tk2 m2 F2 k2; refine ⟨goodW_bool F2 (by assumption) (raisesW_false ?_) ?_, ?_, trivial⟩); (· wrow_none_raised); (· first | wrow_post | rfl); exact k2))
