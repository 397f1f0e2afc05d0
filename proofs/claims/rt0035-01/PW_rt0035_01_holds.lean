import PyProof.Rows.All
import Wide.All
import OpenK.AllK
import Wide.FinOn
import PySem.Challenge.RW_rt0035_01
open PySem PySem.W PyProof.Rows
set_option Elab.async false
set_option maxRecDepth 100000
set_option compiler.extract_closed false
namespace Mine
section
open Lean
/-- how a premise of a rule is closed -/
def wSide (c : String) : MacroM (TSyntax `tactic) := match c with
  | "a" => `(tactic| assumption)
  | "d" => `(tactic| decide)
  | "o" => `(tactic| omega)
  | "r" => `(tactic| rfl)
  | "x" => `(tactic| first | assumption | rfl)
  | "i" => `(tactic| (intro _ _ _; walk_at "u"))
  | "s" => `(tactic| (simp; done))
  | "m" => `(tactic| mul_fits)
  | "M" => `(tactic| exact IntMulOk.of_right (by decide))
  | "n" => `(tactic| (simp only [List.length_append, List.length_cons, List.length_nil]; omega))
  | c => let s := Syntax.mkStrLit c; `(tactic| walk_at $s)
/-- the arguments of a rule: `_` a goal that is left, `f` one under a binder, else a premise and what closes it (`z`: by assumption, after all others) -/
def wArgs (ps : List String) : MacroM (Array (TSyntax `term) × Array (TSyntax `ident × TSyntax `tactic)) := do
  let mut as := #[]
  let mut cs := #[]
  let mut zs := #[]
  for p in ps do
    if p == "_" then as := as.push (← `(?_))
    else if p == "f" then as := as.push (← `(fun _ => ?_))
    else
      let k := mkIdent (← Macro.addMacroScope (.mkSimple s!"p{as.size}"))
      as := as.push (← `(?$k))
      if p == "z" then zs := zs.push (k, ← wSide "a") else cs := cs.push (k, ← wSide p)
  return (as, cs ++ zs)
def wThen (t : TSyntax `tactic) (cs : Array (TSyntax `ident × TSyntax `tactic)) : MacroM (TSyntax `tactic) :=
  cs.foldlM (init := t) fun t (k, c) => `(tactic| ($t:tactic; case $k:ident => $c:tactic))
/-- a rule by its name: `NAME p1 p2 ..` -/
def wRule (s : String) : MacroM (TSyntax `tactic) := match s.splitOn " " with
  | n :: ps => do
    if n.startsWith "@" then
      let s := Syntax.mkStrLit (n.drop 1).toString
      `(tactic| walk_at $s)
    else
      let (as, cs) ← wArgs ps
      let n := mkIdent n.toName
      if cs.isEmpty then `(tactic| with_reducible refine $n $as*) else wThen (← `(tactic| (with_reducible refine' $n $as*))) cs
  | [] => Macro.throwUnsupported
def wFirst (ts : Array (TSyntax `tactic)) : MacroM (TSyntax `tactic) := `(tactic| first $[| $ts:tactic]*)
def wHoles (n : Nat) : MacroM (Array (TSyntax `term)) := (Array.replicate n ()).mapM fun _ => `(_)
/-- a group: `HEAD n` -/
def wGroup (ev : Bool) (s : String) : MacroM (TSyntax `tactic) := match s.splitOn " " with
  | h :: n :: _ => do
    let k := Syntax.mkStrLit ("m:" ++ h)
    let as ← wHoles n.toNat!
    if ev then
      let c := mkIdent (`PySem.Expr ++ h.toName)
      let e := mkIdent `Ev
      `(tactic| ((with_reducible show $e _ ($c $as*) _ _); walk_at $k))
    else
      let c := mkIdent h.toName
      `(tactic| ((with_reducible show $c $as*); walk_at $k))
  | _ => Macro.throwUnsupported
def wTab (k : String) : String := match k with
  | "m:Name" => "Ev.n_fmt a a d _|Ev.loc a d lk _ d|Ev.cel a d a lk _ d|Ev.mv a a d _|Ev.cc a a d _|Ev.ms a a d _|Ev.b_len a a d _|Ev.b_range a a d _|Ev.b_min a a d _|Ev.b_sum a a d _|Ev.b_list a a d _|Ev.b_isinstance a a d _|Ev.b_str a a d _|Ev.b_enumerate a a d _|@fn|Ev.n_esc a a d _"
  | "m:Constant" => "Ev.cInt _|Ev.cStr _|Ev.cNone _|Ev.cBool _"
  | "m:Call" => "Ev.m_join _ u u u|Ev.m_find _ u u u|Ev.m_translate _ u u u|Ev.methA _ u u u|Ev.lower _ u|Ev.call _ u u"
  | "m:Subscript" => "Ev.slcSn a d lk d _ _|Ev.slcLn a d lk d _|Ev.slcLc a d a lk d _|Ev.sub _"
  | "m:UnaryOp" => "Ev.negc _|Ev.neg _"
  | "m:BoolOp" => "Ev.and2 _|Ev.or2 _"
  | "m:kon" => "kon_next _|kon_ret _|kon_brk _"
  | "m:Xs" => "Xs.cons _|Xs.nil _"
  | "m:X1" => "X1.iff _|X1.ret _|X1.brk _|X1.asrt _|X1.asg _ u u u|X1.aug a d lk _|X1.expr' _ u"
  | "m:And" => "len_ok s _|kcal_bi _|kcal_ty _|@kf|fin_int a _|fin_str a _|fin_bool a _|and_rfl _|br_f _|br_t _|br_f' _|br_t' _|br_dt x _|br_df x _|br_dt' x _|br_df' x _|And.intro f f"
  | "m:Evs" => "Evs.nil _|Evs.cons _ u"
  | "m:Asn" => "Asn.name _|Asn.item _|Asn.tupL u hp r _|Asn.tupT u hp r _"
  | "m:Sto" => "Sto.loc a d _|Sto.cel a d a _"
  | "m:Bin" => "Bin.addI _|Bin.subI _|Bin.andI _|Bin.xorI _|Bin.divI d d _|Bin.modI d _|Bin.mulI m _|Bin.powI o d _"
  | "m:Cal" => "Cal.isStr _|Cal.translate a a _|Cal.min2 _|Cal.range1 _|Cal.range2 _|Cal.lenL hp _ _|Cal.lenS _ _"
  | "m:Cmp" => "Cmp.eqI _|Cmp.neI _|Cmp.ltI _|Cmp.leI _|Cmp.gtI _|Cmp.geI _|Cmp.eqS _|Cmp.neS _|Cmp.isNotSR _|Cmp.isNotR _|Cmp.isR _|Cmp.inS _|Cmp.notInS _"
  | "m:Tr" => "Tr.bo _|Tr.not _|Tr.cmp _ u|Tr.val _ u"
  | "m:Tru" => "Tru.bool _|Tru.int _|Tru.str _ _|Tru.list hp _ _"
  | "m:Trs" => "Trs.nilA _|Trs.nilO _|Trs.andc _|Trs.orc _"
  | "m:Ibin" => "Ibin.addI _|Ibin.subI _"
  | "m:Sub" => "Sub.last hp a a _ i|Sub.listF hp o _ i|Sub.listJ hp a o o _ i|Sub.list hp _ _ _ _ i|Sub.strI a o o _ i|Sub.str _ _ _ i"
  | "m:EvO" => "EvO.none _|EvO.some _"
  | "m:AsnL" => "AsnL.cons _|AsnL.nil _"
  | "m:StoL" => "StoL.cons _|StoL.nil _"
  | "m:JS" => "JS.cons _ u|JS.nil _ _"
  | "m:loopEnd" => "loop_next _|loop_brk _|loop_ret _"
  | _ => ""
/-- the walk: one step by the goal's head -/
def wAt (k : String) : MacroM (TSyntax `tactic) := do
  match k with
  | "u" => `(tactic| with_unfolding_all rfl)
  | "lk" => `(tactic| first | assumption | (with_unfolding_all rfl))
  | "hp" => `(tactic| with_unfolding_all first | assumption | exact $(mkIdent `getNew) | (refine $(mkIdent `getApp) ?_; walk_at "hp") | (refine $(mkIdent `getSet) ?_; walk_at "hp") | (refine $(mkIdent `Ext.get) (by assumption) ?_; assumption))
  | "hx" => `(tactic| first | assumption | (with_unfolding_all refine $(mkIdent `Ext.apps) ?_; walk_at "hx"))
  | "fn" => `(tactic| fail)
  | "kf" => `(tactic| fail)
  | "w" => `(tactic| ((repeat' walk_at "s"); (all_goals (try assumption)); (repeat' walk_at "s"); (all_goals (try assumption))))
  | "s" => wFirst ((← "Ev 4|kon 5|Xs 4|X1 4|And 2|Evs 5|Asn 5|Sto 5|Bin 6|Cal 5|Cmp 6|Tr 4|Tru 4|Trs 5|Ibin 6|Sub 7|EvO 4|AsnL 5|StoL 5|JS 5|loopEnd 4".splitOn "|" |>.toArray.mapM (wGroup false)) ++ (← "ex_s u u _|ex_l hp u u _ _".splitOn "|" |>.toArray.mapM wRule))
  | "m:Ev" => wFirst ((← "Name 2|Constant 3|Call 4|Subscript 3|UnaryOp 3|BoolOp 3".splitOn "|" |>.toArray.mapM (wGroup true)) ++ (← "Ev.attrA _|Ev.fstr _|Ev.fval _|Ev.bin _|Ev.ife _|Ev.list _|Ev.tup _|Ev.cmp _ u".splitOn "|" |>.toArray.mapM wRule))
  | k => let t := wTab k; if t == "" then Macro.throwUnsupported else wFirst (← (t.splitOn "|").toArray.mapM wRule)
/-- a call of the text's function number n, whose contract is l -/
def wFn (n : String) : MacroM (TSyntax `tactic) := do
  let (i, nm, mm, r) := (Syntax.mkNumLit n, mkIdent (.mkSimple s!"nm{n}"), mkIdent (.mkSimple s!"mem{n}"), mkIdent `recAt)
  `(tactic| ((with_reducible refine' $(mkIdent `Ev.fnm) (d := $r $i) ?k1 ?k2 ?k3 ?k4 ?_ ?k5); (case k4 => exact $nm); (case k1 => assumption); (case k2 => decide); (case k3 => exact $(mkIdent `Ok.mem) (by assumption) $mm); (case k5 => decide)))
def wKf (n l : String) : MacroM (TSyntax `tactic) := match l.splitOn " " with
  | f :: ps => do
    let (nm, mm, ok) := (mkIdent (.mkSimple s!"nm{n}"), mkIdent (.mkSimple s!"mem{n}"), mkIdent (.mkSimple s!"ok{n}"))
    let (as, cs) ← wArgs ps
    let f := mkIdent f.toName
    wThen (← `(tactic| ((with_reducible refine' $(mkIdent `kcal_fn) ?k1 $mm ?k2 $ok ?k3 ?k4 ($f $as*)); (case k2 => exact $nm); (case k1 => assumption); (case k3 => rfl); (case k4 => assumption)))) cs
  | [] => Macro.throwUnsupported
/-- what a text adds: functions that can be called by name, contracts (number, lemma), further rules -/
def wMore (k : String) (fns : List String) (kfs : List (String × String)) (s : String) : MacroM (TSyntax `tactic) := do
  match k with
  | "fn" => if fns.isEmpty then Macro.throwUnsupported else wFirst (← fns.toArray.mapM wFn)
  | "kf" => if kfs.isEmpty then Macro.throwUnsupported else wFirst (← kfs.toArray.mapM fun (n, l) => wKf n l)
  | "s" => if s == "" then Macro.throwUnsupported else wFirst (← (s.splitOn "|").toArray.mapM wRule)
  | _ => Macro.throwUnsupported
end
end Mine
set_option maxHeartbeats 8000000
namespace Mine
def view : Program := { PySem.Challenge.pw_rt0035_01 with main := { PySem.Challenge.pw_rt0035_01.main with
  body := [0, 1, 3, 4, 6, 7, 9, 10, 11, 12, 13, 14, 15, 16, 17, 18, 19, 20, 21, 22, 23, 24, 25, 26, 27, 28, 29, 30, 31, 33, 34, 35, 36, 37, 39, 40, 41, 42, 43, 44, 45, 46, 47].filterMap fun i => PySem.Challenge.pw_rt0035_01.main.body[i]? } }
theorem rows2 (r r' : String) {P : World → Prop} (h1 : ∀ w : World, P ((w.withFollow r false).withFollow r' false)) (h2 : ∀ w : World, P ((w.withFollow r false).withFollow r' true))
    (h3 : ∀ w : World, P ((w.withFollow r true).withFollow r' false)) (h4 : ∀ w : World, P ((w.withFollow r true).withFollow r' true)) : ∀ w : World, P w := fun w => by
  have a : ∀ w : World, P (w.withFollow r false) := fun w => by
    have h : ∀ b : Bool, P ((w.withFollow r false).withFollow r' b) := fun b => by cases b; exact h1 w; exact h2 w
    have := h ((w.withFollow r false).params.followText r'); rwa [World.withFollow_self] at this
  have b : ∀ w : World, P (w.withFollow r true) := fun w => by
    have h : ∀ b : Bool, P ((w.withFollow r true).withFollow r' b) := fun b => by cases b; exact h3 w; exact h4 w
    have := h ((w.withFollow r true).params.followText r'); rwa [World.withFollow_self] at this
  have h : ∀ b : Bool, P (w.withFollow r b) := fun c => by cases c; exact a w; exact b w
  have := h (w.params.followText r); rwa [World.withFollow_self] at this
theorem said_ok : PySem.Challenge.rw_rt0035_01.wellSaid = true := by decide +kernel
abbrev loose3 : List Str := [Str.ofString "_twin_re_1", Str.ofString "_special_chars_map", Str.ofString "_filemode_table"]
theorem holds2 {r : OpenRow} {q : Program} {loose : List Str} {Xt : Shared → Bool} {XP : (Str → Option Value) → Heap → Prop} {α : Type} {Yf : Shared → α} {Ya : World → α} {YP : World → Heap → Prop} {d : DefRec} {kwd : List (Str × PySem.Expr)} {N : Nat}
    (b1 : ∀ (w : World) (s : Shared), Yf s = Ya w → YP w s.heap) (b2 : ∀ (w : World) (h h' : Heap), YP w h → (∀ (b : Addr) (o : Obj), h.get? b = some o → h'.get? b = some o) → YP w h')
    (b3 : ∀ (s : Shared), Xt s = true → XP (s.heap.nsMap mainGlobals) s.heap) (b4 : ∀ (mg : Str → Option Value) (h h' : Heap), XP mg h → (∀ (b : Addr) (o : Obj), h.get? b = some o → h'.get? b = some o) → XP mg h')
    (b5 : defOf q r.name = some (d, kwd)) (b6 : r.prog.theDef r.name = some (d.params, d.body, d.scope)) (b7 : kwWritten? d.params.kwonlyargs d.params.kw_defaults = some kwd)
    (b8 : ∀ (s : Shared), Xt s = true → RecFacts r.records s.heap) (b9 : (!r.writes || List.isEmpty r.records) = true) (c1 : r.wellSaid = true)
    (c2 : (chainsOk q && opensWell r.prog && (frees r.toRowW && r.within.isEmpty)) = true) (c3 : r.prog.bare) (c4 : r.promised)
    (both : LeftO r.prog q loose Xt Yf Ya N ∧ WalkO q loose XP YP r.toRowW d kwd fun f vs => call f vs) : r.Holds :=
  holds_open both.1 b1 b2 b3 b4 b5 b6 b7 b8 b9 c1 c2 c3 c4 both.2
local macro_rules | `(tactic| o_law) => `(tactic| refine holds_law Mine.said_ok fun said => ?_)
local macro_rules | `(tactic| o_head $H) => `(tactic| (
  refine holds2 (q := Mine.view) (loose := Mine.loose3)
    (Xt := fun s => xlAt Mine.view [] s && recOk (RowW.records (OpenRow.toRowW PySem.Challenge.rw_rt0035_01.row)) s)
    (XP := XL Mine.view []) (Yf := Hook.obs $H) (Ya := Hook.val $H) (YP := Hook.says $H) (N := 4682) (Hook.of $H) (Hook.keeps $H)
    (fun s e => xl_of s (Bool.and_eq_true_iff.mp e).1) XL.keeps (by rfl) (by rfl) (by rfl) (fun s e => recFacts_of (Bool.and_eq_true_iff.mp e).2) (by rfl) (by assumption) (by decide +kernel)
    ⟨rfl, rfl, rfl, rfl, rfl, by decide +kernel⟩ ?hw ?hc))
open_top hd for PySem.Challenge.rw_rt0035_01
end Mine
set_option maxHeartbeats 8000000
namespace Mine
noncomputable abbrev bodyOf {P : World → Prop} {B C : Prop} (_ : (∀ w, P w) ∧ B → C) : World → Prop := P
noncomputable abbrev LeftAt : World → Prop := bodyOf hd
theorem ends_eq (p : Program) (w : World) (N : Nat) : openEnds treeTable p w N = ((Fast.tw10274390034422433532 Fast.tw14364793385576792824 (opening p) w N (Fast.tw1435165496053646825 (opening p)).1 (Fast.tw1435165496053646825 (opening p)).2).bind (Fast.tw14289696077712309145 p)).bind fun s₀ =>
    match s₀.heap.isNs mainGlobals && s₀.gens.size == 0 with
  | true => (Fast.tw14082659384304107361 Fast.tw14364793385576792824 p w s₀.heap.objs.size (s₀.heap.nsMap mainGlobals "__annotations__") N s₀ (topStub p)).bind fun s₁ => match staticsOk (importedModules p.main.body) s₀.heap s₁.heap && namesBound p s₁.heap && gensDone s₁ && laidKept s₀.heap s₁.heap with
      | true => some s₁
      | false => none
  | false => none := by
  rw [← Fast.te10274390034422433532, ← Fast.te14364793385576792824, ← Fast.te1435165496053646825, ← Fast.te14289696077712309145, ← Fast.te14082659384304107361]; rfl
theorem left1 (w : World) : LeftAt ((w.withFollow "comprehension-iter-twice" false).withFollow "special-get-raises" false) := by
  unfold LeftAt bodyOf; dsimp only
  rw [ends_eq, Fast.te4187177175401517315]
  kernel_rfl
theorem left2 (w : World) : LeftAt ((w.withFollow "comprehension-iter-twice" false).withFollow "special-get-raises" true) := by
  unfold LeftAt bodyOf; dsimp only
  rw [ends_eq, Fast.te4187177175401517315]
  kernel_rfl
theorem left3 (w : World) : LeftAt ((w.withFollow "comprehension-iter-twice" true).withFollow "special-get-raises" false) := by
  unfold LeftAt bodyOf; dsimp only
  rw [ends_eq, Fast.te4187177175401517315]
  kernel_rfl
theorem left4 (w : World) : LeftAt ((w.withFollow "comprehension-iter-twice" true).withFollow "special-get-raises" true) := by
  unfold LeftAt bodyOf; dsimp only
  rw [ends_eq, Fast.te4187177175401517315]
  kernel_rfl
theorem left : ∀ w : World, LeftAt w := rows2 "comprehension-iter-twice" "special-get-raises" left1 left2 left3 left4
end Mine
set_option maxHeartbeats 4000000
namespace Mine
inductive PV where
  | none
  | bool (b : Bool)
  | int (i : Int)
  | str (s : Str)
  | ref (i : Nat)
  | fn (x : Str)
  | raw (v : Value)
inductive AO where
  | list (fz : Bool) (xs : List PV)
  | tup (fz : Bool) (xs : List PV)
  | rng (a b c : Int)
  | app (i : Nat)
  | any
noncomputable def AO.fz : AO → Bool
  | .list f _ => f
  | .tup f _ => f
  | _ => false
structure AS where
  loc : Str → Option PV
  cel : Str → Option PV
  hp : List AO
inductive All2 {A B : Type} (R : A → B → Prop) : List A → List B → Prop
  | nil : All2 R [] []
  | cons {a b as bs} : R a b → All2 R as bs → All2 R (a :: as) (b :: bs)
section
variable {A B : Type} {R : A → B → Prop}
theorem All2.length {as : List A} {bs : List B} (h : All2 R as bs) : as.length = bs.length := by
  induction h with
  | nil => rfl
  | cons _ _ ih => simp [ih]
theorem All2.mono {R' : A → B → Prop} {as : List A} {bs : List B} (h : All2 R as bs) (k : ∀ a b, R a b → R' a b) : All2 R' as bs := by
  induction h with
  | nil => exact .nil
  | cons x _ ih => exact .cons (k _ _ x) ih
theorem All2.append {as as' : List A} {bs bs' : List B} (h : All2 R as bs) (h' : All2 R as' bs') : All2 R (as ++ as') (bs ++ bs') := by
  induction h with
  | nil => exact h'
  | cons x _ ih => exact .cons x ih
theorem All2.get {as : List A} {bs : List B} (h : All2 R as bs) : ∀ {i : Nat} {a : A}, as[i]? = some a → ∃ b, bs[i]? = some b ∧ R a b := by
  induction h with
  | nil => intro i a e; simp at e
  | cons x _ ih =>
    intro i a e
    cases i with
    | zero => simp at e; subst e; exact ⟨_, rfl, x⟩
    | succ i => simp at e; simpa using ih e
theorem All2.get' {as : List A} {bs : List B} (h : All2 R as bs) : ∀ {i : Nat} {b : B}, bs[i]? = some b → ∃ a, as[i]? = some a ∧ R a b := by
  induction h with
  | nil => intro i a e; simp at e
  | cons x _ ih =>
    intro i a e
    cases i with
    | zero => simp at e; subst e; exact ⟨_, rfl, x⟩
    | succ i => simp at e; simpa using ih e
theorem All2.take {as : List A} {bs : List B} (h : All2 R as bs) : ∀ n, All2 R (as.take n) (bs.take n) := by
  induction h with
  | nil => intro n; simp; exact .nil
  | cons x _ ih =>
    intro n
    cases n with
    | zero => exact .nil
    | succ n => exact .cons x (ih n)
theorem All2.drop {as : List A} {bs : List B} (h : All2 R as bs) : ∀ n, All2 R (as.drop n) (bs.drop n) := by
  induction h with
  | nil => intro n; simp; exact .nil
  | cons x h ih =>
    intro n
    cases n with
    | zero => exact .cons x h
    | succ n => exact ih n
theorem All2.set {as : List A} {bs : List B} (h : All2 R as bs) : ∀ (n : Nat) {a : A} {b : B}, R a b → All2 R (as.set n a) (bs.set n b) := by
  induction h with
  | nil => intro n a b _; exact .nil
  | cons x h ih =>
    intro n a b r
    cases n with
    | zero => exact .cons r h
    | succ n => exact .cons x (ih n r)
end
noncomputable def VRel (mg : Str → Option Value) (α : List Addr) : PV → Value → Prop
  | .none, v => v = .none
  | .bool b, v => v = .bool b
  | .int i, v => ∃ t, v = .int i t
  | .str x, v => ∃ t, v = .str x t
  | .ref i, v => ∃ a, α[i]? = some a ∧ v = .ref a
  | .fn x, v => ∃ a, v = .ref a ∧ mg x = some (.ref a)
  | .raw u, v => v = u
noncomputable abbrev VsRel (mg : Str → Option Value) (α : List Addr) := All2 (VRel mg α)
theorem pre_get {α α' : List Addr} (h : α <+: α') {i : Nat} {a : Addr} (e : α[i]? = some a) : α'[i]? = some a := by
  obtain ⟨t, rfl⟩ := h
  have : i < α.length := (List.getElem?_eq_some_iff.mp e).1
  rw [List.getElem?_append_left this]; exact e
theorem VRel.mono {mg α α'} (h : α <+: α') : ∀ {p : PV} {v : Value}, VRel mg α p v → VRel mg α' p v
  | .none, _, x => x
  | .bool _, _, x => x
  | .int _, _, x => x
  | .str _, _, x => x
  | .ref _, _, ⟨a, e, r⟩ => ⟨a, pre_get h e, r⟩
  | .fn _, _, x => x
  | .raw _, _, x => x
theorem VsRel.mono {mg α α'} (h : α <+: α') {ps : List PV} {vs : List Value} (x : VsRel mg α ps vs) : VsRel mg α' ps vs := All2.mono x fun _ _ => VRel.mono h
noncomputable abbrev appObj (l : Addr) : Obj := { cls := .type "builtin_function_or_method", data := .fields #[.builtin "list.append", .ref l] }
noncomputable def OAt (mg : Str → Option Value) (α : List Addr) (h : Heap) (a : Addr) : AO → Prop
  | .list f xs => ∃ vs, h.IsList a vs.toArray ∧ VsRel mg α xs vs ∧ (f = false → h.PlainList a vs.toArray)
  | .tup _ xs => ∃ vs, h.IsTuple a vs.toArray ∧ VsRel mg α xs vs
  | .rng x y z => ∃ t u v, IsRange h a x y z t u v
  | .app i => ∃ l, α[i]? = some l ∧ h.get? a = some (appObj l)
  | .any => True
theorem OAt.mono {mg α α' h h' a} (hp : α <+: α') (hk : ∀ o, h.get? a = some o → h'.get? a = some o) : ∀ {o : AO}, OAt mg α h a o → OAt mg α' h' a o
  | .list _ _, ⟨vs, ⟨o, e, r⟩, x, q⟩ => ⟨vs, ⟨o, hk _ e, r⟩, x.mono hp, fun f => (q f).at hk⟩
  | .tup _ _, ⟨vs, ⟨o, e, r⟩, x⟩ => ⟨vs, ⟨o, hk _ e, r⟩, x.mono hp⟩
  | .rng _ _ _, ⟨t, u, v, e⟩ => ⟨t, u, v, hk _ e⟩
  | .app _, ⟨l, e, r⟩ => ⟨l, pre_get hp e, hk _ r⟩
  | .any, _ => trivial
structure Facts (prog : Program) (K : Frag) (mg : Str → Option Value) (h : Heap) : Prop where
  g : h.Ns mainGlobals mg
  b : ∃ mb, h.Ns builtinsNs mb ∧ ∀ x : Str, x ≠ "__name__" → mb x = bootBuiltins x
  nolimit : h.NoLimit
  fn : ∀ d ∈ recsOf prog, ∃ a o pm code doc, mg d.name = some (.ref a) ∧ h.get? a = some o ∧ o.data = .func (Calls.docDef d.name d.params d.body d.scope pm code doc) ∧ h.CodeRec code d.name
  kin : K.In h
structure Sx where
  prog : Program
  w : World
  K : Frag
  mg : Str → Option Value
  tp : Addr
  TI : Array Value → Prop
  s0 : Shared
  fzo : Addr → Option Obj
  st : List Addr
  bpro : Addr → Option Obj
  facts : ∀ h : Heap, (∀ b o, bpro b = some o → h.get? b = some o) → Facts prog K mg h
structure Cx extends Sx where
  A : Around
  env : Env
  kind : env.scope.kind = .function
  glob : env.globals = mainGlobals
  bi : env.builtins = builtinsNs
  hd : A.handled = none
  lv : Nat
  room : A.depth + lv < recursionLimit ∧ A.units + 8 * lv + 8 < cLine
noncomputable abbrev Pro := Addr → Option Obj
structure Rel (C : Cx) (pro : Pro) (σ : AS) (α : List Addr) (s : Shared) : Prop where
  tk : 0 < s.toks
  sub : ∀ b o, C.bpro b = some o → pro b = some o
  sh : s = { C.s0 with heap := s.heap, toks := s.toks }
  keep : ∀ b o, pro b = some o → s.heap.get? b = some o
  stat : C.st <+: α
  len : α.length = σ.hp.length
  nodup : α.Nodup
  live : ∀ a ∈ α, ∃ o, s.heap.get? a = some o
  keepF : ∀ b o, C.fzo b = some o → s.heap.get? b = some o
  pf : ∀ b o, pro b = some o → C.fzo b = none
  free : ∀ a, a ∈ α → pro a = none
  freeF : ∀ (i : Nat) (a : Addr) (o : AO), α[i]? = some a → σ.hp[i]? = some o → o.fz = false → C.fzo a = none
  nL : C.env.locals ∉ α
  pL : pro C.env.locals = none ∧ C.fzo C.env.locals = none
  ns : ∃ m, s.heap.Ns C.env.locals m ∧ ∀ x pv, σ.loc x = some pv → ∃ v, m x = some v ∧ VRel C.mg α pv v
  objs : ∀ (i : Nat) (o : AO) (a : Addr), σ.hp[i]? = some o → α[i]? = some a → OAt C.mg α s.heap a o
  cel : ∀ x c, C.env.cells.lookup x = some c → c ∉ α ∧ c ≠ C.env.locals ∧ c ≠ C.tp ∧ (pro c = none ∧ C.fzo c = none) ∧ ∃ v, s.heap.IsCell c v ∧ ∀ pv, σ.cel x = some pv → ∃ u, v = some u ∧ VRel C.mg α pv u
  cinj : ∀ x y c, C.env.cells.lookup x = some c → C.env.cells.lookup y = some c → x = y
  tab : C.tp ∉ α ∧ C.tp ≠ C.env.locals ∧ (pro C.tp = none ∧ C.fzo C.tp = none) ∧ ∃ ps, s.heap.get? C.tp = some (tabObj ps) ∧ C.TI ps
section
variable {C : Cx} {pro : Pro} {σ : AS} {α : List Addr} {s : Shared}
/-- the heap grows, nothing that stood turns -/
theorem Rel.grow (r : Rel C pro σ α s) {h' : Heap} {tk : Tok} (hk : ∀ b o, s.heap.get? b = some o → h'.get? b = some o) (htk : s.toks ≤ tk) : Rel C pro σ α { s with heap := h', toks := tk } where
  tk := Nat.lt_of_lt_of_le r.tk htk
  sub := r.sub
  sh := by rw [r.sh]
  keep := fun b o e => hk _ _ (r.keep b o e)
  stat := r.stat
  keepF := fun b o e => hk _ _ (r.keepF b o e)
  pf := r.pf
  len := r.len
  nodup := r.nodup
  live := fun a ha => let ⟨o, e⟩ := r.live a ha; ⟨o, hk _ _ e⟩
  free := r.free
  freeF := r.freeF
  nL := r.nL
  pL := r.pL
  ns := let ⟨m, hn, hm⟩ := r.ns; ⟨m, hn.keeps hk, hm⟩
  objs := fun i o a e f => (r.objs i o a e f).mono (List.prefix_refl _) (hk a)
  cel := fun x c e => let ⟨a1, a2, a3, a4, v, hv, q⟩ := r.cel x c e; ⟨a1, a2, a3, a4, v, hv.keeps hk, q⟩
  cinj := r.cinj
  tab := let ⟨a1, a2, a3, ps, e, t⟩ := r.tab; ⟨a1, a2, a3, ps, hk _ _ e, t⟩
theorem Rel.tok (r : Rel C pro σ α s) {tk : Tok} (htk : s.toks ≤ tk) : Rel C pro σ α { s with toks := tk } := r.grow (h' := s.heap) (fun _ _ e => e) htk
theorem Rel.at (r : Rel C pro σ α s) {i : Nat} {o : AO} (e : σ.hp[i]? = some o) : ∃ a, α[i]? = some a ∧ OAt C.mg α s.heap a o := by
  have hi : i < α.length := by rw [r.len]; exact (List.getElem?_eq_some_iff.mp e).1
  exact ⟨α[i], by simp [hi], r.objs i o _ e (by simp [hi])⟩
theorem get_size_none {h : Heap} : h.get? h.objs.size = none := by
  cases e : h.get? h.objs.size with
  | none => rfl
  | some o => exact absurd (Heap.lt_size e) (Nat.lt_irrefl _)
theorem Rel.new_none (r : Rel C pro σ α s) {a : Addr} (e : s.heap.get? a = none) : pro a = none := by
  cases q : pro a with
  | none => rfl
  | some o => rw [r.keep a o q] at e; cases e
theorem Rel.new_noneF (r : Rel C pro σ α s) {a : Addr} (e : s.heap.get? a = none) : C.fzo a = none := by
  cases q : C.fzo a with
  | none => rfl
  | some o => rw [r.keepF a o q] at e; cases e
theorem Rel.new_notin (r : Rel C pro σ α s) {a : Addr} (e : s.heap.get? a = none) : a ∉ α := fun ha => by
  obtain ⟨o, q⟩ := r.live a ha
  rw [q] at e; cases e
theorem Rel.new_ne_L (r : Rel C pro σ α s) {a : Addr} (e : s.heap.get? a = none) : a ≠ C.env.locals := fun h => by
  obtain ⟨m, ⟨o, _, _, q, _⟩, _⟩ := r.ns
  rw [← h] at q; rw [q] at e; cases e
theorem Rel.new_ne_tp (r : Rel C pro σ α s) {a : Addr} (e : s.heap.get? a = none) : a ≠ C.tp := fun h => by
  obtain ⟨_, _, _, ps, q, _⟩ := r.tab
  rw [← h] at q; rw [q] at e; cases e
theorem Rel.new_ne_cel (r : Rel C pro σ α s) {a : Addr} (e : s.heap.get? a = none) {x : Str} {c : Addr} (hc : C.env.cells.lookup x = some c) : a ≠ c := fun h => by
  obtain ⟨_, _, _, _, v, ⟨o, q, _⟩, _⟩ := r.cel x c hc
  rw [← h] at q; rw [q] at e; cases e
/-- a new object, written down -/
theorem Rel.add (r : Rel C pro σ α s) {h' : Heap} {tk : Tok} {a : Addr} {o : AO} (hk : ∀ b o, s.heap.get? b = some o → h'.get? b = some o) (hn : s.heap.get? a = none) (ha : ∃ o, h'.get? a = some o)
    (ho : OAt C.mg (α ++ [a]) h' a o) (htk : s.toks ≤ tk) : Rel C pro { σ with hp := σ.hp ++ [o] } (α ++ [a]) { s with heap := h', toks := tk } := by
  have hpre : α <+: α ++ [a] := List.prefix_append _ _
  have r' := r.grow (h' := h') (tk := tk) hk htk
  refine ⟨r'.tk, r.sub, r'.sh, r'.keep, r.stat.trans hpre, by simp [r.len], ?_, ?_, r'.keepF, r.pf, ?_, ?_, ?_, r.pL, ?_, ?_, ?_, r.cinj, ?_⟩
  · rw [List.nodup_append]
    refine ⟨r.nodup, by simp, fun x hx y hy => ?_⟩
    simp at hy; subst hy
    rintro rfl; exact r.new_notin hn hx
  · intro b hb
    rcases List.mem_append.mp hb with hb | hb
    · exact r'.live b hb
    · simp at hb; subst hb; exact ha
  · intro b hb
    rcases List.mem_append.mp hb with hb | hb
    · exact r.free b hb
    · simp at hb; subst hb; exact r.new_none hn
  · intro i b o' e1 e2 hf
    by_cases hi : i < α.length
    · rw [List.getElem?_append_left hi] at e1
      rw [List.getElem?_append_left (by rw [← r.len]; exact hi)] at e2
      exact r.freeF i b o' e1 e2 hf
    · have : b = a := by
        rw [List.getElem?_append_right (Nat.le_of_not_lt hi)] at e1
        rcases q : i - α.length with _ | n
        · rw [q] at e1; simp at e1; exact e1.symm
        · rw [q] at e1; simp at e1
      subst this; exact r.new_noneF hn
  · intro h
    rcases List.mem_append.mp h with h | h
    · exact r.nL h
    · simp at h; exact r.new_ne_L hn h.symm
  · obtain ⟨m, hns, hm⟩ := r'.ns
    exact ⟨m, hns, fun x pv e => let ⟨v, e1, e2⟩ := hm x pv e; ⟨v, e1, e2.mono hpre⟩⟩
  · intro i o' b e1 e2
    by_cases hi : i < α.length
    · rw [List.getElem?_append_left hi] at e2
      rw [List.getElem?_append_left (by rw [← r.len]; exact hi)] at e1
      exact (r'.objs i o' b e1 e2).mono hpre fun _ e => e
    · have hi' := Nat.le_of_not_lt hi
      rw [List.getElem?_append_right hi'] at e2
      rw [List.getElem?_append_right (by rw [← r.len]; exact hi'), ← r.len] at e1
      rcases q : i - α.length with _ | n
      · rw [q] at e1 e2; simp at e1 e2; subst e1 e2; exact ho
      · rw [q] at e2; simp at e2
  · intro x c e
    obtain ⟨a1, a2, a3, a4, v, hv, q⟩ := r'.cel x c e
    refine ⟨fun h => ?_, a2, a3, a4, v, hv, fun pv e => let ⟨u, e1, e2⟩ := q pv e; ⟨u, e1, e2.mono hpre⟩⟩
    rcases List.mem_append.mp h with h | h
    · exact a1 h
    · simp at h; exact r.new_ne_cel hn e h.symm
  · obtain ⟨a1, a2, a3, ps, e, t⟩ := r'.tab
    refine ⟨fun h => ?_, a2, a3, ps, e, t⟩
    rcases List.mem_append.mp h with h | h
    · exact a1 h
    · simp at h; exact r.new_ne_tp hn h.symm
theorem nd_inj {α : List Addr} (hd : α.Nodup) : ∀ {i j : Nat} {a : Addr}, α[i]? = some a → α[j]? = some a → i = j := by
  induction α with
  | nil => intro i j a e; simp at e
  | cons x r ih =>
    intro i j a e1 e2
    have hx := (List.nodup_cons.mp hd).1
    cases i with
    | zero =>
      cases j with
      | zero => rfl
      | succ j => simp at e1 e2; subst e1; exact absurd (List.mem_of_getElem? e2) hx
    | succ i =>
      cases j with
      | zero => simp at e1 e2; subst e2; exact absurd (List.mem_of_getElem? e1) hx
      | succ j => simp at e1 e2; exact congrArg _ (ih (List.nodup_cons.mp hd).2 e1 e2)
theorem ne_of_none {f : Addr → Option Obj} {a b : Addr} {o : Obj} (ha : f a = none) (hb : f b = some o) : b ≠ a := fun h => by rw [h, ha] at hb; cases hb
theorem OAt.newList {mg α h} {a : Addr} {f : Bool} {xs : List PV} {vs : List Value} {n : Nat} (e : h.get? a = some { cls := .type "list", data := .seq vs.toArray n }) (x : VsRel mg α xs vs) : OAt mg α h a (.list f xs) :=
  ⟨vs, ⟨_, e, rfl, _, rfl⟩, x, fun _ => ⟨_, e⟩⟩
/-- one written object turns -/
theorem Rel.put (r : Rel C pro σ α s) {h' : Heap} {tk : Tok} {a : Addr} {i : Nat} {o o' : AO} (ea : α[i]? = some a) (eo : σ.hp[i]? = some o) (hf : o.fz = false) (hs : Heap.ExtBut a s.heap h') (ha : ∃ o, h'.get? a = some o)
    (ho : OAt C.mg α h' a o') (htk : s.toks ≤ tk) : Rel C pro { σ with hp := σ.hp.set i o' } α { s with heap := h', toks := tk } := by
  have mem : a ∈ α := List.mem_of_getElem? ea
  have hpa := r.free a mem
  have hfa := r.freeF i a o ea eo hf
  refine ⟨Nat.lt_of_lt_of_le r.tk htk, r.sub, by rw [r.sh], fun b ob e => hs b ob (ne_of_none hpa e) (r.keep b ob e), r.stat, by simp [r.len], r.nodup, ?_, fun b ob e => hs b ob (ne_of_none hfa e) (r.keepF b ob e), r.pf, r.free, ?_, r.nL, r.pL, ?_, ?_, ?_, r.cinj, ?_⟩
  · intro b hb
    by_cases h : b = a
    · subst h; exact ha
    · obtain ⟨o, e⟩ := r.live b hb; exact ⟨o, hs b o h e⟩
  · intro j b o2 e1 e2 hf2
    by_cases h : j = i
    · subst h; rw [ea] at e1; cases e1; exact hfa
    · rw [List.getElem?_set_ne (Ne.symm h)] at e2; exact r.freeF j b o2 e1 e2 hf2
  · obtain ⟨m, hns, hm⟩ := r.ns
    exact ⟨m, hns.extBut hs (fun h => r.nL (h ▸ mem)), hm⟩
  · intro j o2 b e1 e2
    by_cases h : j = i
    · subst h
      rw [ea] at e2; cases e2
      rw [List.getElem?_set_self (List.getElem?_eq_some_iff.mp eo).1] at e1
      cases e1; exact ho
    · rw [List.getElem?_set_ne (Ne.symm h)] at e1
      have hba : b ≠ a := fun q => h (nd_inj r.nodup (q ▸ e2) ea)
      exact (r.objs j o2 b e1 e2).mono (List.prefix_refl _) fun o e => hs b o hba e
  · intro x c e
    obtain ⟨a1, a2, a3, a4, v, ⟨o, hv, hd⟩, q⟩ := r.cel x c e
    exact ⟨a1, a2, a3, a4, v, ⟨o, hs c o (fun h => a1 (h ▸ mem)) hv, hd⟩, q⟩
  · obtain ⟨a1, a2, a3, ps, e, t⟩ := r.tab
    exact ⟨a1, a2, a3, ps, hs _ _ (fun h => a1 (h ▸ mem)) e, t⟩
noncomputable def AS.setL (σ : AS) (x : Str) (p : PV) : AS := { σ with loc := fun y => if y = x then some p else σ.loc y }
noncomputable def AS.setC (σ : AS) (x : Str) (p : PV) : AS := { σ with cel := fun y => if y = x then some p else σ.cel y }
/-- a local is stored -/
theorem Rel.setL (r : Rel C pro σ α s) {h' : Heap} {tk : Tok} {x : Str} {p : PV} {v : Value} {m : Str → Option Value} (hv : VRel C.mg α p v)
    (hm : ∀ x pv, σ.loc x = some pv → ∃ v, m x = some v ∧ VRel C.mg α pv v) (hn : h'.Ns C.env.locals (fun y => if y = x then some v else m y)) (hs : Heap.SameBut C.env.locals s.heap h') (htk : s.toks ≤ tk) :
    Rel C pro (σ.setL x p) α { s with heap := h', toks := tk } := by
  have hs' := hs.extBut
  refine ⟨Nat.lt_of_lt_of_le r.tk htk, r.sub, by rw [r.sh], fun b ob e => hs' b ob (ne_of_none r.pL.1 e) (r.keep b ob e), r.stat, r.len, r.nodup, ?_, fun b ob e => hs' b ob (ne_of_none r.pL.2 e) (r.keepF b ob e), r.pf, r.free, r.freeF, r.nL, r.pL, ?_, ?_, ?_, r.cinj, ?_⟩
  · intro b hb
    obtain ⟨o, e⟩ := r.live b hb; exact ⟨o, hs' b o (fun h => r.nL (h ▸ hb)) e⟩
  · refine ⟨_, hn, fun y pv e => ?_⟩
    dsimp only [AS.setL] at e
    by_cases h : y = x
    · rw [if_pos h] at e; cases e; exact ⟨v, by rw [if_pos h], hv⟩
    · rw [if_neg h] at e; rw [if_neg h]; exact hm y pv e
  · intro i o a e1 e2
    exact (r.objs i o a e1 e2).mono (List.prefix_refl _) fun o e => hs' a o (fun h => r.nL (h ▸ List.mem_of_getElem? e2)) e
  · intro x c e
    obtain ⟨a1, a2, a3, a4, v, ⟨o, hv, hd⟩, q⟩ := r.cel x c e
    exact ⟨a1, a2, a3, a4, v, ⟨o, hs' c o a2 hv, hd⟩, q⟩
  · obtain ⟨a1, a2, a3, ps, e, t⟩ := r.tab
    exact ⟨a1, a2, a3, ps, hs' _ _ a2 e, t⟩
/-- a cell is stored -/
theorem Rel.setC (r : Rel C pro σ α s) {h' : Heap} {tk : Tok} {x : Str} {c : Addr} {p : PV} {v : Value} (hc : C.env.cells.lookup x = some c) (hv : VRel C.mg α p v)
    (hn : h'.IsCell c (some v)) (hs : Heap.SameBut c s.heap h') (htk : s.toks ≤ tk) : Rel C pro (σ.setC x p) α { s with heap := h', toks := tk } := by
  have hs' := hs.extBut
  obtain ⟨c1, c2, c3, c4, _⟩ := r.cel x c hc
  refine ⟨Nat.lt_of_lt_of_le r.tk htk, r.sub, by rw [r.sh], fun b ob e => hs' b ob (ne_of_none c4.1 e) (r.keep b ob e), r.stat, r.len, r.nodup, ?_, fun b ob e => hs' b ob (ne_of_none c4.2 e) (r.keepF b ob e), r.pf, r.free, r.freeF, r.nL, r.pL, ?_, ?_, ?_, r.cinj, ?_⟩
  · intro b hb
    obtain ⟨o, e⟩ := r.live b hb; exact ⟨o, hs' b o (fun h => c1 (h ▸ hb)) e⟩
  · obtain ⟨m, hns, hm⟩ := r.ns
    exact ⟨m, hns.extBut hs' (Ne.symm c2), hm⟩
  · intro i o a e1 e2
    exact (r.objs i o a e1 e2).mono (List.prefix_refl _) fun o e => hs' a o (fun h => c1 (h ▸ List.mem_of_getElem? e2)) e
  · intro y d e
    obtain ⟨a1, a2, a3, a4, v', ⟨o, hv', hd⟩, q⟩ := r.cel y d e
    by_cases h : d = c
    · subst h
      have hxy := r.cinj _ _ _ e hc
      subst hxy
      refine ⟨a1, a2, a3, a4, some v, hn, fun pv e => ?_⟩
      dsimp only [AS.setC] at e
      rw [if_pos rfl] at e; cases e; exact ⟨v, rfl, hv⟩
    · refine ⟨a1, a2, a3, a4, v', ⟨o, hs' d o h hv', hd⟩, fun pv e' => ?_⟩
      dsimp only [AS.setC] at e'
      have hyx : y ≠ x := by rintro rfl; rw [e] at hc; cases hc; exact h rfl
      rw [if_neg hyx] at e'; exact q pv e'
  · obtain ⟨a1, a2, a3, ps, e, t⟩ := r.tab
    exact ⟨a1, a2, a3, ps, hs' _ _ (Ne.symm c3) e, t⟩
/-- something hidden is written down as protected -/
noncomputable def hid (pro : Pro) (a : Addr) (o : Obj) : Pro := fun b => if b = a then some o else pro b
theorem hid_self {pro : Pro} {a : Addr} {o : Obj} : hid pro a o a = some o := if_pos rfl
theorem hid_ne {pro : Pro} {a b : Addr} {o : Obj} (h : b ≠ a) : hid pro a o b = pro b := if_neg h
theorem Rel.new_noneB (r : Rel C pro σ α s) {a : Addr} (e : s.heap.get? a = none) : C.bpro a = none := by
  cases q : C.bpro a with
  | none => rfl
  | some o => rw [r.keep a o (r.sub a o q)] at e; cases e
theorem Rel.hide (r : Rel C pro σ α s) {h' : Heap} {tk : Tok} {a : Addr} {o : Obj} (hk : ∀ b o, s.heap.get? b = some o → h'.get? b = some o) (hn : s.heap.get? a = none) (ha : h'.get? a = some o) (htk : s.toks ≤ tk) :
    Rel C (hid pro a o) σ α { s with heap := h', toks := tk } := by
  have r' := r.grow (h' := h') (tk := tk) hk htk
  have hB := r.new_noneB hn
  refine ⟨r'.tk, fun b ob e => ?_, r'.sh, fun b ob e => ?_, r.stat, r.len, r.nodup, r'.live, r'.keepF, fun b ob e => ?_, fun b hb => ?_, r.freeF, r.nL, ⟨?_, r.pL.2⟩, r'.ns, r'.objs, fun x c e => ?_, r.cinj, ?_⟩
  · rw [hid_ne (ne_of_none hB e)]; exact r.sub b ob e
  · by_cases h : b = a
    · subst h; rw [hid_self] at e; cases e; exact ha
    · rw [hid_ne h] at e; exact r'.keep b ob e
  · by_cases h : b = a
    · rw [h]; exact r.new_noneF hn
    · rw [hid_ne h] at e; exact r.pf b ob e
  · rw [hid_ne (fun (h : b = a) => r.new_notin hn (h ▸ hb))]; exact r.free b hb
  · rw [hid_ne (Ne.symm (r.new_ne_L hn))]; exact r.pL.1
  · obtain ⟨a1, a2, a3, a4, q⟩ := r'.cel x c e
    exact ⟨a1, a2, a3, ⟨by rw [hid_ne (Ne.symm (r.new_ne_cel hn e))]; exact a4.1, a4.2⟩, q⟩
  · obtain ⟨a1, a2, a3, q⟩ := r'.tab
    exact ⟨a1, a2, ⟨by rw [hid_ne (Ne.symm (r.new_ne_tp hn))]; exact a3.1, a3.2⟩, q⟩
theorem hid_key {a : Addr} {o o' : Obj} {b : Addr} (e : hid pro a o b = none) : b ≠ a ∧ hid pro a o' b = none := by
  by_cases h : b = a
  · subst h; rw [hid_self] at e; cases e
  · rw [hid_ne h] at e ⊢; exact ⟨h, e⟩
/-- what is hidden may turn -/
theorem Rel.rehide {a : Addr} {o o' : Obj} (r : Rel C (hid pro a o) σ α s) (hB : C.bpro a = none) {h' : Heap} {tk : Tok} (hs : Heap.ExtBut a s.heap h') (ha : h'.get? a = some o') (htk : s.toks ≤ tk) : Rel C (hid pro a o') σ α { s with heap := h', toks := tk } := by
  have hF : C.fzo a = none := r.pf a o hid_self
  have nα : ∀ b ∈ α, b ≠ a := fun b hb => (hid_key (o' := o') (r.free b hb)).1
  refine ⟨Nat.lt_of_lt_of_le r.tk htk, fun b ob e => ?_, by rw [r.sh], fun b ob e => ?_, r.stat, r.len, r.nodup, fun b hb => ?_, fun b ob e => hs b ob (ne_of_none hF e) (r.keepF b ob e), fun b ob e => ?_, fun b hb => (hid_key (r.free b hb)).2, r.freeF, r.nL, ⟨(hid_key r.pL.1).2, r.pL.2⟩, ?_, fun i ob b e1 e2 => ?_, fun x c e => ?_, r.cinj, ?_⟩
  · have h := ne_of_none hB e
    have := r.sub b ob e
    rw [hid_ne h] at this ⊢; exact this
  · by_cases h : b = a
    · subst h; rw [hid_self] at e; cases e; exact ha
    · rw [hid_ne h] at e
      exact hs b ob h (r.keep b ob (by rw [hid_ne h]; exact e))
  · obtain ⟨ob, e⟩ := r.live b hb; exact ⟨ob, hs b ob (nα b hb) e⟩
  · by_cases h : b = a
    · rw [h]; exact hF
    · rw [hid_ne h] at e
      exact r.pf b ob (by rw [hid_ne h]; exact e)
  · obtain ⟨m, hns, hm⟩ := r.ns
    exact ⟨m, hns.extBut hs (hid_key (o' := o') r.pL.1).1, hm⟩
  · exact (r.objs i ob b e1 e2).mono (List.prefix_refl _) fun o e => hs b o (nα b (List.mem_of_getElem? e2)) e
  · obtain ⟨a1, a2, a3, a4, v, ⟨ob, hv, hd⟩, q⟩ := r.cel x c e
    exact ⟨a1, a2, a3, ⟨(hid_key a4.1).2, a4.2⟩, v, ⟨ob, hs c ob (hid_key (o' := o') a4.1).1 hv, hd⟩, q⟩
  · obtain ⟨a1, a2, a3, ps, e, t⟩ := r.tab
    exact ⟨a1, a2, ⟨(hid_key a3.1).2, a3.2⟩, ps, hs _ _ (hid_key (o' := o') a3.1).1 e, t⟩
/-- what is protected may be forgotten -/
theorem Rel.weak {pro' : Pro} (r : Rel C pro' σ α s) (hb : ∀ b o, C.bpro b = some o → pro b = some o) (hp : ∀ b o, pro b = some o → pro' b = some o) : Rel C pro σ α s := by
  have hn : ∀ b, pro' b = none → pro b = none := fun b e => by
    cases q : pro b with
    | none => rfl
    | some o => rw [hp b o q] at e; cases e
  exact ⟨r.tk, hb, r.sh, fun b o e => r.keep b o (hp b o e), r.stat, r.len, r.nodup, r.live, r.keepF, fun b o e => r.pf b o (hp b o e), fun b hb => hn b (r.free b hb), r.freeF, r.nL, ⟨hn _ r.pL.1, r.pL.2⟩, r.ns, r.objs,
    fun x c e => let ⟨a1, a2, a3, a4, q⟩ := r.cel x c e; ⟨a1, a2, a3, ⟨hn _ a4.1, a4.2⟩, q⟩, r.cinj, let ⟨a1, a2, a3, q⟩ := r.tab; ⟨a1, a2, ⟨hn _ a3.1, a3.2⟩, q⟩⟩
theorem Rel.unhide {a : Addr} {o : Obj} (r : Rel C (hid pro a o) σ α s) (hb : ∀ b o, C.bpro b = some o → pro b = some o) (hn : pro a = none) : Rel C pro σ α s :=
  r.weak hb fun b ob e => by rw [hid_ne (ne_of_none hn e)]; exact e
theorem Rel.facts (r : Rel C pro σ α s) : Facts C.prog C.K C.mg s.heap := C.toSx.facts s.heap fun b o e => r.keep b o (r.sub b o e)
end
end Mine
set_option maxHeartbeats 4000000
namespace Mine
inductive AF where
  | next | brk | cont
  | ret (p : PV)
noncomputable def FRel (mg : Str → Option Value) (α : List Addr) : AF → Flow → Prop
  | .next, f => f = .next
  | .brk, f => f = .brk
  | .cont, f => f = .cont
  | .ret p, f => ∃ v, f = .ret v ∧ VRel mg α p v
theorem FRel.mono {mg α α'} (h : α <+: α') : ∀ {p : AF} {v : Flow}, FRel mg α p v → FRel mg α' p v
  | .next, _, x => x
  | .brk, _, x => x
  | .cont, _, x => x
  | .ret _, _, ⟨v, e, x⟩ => ⟨v, e, x.mono h⟩
noncomputable def At (C : Cx) {β γ : Type} (R : List Addr → γ → β → Prop) (t : Sem β) (pro : Pro) (α : List Addr) (s : Shared) (Q : γ → AS → Prop) : Prop :=
  ∀ (Q' : β → Shared → Prop) (E : Value → Shared → Prop), (∀ g σ' α' s' b, Q g σ' → α <+: α' → Rel C pro σ' α' s' → R α' g b → Q' b s') → wpAny (model C.prog C.w) C.A t Q' E s
noncomputable def Run (C : Cx) {β γ : Type} (R : List Addr → γ → β → Prop) (t : Sem β) (σ : AS) (Q : γ → AS → Prop) : Prop := ∀ pro α s, Rel C pro σ α s → At C R t pro α s Q
theorem At.mono {C : Cx} {β γ : Type} {R : List Addr → γ → β → Prop} {t : Sem β} {pro : Pro} {α : List Addr} {s : Shared} {Q Q2 : γ → AS → Prop} (h : At C R t pro α s Q) (k : ∀ g σ, Q g σ → Q2 g σ) : At C R t pro α s Q2 :=
  fun Q' E k' => h Q' E fun g σ' α' s' b hq => k' g σ' α' s' b (k _ _ hq)
theorem Run.mono {C : Cx} {β γ : Type} {R : List Addr → γ → β → Prop} {t : Sem β} {σ : AS} {Q Q2 : γ → AS → Prop} (h : Run C R t σ Q) (k : ∀ g σ, Q g σ → Q2 g σ) : Run C R t σ Q2 :=
  fun pro α s r => (h pro α s r).mono k
noncomputable abbrev BR : List Addr → Bool → Bool → Prop := fun _ g b => b = g
noncomputable def Ev (C : Cx) (e : Expr) (σ : AS) (Q : PV → AS → Prop) : Prop := Run C (VRel C.mg) (eval e C.env) σ Q
noncomputable def Tr (C : Cx) (e : Expr) (σ : AS) (Q : Bool → AS → Prop) : Prop := Run C BR (isTrue e C.env (eval e C.env)) σ Q
noncomputable def Trs (C : Cx) (op : BoolOp) (es : List Expr) (σ : AS) (Q : Bool → AS → Prop) : Prop := Run C BR (allTrue op es C.env) σ Q
noncomputable def Xs (C : Cx) (ss : List Stmt) (σ : AS) (Q : AF → AS → Prop) : Prop := Run C (FRel C.mg) (execs ss C.env) σ Q
noncomputable def X1 (C : Cx) (st : Stmt) (σ : AS) (Q : AF → AS → Prop) : Prop := Run C (FRel C.mg) (exec st C.env) σ Q
noncomputable def Evs (C : Cx) (pos : Pos) (es : List Expr) (σ : AS) (Q : List PV → AS → Prop) : Prop := Run C (VsRel C.mg) (spliced (backTo pos (starEach es C.env))) σ Q
noncomputable def Bin (C : Cx) (op : Operator) (a b : PV) (σ : AS) (Q : PV → AS → Prop) : Prop := ∀ pro α s v u, Rel C pro σ α s → VRel C.mg α a v → VRel C.mg α b u → At C (VRel C.mg) (binaryOp op v u) pro α s Q
noncomputable def Ibin (C : Cx) (op : Operator) (a b : PV) (σ : AS) (Q : PV → AS → Prop) : Prop := ∀ pro α s v u, Rel C pro σ α s → VRel C.mg α a v → VRel C.mg α b u → At C (VRel C.mg) (inplaceOp op v u) pro α s Q
noncomputable def Cmp (C : Cx) (op : CmpOp) (a b : PV) (σ : AS) (Q : PV → AS → Prop) : Prop := ∀ pro α s v u, Rel C pro σ α s → VRel C.mg α a v → VRel C.mg α b u → At C (VRel C.mg) (compareOp op v u) pro α s Q
noncomputable def Tru (C : Cx) (a : PV) (σ : AS) (Q : Bool → AS → Prop) : Prop := ∀ pro α s v, Rel C pro σ α s → VRel C.mg α a v → At C BR (truthy v) pro α s Q
noncomputable def Cal (C : Cx) (f : PV) (ps : List PV) (σ : AS) (Q : PV → AS → Prop) : Prop := ∀ pro α s v vs, Rel C pro σ α s → VRel C.mg α f v → VsRel C.mg α ps vs → At C (VRel C.mg) (call v vs) pro α s Q
noncomputable def Asn (C : Cx) (t : Expr) (p : PV) (σ : AS) (Q : AS → Prop) : Prop := ∀ pro α s v, Rel C pro σ α s → VRel C.mg α p v → At C (fun _ (_ : Unit) (_ : Unit) => True) (assign t C.env v) pro α s (fun _ => Q)
theorem Ev.mono {C e σ Q Q2} (h : Ev C e σ Q) (k : ∀ g σ, Q g σ → Q2 g σ) : Ev C e σ Q2 := Run.mono h k
theorem Tr.mono {C e σ Q Q2} (h : Tr C e σ Q) (k : ∀ g σ, Q g σ → Q2 g σ) : Tr C e σ Q2 := Run.mono h k
theorem Xs.mono {C e σ Q Q2} (h : Xs C e σ Q) (k : ∀ g σ, Q g σ → Q2 g σ) : Xs C e σ Q2 := Run.mono h k
theorem X1.mono {C e σ Q Q2} (h : X1 C e σ Q) (k : ∀ g σ, Q g σ → Q2 g σ) : X1 C e σ Q2 := Run.mono h k
section
variable {C : Cx} {σ : AS} {pos : Pos} {k : Nat}
/-- an answer that leaves all as it was -/
theorem At.done {β γ : Type} {R : List Addr → γ → β → Prop} {t : Sem β} {pro : Pro} {α : List Addr} {s : Shared} {Q : γ → AS → Prop} {g : γ} (r : Rel C pro σ α s) (hq : Q g σ)
    (h : ∀ (Q' : β → Shared → Prop) (E : Value → Shared → Prop), (∀ b h' tk, (∀ a o, s.heap.get? a = some o → h'.get? a = some o) → R α g b → Q' b { s with heap := h', toks := tk }) → wpAny (model C.prog C.w) C.A t Q' E s) : At C R t pro α s Q := by
  intro Q' E kk
  refine wpAny_with_toks (Nat.le_refl _) (h _ _ fun b h' tk hk hR htk => ?_)
  exact kk g σ α _ b hq (List.prefix_refl _) (r.grow hk htk) hR
theorem Ev.cInt {i : Int} {Q} (h : Q (.int i) σ) : Ev C (.Constant (.int i) k pos) σ Q :=
  fun _ _ _ r => At.done r h fun _ _ kk => wpAny_Constant_int (kk _ _ _ (fun _ _ e => e) ⟨_, rfl⟩)
theorem Ev.cStr {x : Str} {Q} (h : Q (.str x) σ) : Ev C (.Constant (.str x) k pos) σ Q :=
  fun _ _ _ r => At.done r h fun _ _ kk => Calls.Constant_str (kk _ _ _ (fun _ _ e => e) ⟨_, rfl⟩)
theorem Ev.cNone {Q} (h : Q .none σ) : Ev C (.Constant .none k pos) σ Q :=
  fun _ _ _ r => At.done r h fun _ _ kk => wpAny_Constant_none (kk _ _ _ (fun _ _ e => e) rfl)
theorem Ev.cBool {b : Bool} {Q} (h : Q (.bool b) σ) : Ev C (.Constant (.bool b) k pos) σ Q :=
  fun _ _ _ r => At.done r h fun _ _ kk => wpAny_Constant_bool (kk _ _ _ (fun _ _ e => e) rfl)
/-- names -/
theorem Ev.loc {x : Str} {p : PV} {sc : Scope} {Q} (hs : C.env.scope = sc) (hk : sc.names.lookup x = some .local) (hv : σ.loc x = some p) (h : Q p σ) (hd : (x == ("__debug__" : Str)) = false := by decide) : Ev C (.Name x pos) σ Q := by
  intro pro α s r Q' E kk
  obtain ⟨m, hn, hm⟩ := r.ns
  obtain ⟨v, e, hr⟩ := hm x p hv
  exact wpAny_Name (wpAny_loadName_local C.kind (by unfold Env.kindOf; rw [hs]; exact hk) hn e (kk _ _ _ _ _ h (List.prefix_refl _) r hr)) hd
theorem Ev.cel {x : Str} {p : PV} {sc : Scope} {Q} (hs : C.env.scope = sc) (hk : sc.names.lookup x = some .cell) (hc : ∃ c, C.env.cells.lookup x = some c) (hv : σ.cel x = some p) (h : Q p σ) (hd : (x == ("__debug__" : Str)) = false := by decide) : Ev C (.Name x pos) σ Q := by
  intro pro α s r Q' E kk
  obtain ⟨c, hc⟩ := hc
  obtain ⟨_, _, _, _, v, hcell, q⟩ := r.cel x c hc
  obtain ⟨u, rfl, hr⟩ := q p hv
  exact wpAny_Name (wpAny_loadName_cell C.kind (by unfold Env.kindOf; rw [hs]; exact hk) hc hcell (kk _ _ _ _ _ h (List.prefix_refl _) r hr)) hd
theorem Ev.free {x : Str} {p : PV} {sc : Scope} {Q} (hs : C.env.scope = sc) (hk : sc.names.lookup x = some .free) (hc : ∃ c, C.env.cells.lookup x = some c) (hv : σ.cel x = some p) (h : Q p σ) (hd : (x == ("__debug__" : Str)) = false := by decide) (hn : (x == ("__classdict__" : Str)) = false := by decide) : Ev C (.Name x pos) σ Q := by
  intro pro α s r Q' E kk
  obtain ⟨c, hc⟩ := hc
  obtain ⟨_, _, _, _, v, hcell, q⟩ := r.cel x c hc
  obtain ⟨u, rfl, hr⟩ := q p hv
  exact wpAny_Name (wpAny_loadName_free C.kind (by unfold Env.kindOf; rw [hs]; exact hk) hc hcell (kk _ _ _ _ _ h (List.prefix_refl _) r hr) hn) hd
/-- a name of the text's top -/
theorem Ev.top {x : Str} {p : PV} {sc : Scope} {Q} (hs : C.env.scope = sc) (hk : sc.names.lookup x = some .globalImplicit) (hv : ∃ v, C.mg x = some v ∧ ∀ α, C.st <+: α → VRel C.mg α p v) (h : Q p σ) (hd : (x == ("__debug__" : Str)) = false := by decide) : Ev C (.Name x pos) σ Q := by
  intro pro α s r Q' E kk
  obtain ⟨v, e, hr⟩ := hv
  refine Calls.Name_function_global C.kind (by unfold Env.kindOf; rw [hs]; exact hk) (Calls.loadGlobal_global (mg := C.mg) (by rw [C.glob]; exact r.facts.g) e (kk _ _ _ _ _ h (List.prefix_refl _) r (hr α r.stat))) hd
theorem Ev.bi {x : Str} {v : Value} {sc : Scope} {Q} (hs : C.env.scope = sc) (hk : sc.names.lookup x = some .globalImplicit) (hm : C.mg x = none) (hb : bootBuiltins x = some v) (h : Q (.raw v) σ) (hn : x ≠ "__name__" := by decide) (hd : (x == ("__debug__" : Str)) = false := by decide) : Ev C (.Name x pos) σ Q := by
  intro pro α s r Q' E kk
  obtain ⟨mb, hB, hbm⟩ := r.facts.b
  refine Calls.Name_function_global C.kind (by unfold Env.kindOf; rw [hs]; exact hk) (Calls.loadGlobal_builtin (mg := C.mg) (mb := mb) (by rw [C.glob]; exact r.facts.g) hm (by rw [C.bi]; exact hB) ((hbm x hn).trans hb) (kk _ _ _ _ _ h (List.prefix_refl _) r rfl)) hd
theorem Ev.bin {l r : Expr} {op : Operator} {Q} (h : Ev C l σ fun a σ1 => Ev C r σ1 fun b σ2 => Bin C op a b σ2 Q) : Ev C (.BinOp l op r pos) σ Q := by
  intro pro α s rr Q' E kk
  refine wpAny_BinOp (h pro α s rr _ _ fun a σ1 α1 s1 v h1 p1 r1 v1 => ?_)
  refine h1 pro α1 s1 r1 _ _ fun b σ2 α2 s2 u h2 p2 r2 v2 => ?_
  exact h2 pro α2 s2 v u r2 (v1.mono p2) v2 _ _ fun g σ' α' s' b hq p3 r3 v3 => kk g σ' α' s' b hq ((p1.trans p2).trans p3) r3 v3
theorem Ev.cmp {l r : Expr} {op : CmpOp} {Q} (h : Ev C l σ fun a σ1 => Ev C r σ1 fun b σ2 => Cmp C op a b σ2 Q) (hm : behindInMarks op r = false := by with_unfolding_all rfl) : Ev C (.Compare l [op] [r] pos) σ Q := by
  intro pro α s rr Q' E kk
  refine wpAny_Compare1 (h pro α s rr _ _ fun a σ1 α1 s1 v h1 p1 r1 v1 => ?_) hm
  refine h1 pro α1 s1 r1 _ _ fun b σ2 α2 s2 u h2 p2 r2 v2 => ?_
  exact h2 pro α2 s2 v u r2 (v1.mono p2) v2 _ _ fun g σ' α' s' b hq p3 r3 v3 => kk g σ' α' s' b hq ((p1.trans p2).trans p3) r3 v3
theorem Ev.neg {e : Expr} {i : Int} {Q} (h : Ev C e σ fun a σ1 => a = .int i ∧ Q (.int (-i)) σ1) : Ev C (.UnaryOp .USub e pos) σ Q := by
  intro pro α s rr Q' E kk
  rw [arm_eval_UnaryOp]
  refine wpAny_bind (h pro α s rr _ _ fun a σ1 α1 s1 v h1 p1 r1 v1 => ?_)
  obtain ⟨rfl, hq⟩ := h1
  obtain ⟨t, rfl⟩ := v1
  refine wpAny_bind (wpAny_standAt (wpAny_holding (PyProof.Rows.neg_int ?_)))
  exact kk _ _ _ _ _ hq p1 (r1.tok (Nat.le_succ _)) ⟨_, rfl⟩
theorem Ev.ife {t a b : Expr} {Q} (h : Tr C t σ fun c σ1 => (c = true → Ev C a σ1 Q) ∧ (c = false → Ev C b σ1 Q)) : Ev C (.IfExp t a b pos) σ Q := by
  intro pro α s rr Q' E kk
  rw [arm_eval_IfExp]
  refine wpAny_bind (h pro α s rr _ _ fun c σ1 α1 s1 v h1 p1 r1 v1 => ?_)
  subst v1
  cases v with
  | true => exact h1.1 rfl pro α1 s1 r1 _ _ fun g σ' α' s' b hq p3 r3 v3 => kk g σ' α' s' b hq (p1.trans p3) r3 v3
  | false => exact h1.2 rfl pro α1 s1 r1 _ _ fun g σ' α' s' b hq p3 r3 v3 => kk g σ' α' s' b hq (p1.trans p3) r3 v3
/-- tests -/
theorem Tr.not {e : Expr} {Q} (h : Tr C e σ fun c σ1 => Q (!c) σ1) : Tr C (.UnaryOp .Not e pos) σ Q := by
  intro pro α s rr Q' E kk
  rw [arm_isTrue_UnaryOp]
  refine wpAny_bind (h pro α s rr _ _ fun c σ1 α1 s1 v h1 p1 r1 v1 => ?_)
  subst v1
  exact wpAny_pure (kk _ _ _ _ _ h1 p1 r1 rfl)
theorem Tr.cmp {l r : Expr} {op : CmpOp} {Q} (h : Ev C l σ fun a σ1 => Ev C r σ1 fun b σ2 => Cmp C op a b σ2 fun c σ3 => Tru C c σ3 Q) (hm : behindInMarks op r = false := by with_unfolding_all rfl) : Tr C (.Compare l [op] [r] pos) σ Q := by
  intro pro α s rr Q' E kk
  refine wpAny_isTrue_Compare1 (h pro α s rr _ _ fun a σ1 α1 s1 v h1 p1 r1 v1 => ?_) hm
  refine h1 pro α1 s1 r1 _ _ fun b σ2 α2 s2 u h2 p2 r2 v2 => ?_
  refine h2 pro α2 s2 v u r2 (v1.mono p2) v2 _ _ fun g σ3 α3 s3 b3 h3 p3 r3 v3 => ?_
  exact h3 pro α3 s3 b3 r3 v3 _ _ fun g σ' α' s' b hq p4 r4 v4 => kk g σ' α' s' b hq (((p1.trans p2).trans p3).trans p4) r4 v4
theorem Tr.bo {op : BoolOp} {es : List Expr} {Q} (h : Trs C op es σ Q) : Tr C (.BoolOp op es pos) σ Q := by
  intro pro α s rr Q' E kk
  rw [arm_isTrue_BoolOp]
  exact h pro α s rr Q' E kk
theorem Trs.nil {op : BoolOp} {Q} (h : Q (op == .And) σ) : Trs C op [] σ Q := by
  intro pro α s rr Q' E kk
  rw [arm_allTrue_nil]
  exact wpAny_pure (kk _ _ _ _ _ h (List.prefix_refl _) rr rfl)
theorem Trs.andc {e : Expr} {es : List Expr} {Q} (h : Tr C e σ fun c σ1 => (c = false → Q false σ1) ∧ (c = true → Trs C .And es σ1 Q)) : Trs C .And (e :: es) σ Q := by
  intro pro α s rr Q' E kk
  rw [arm_allTrue_cons]
  refine wpAny_bind (h pro α s rr _ _ fun c σ1 α1 s1 v h1 p1 r1 v1 => ?_)
  subst v1
  cases v with
  | true => exact h1.2 rfl pro α1 s1 r1 _ _ fun g σ' α' s' b hq p3 r3 v3 => kk g σ' α' s' b hq (p1.trans p3) r3 v3
  | false => exact wpAny_pure (kk _ _ _ _ _ (h1.1 rfl) p1 r1 rfl)
theorem Trs.orc {e : Expr} {es : List Expr} {Q} (h : Tr C e σ fun c σ1 => (c = true → Q true σ1) ∧ (c = false → Trs C .Or es σ1 Q)) : Trs C .Or (e :: es) σ Q := by
  intro pro α s rr Q' E kk
  rw [arm_allTrue_cons]
  refine wpAny_bind (h pro α s rr _ _ fun c σ1 α1 s1 v h1 p1 r1 v1 => ?_)
  subst v1
  cases v with
  | true => exact wpAny_pure (kk _ _ _ _ _ (h1.1 rfl) p1 r1 rfl)
  | false => exact h1.2 rfl pro α1 s1 r1 _ _ fun g σ' α' s' b hq p3 r3 v3 => kk g σ' α' s' b hq (p1.trans p3) r3 v3
/-- any other test: the value's truth -/
theorem Tr.val {e : Expr} {Q} (h : Ev C e σ fun a σ1 => Tru C a σ1 Q) (he : isTrue e C.env (eval e C.env) = (do let v ← eval e C.env; standAt e.pos; holding [v] (truthy v)) := by rfl) : Tr C e σ Q := by
  intro pro α s rr Q' E kk
  rw [he]
  refine wpAny_bind (h pro α s rr _ _ fun a σ1 α1 s1 v h1 p1 r1 v1 => wpAny_bind (wpAny_standAt (wpAny_holding ?_)))
  exact h1 pro α1 s1 v r1 v1 _ _ fun g σ' α' s' b hq p3 r3 v3 => kk g σ' α' s' b hq (p1.trans p3) r3 v3
/-- truth -/
theorem Tru.bool {b : Bool} {Q} (h : Q b σ) : Tru C (.bool b) σ Q := by
  intro pro α s v r e
  cases e
  exact At.done r h fun _ _ kk => wpAny_truthy_bool (kk _ _ _ (fun _ _ e => e) rfl)
theorem Tru.int {i : Int} {Q} (h : Q (i != 0) σ) : Tru C (.int i) σ Q := by
  intro pro α s v r e
  obtain ⟨t, rfl⟩ := e
  exact At.done r h fun _ _ kk => P.truthy_int (kk _ _ _ (fun _ _ e => e) rfl)
theorem Tru.list {i : Nat} {f : Bool} {xs : List PV} {Q} (hi : σ.hp[i]? = some (.list f xs)) (hl : xs.length < 1000000) (h : Q (!xs.isEmpty) σ) : Tru C (.ref i) σ Q := by
  intro pro α s v r e
  obtain ⟨a, ea, rfl⟩ := e
  obtain ⟨vs, hL, hV, hP⟩ := r.objs i _ a hi ea
  have hle := hV.length
  refine At.done r h fun _ _ kk => wpAny_truthy_list hL (by simp; omega) (kk _ _ _ (fun _ _ e => e) ?_)
  cases hV <;> simp
end
end Mine
set_option maxHeartbeats 4000000
namespace Mine
section
variable {C : Cx} {σ : AS} {pos : Pos} {k : Nat}
theorem vref_new {mg α} {a : Addr} {n : Nat} (hn : α.length = n) : VRel mg (α ++ [a]) (.ref n) (.ref a) := ⟨a, by subst hn; simp, rfl⟩
/-- an answer that is a new object -/
theorem At.new {t : Sem Value} {pro : Pro} {α : List Addr} {s : Shared} {Q : PV → AS → Prop} {o : AO} (r : Rel C pro σ α s) (hq : Q (.ref σ.hp.length) { σ with hp := σ.hp ++ [o] })
    (h : ∀ (Q' : Value → Shared → Prop) (E : Value → Shared → Prop), (∀ a h' tk, (∀ b o, s.heap.get? b = some o → h'.get? b = some o) → s.heap.get? a = none → (∃ o, h'.get? a = some o) → OAt C.mg (α ++ [a]) h' a o → Q' (.ref a) { s with heap := h', toks := tk }) →
      wpAny (model C.prog C.w) C.A t Q' E s) : At C (VRel C.mg) t pro α s Q := by
  intro Q' E kk
  refine wpAny_with_toks (Nat.le_refl _) (h _ _ fun a h' tk hk hn ha ho htk => ?_)
  exact kk _ _ (α ++ [a]) _ _ hq (List.prefix_append _ _) (r.add hk hn ha ho htk) (vref_new r.len)
theorem push_keep {h : Heap} {o : Obj} : ∀ b o', h.get? b = some o' → (h.push o).get? b = some o' := fun _ _ e => Heap.get?_push_of_some _ e
/-- sums and products -/
theorem Bin.addI {i j : Int} {Q} (h : Q (.int (i + j)) σ) : Bin C .Add (.int i) (.int j) σ Q := by
  rintro pro α s v u r ⟨t, rfl⟩ ⟨t', rfl⟩
  exact At.done r h fun _ _ kk => PyProof.Rows.add_int (kk _ _ _ (fun _ _ e => e) ⟨_, rfl⟩)
theorem Bin.subI {i j : Int} {Q} (h : Q (.int (i - j)) σ) : Bin C .Sub (.int i) (.int j) σ Q := by
  rintro pro α s v u r ⟨t, rfl⟩ ⟨t', rfl⟩
  exact At.done r h fun _ _ kk => PyProof.Rows.sub_int' (kk _ _ _ (fun _ _ e => e) ⟨_, rfl⟩)
theorem Bin.mulI {i j : Int} {Q} (hm : IntMulOk i j) (h : Q (.int (i * j)) σ) : Bin C .Mult (.int i) (.int j) σ Q := by
  rintro pro α s v u r ⟨t, rfl⟩ ⟨t', rfl⟩
  exact At.done r h fun _ _ kk => PyProof.Rows.mul_int (kk _ _ _ (fun _ _ e => e) ⟨_, rfl⟩) hm
theorem Bin.divI {i j : Int} {Q} (hj : j ≠ 0) (hs : j.natAbs < 1073741824) (h : Q (.int (i.fdiv j)) σ) : Bin C .FloorDiv (.int i) (.int j) σ Q := by
  rintro pro α s v u r ⟨t, rfl⟩ ⟨t', rfl⟩
  exact At.done r h fun _ _ kk => PyProof.Rows.floordiv_int hj (kk _ _ _ (fun _ _ e => e) ⟨_, rfl⟩) (.inl (PyProof.noPylong_small hs))
theorem Bin.modI {i j : Int} {Q} (hj : j ≠ 0) (h : Q (.int (i.fmod j)) σ) : Bin C .Mod (.int i) (.int j) σ Q := by
  rintro pro α s v u r ⟨t, rfl⟩ ⟨t', rfl⟩
  exact At.done r h fun _ _ kk => PyProof.Rows.mod_int' hj (kk _ _ _ (fun _ _ e => e) ⟨_, rfl⟩)
theorem Bin.powI {i j : Int} {Q} (hj : 0 ≤ j) (hs : (Builtin.Int.intBits i : Int) * j ≤ 2 ^ 27) (h : Q (.int (i ^ j.toNat)) σ) : Bin C .Pow (.int i) (.int j) σ Q := by
  rintro pro α s v u r ⟨t, rfl⟩ ⟨t', rfl⟩
  exact At.done r h fun _ _ kk => PyProof.Rows.pow_int hj hs (kk _ _ _ (fun _ _ e => e) ⟨_, rfl⟩)
theorem Bin.andI {i j : Int} {Q} (h : Q (.int (Builtin.bitAnd i j)) σ) : Bin C .BitAnd (.int i) (.int j) σ Q := by
  rintro pro α s v u r ⟨t, rfl⟩ ⟨t', rfl⟩
  exact At.done r h fun _ _ kk => PyProof.Rows.and_int (kk _ _ _ (fun _ _ e => e) ⟨_, rfl⟩)
theorem Bin.xorI {i j : Int} {Q} (h : Q (.int (Builtin.bitXor i j)) σ) : Bin C .BitXor (.int i) (.int j) σ Q := by
  rintro pro α s v u r ⟨t, rfl⟩ ⟨t', rfl⟩
  exact At.done r h fun _ _ kk => PyProof.Rows.xor_int (kk _ _ _ (fun _ _ e => e) ⟨_, rfl⟩)
theorem Ibin.addI {i j : Int} {Q} (h : Q (.int (i + j)) σ) : Ibin C .Add (.int i) (.int j) σ Q := by
  rintro pro α s v u r ⟨t, rfl⟩ ⟨t', rfl⟩
  exact At.done r h fun _ _ kk => PySem.P.iadd_int (kk _ _ _ (fun _ _ e => e) ⟨_, rfl⟩)
theorem Ibin.subI {i j : Int} {Q} (h : Q (.int (i - j)) σ) : Ibin C .Sub (.int i) (.int j) σ Q := by
  rintro pro α s v u r ⟨t, rfl⟩ ⟨t', rfl⟩
  exact At.done r h fun _ _ kk => PySem.P.isub_int (kk _ _ _ (fun _ _ e => e) ⟨_, rfl⟩)
theorem Bin.addS {x y : Str} {Q} (hl : x.length + y.length < 1000000) (h : Q (.str (x ++ y)) σ) : Bin C .Add (.str x) (.str y) σ Q := by
  rintro pro α s v u r ⟨t, rfl⟩ ⟨t', rfl⟩
  exact At.done r h fun _ _ kk => PyProof.Rows.add_str (fun t' tk => kk _ s.heap _ (fun _ _ e => e) ⟨_, rfl⟩) (by rw [sizeLine_eq]; lia)
theorem Bin.addL {i j : Nat} {f g : Bool} {xs ys : List PV} {Q} (hi : σ.hp[i]? = some (.list f xs)) (hj : σ.hp[j]? = some (.list g ys)) (hl : xs.length + ys.length < 1000000)
    (h : Q (.ref σ.hp.length) { σ with hp := σ.hp ++ [.list false (xs ++ ys)] }) : Bin C .Add (.ref i) (.ref j) σ Q := by
  rintro pro α s v u r ⟨a, ea, rfl⟩ ⟨b, eb, rfl⟩
  obtain ⟨vs, hL, hV, hP⟩ := r.objs i _ a hi ea
  obtain ⟨ws, hM, hW, hP'⟩ := r.objs j _ b hj eb
  have h1 := hV.length
  have h2 := hW.length
  refine At.new r h fun Q' E kk => ?_
  obtain ⟨⟨cls, dd, data, sl⟩, ho, hc, n, hd⟩ := id hL
  obtain ⟨⟨cls2, dd2, data2, sl2⟩, ho2, hc2, n2, hd2⟩ := id hM
  simp only at hc hd hc2 hd2
  subst hc hd hc2 hd2
  have e : vs.toArray ++ ws.toArray = (vs ++ ws).toArray := by simp
  refine concat_meets ⟨_, ho, rfl⟩ ⟨_, ho2, rfl⟩ noFill_list_add seq_list_add PySem.F.slot_list_add PySem.F.entry_list_add (PySem.F.args_list_add_2 _ _) (PyProof.Rows.list_addW a b vs.toArray ws.toArray n n2 dd dd2 sl sl2 (by rw [sizeLine_eq]; simp; lia)) ⟨ho, ho2, ?_⟩
  rw [e]
  exact kk _ _ _ push_keep get_size_none ⟨_, Heap.get?_push_size _ rfl⟩ (OAt.newList (vs := vs ++ ws) (Heap.get?_push_size _ rfl) ((hV.append hW).mono fun _ _ => VRel.mono (List.prefix_append _ _)))
/-- comparisons -/
theorem Cmp.eqI {i j : Int} {Q} (h : Q (.bool (i == j)) σ) : Cmp C .Eq (.int i) (.int j) σ Q := by
  rintro pro α s v u r ⟨t, rfl⟩ ⟨t', rfl⟩
  exact At.done r h fun _ _ kk => PyProof.Rows.eq_int (kk _ _ _ (fun _ _ e => e) rfl)
theorem Cmp.neI {i j : Int} {Q} (h : Q (.bool (i != j)) σ) : Cmp C .NotEq (.int i) (.int j) σ Q := by
  rintro pro α s v u r ⟨t, rfl⟩ ⟨t', rfl⟩
  exact At.done r h fun _ _ kk => PyProof.Rows.ne_int (kk _ _ _ (fun _ _ e => e) rfl)
theorem Cmp.ltI {i j : Int} {Q} (h : Q (.bool (decide (i < j))) σ) : Cmp C .Lt (.int i) (.int j) σ Q := by
  rintro pro α s v u r ⟨t, rfl⟩ ⟨t', rfl⟩
  exact At.done r h fun _ _ kk => PyProof.Rows.lt_int (kk _ _ _ (fun _ _ e => e) rfl)
theorem Cmp.leI {i j : Int} {Q} (h : Q (.bool (decide (i ≤ j))) σ) : Cmp C .LtE (.int i) (.int j) σ Q := by
  rintro pro α s v u r ⟨t, rfl⟩ ⟨t', rfl⟩
  exact At.done r h fun _ _ kk => PyProof.Rows.le_int (kk _ _ _ (fun _ _ e => e) rfl)
theorem Cmp.gtI {i j : Int} {Q} (h : Q (.bool (decide (j < i))) σ) : Cmp C .Gt (.int i) (.int j) σ Q := by
  rintro pro α s v u r ⟨t, rfl⟩ ⟨t', rfl⟩
  exact At.done r h fun _ _ kk => PyProof.Rows.gt_int (kk _ _ _ (fun _ _ e => e) rfl)
theorem Cmp.geI {i j : Int} {Q} (h : Q (.bool (decide (j ≤ i))) σ) : Cmp C .GtE (.int i) (.int j) σ Q := by
  rintro pro α s v u r ⟨t, rfl⟩ ⟨t', rfl⟩
  exact At.done r h fun _ _ kk => PyProof.Rows.ge_int (kk _ _ _ (fun _ _ e => e) rfl)
theorem Cmp.eqB {i j : Bool} {Q} (h : Q (.bool (i == j)) σ) : Cmp C .Eq (.bool i) (.bool j) σ Q := by
  rintro pro α s v u r e1 e2
  cases e1; cases e2
  exact At.done r h fun _ _ kk => PyProof.Rows.eq_bool (kk _ _ _ (fun _ _ e => e) rfl)
theorem Cmp.eqS {x y : Str} {Q} (h : Q (.bool (x == y)) σ) : Cmp C .Eq (.str x) (.str y) σ Q := by
  rintro pro α s v u r ⟨t, rfl⟩ ⟨t', rfl⟩
  exact At.done r h fun _ _ kk => PyProof.Rows.eq_str (kk _ _ _ (fun _ _ e => e) rfl)
theorem Cmp.neS {x y : Str} {Q} (h : Q (.bool (x != y)) σ) : Cmp C .NotEq (.str x) (.str y) σ Q := by
  rintro pro α s v u r ⟨t, rfl⟩ ⟨t', rfl⟩
  exact At.done r h fun _ _ kk => PyProof.Rows.ne_str (kk _ _ _ (fun _ _ e => e) rfl)
theorem Cmp.inS {x y : Str} {Q} (h : Q (.bool !(Builtin.Str.occurrences x y 0 x.length 1).isEmpty) σ) : Cmp C .In (.str y) (.str x) σ Q := by
  rintro pro α s v u r ⟨t, rfl⟩ ⟨t', rfl⟩
  exact At.done r h fun _ _ kk => PySem.P.in_str (kk _ _ _ (fun _ _ e => e) rfl)
theorem Cmp.notInS {x y : Str} {Q} (h : Q (.bool (!(!(Builtin.Str.occurrences x y 0 x.length 1).isEmpty))) σ) : Cmp C .NotIn (.str y) (.str x) σ Q := by
  rintro pro α s v u r ⟨t, rfl⟩ ⟨t', rfl⟩
  exact At.done r h fun _ _ kk => PySem.P.notIn_str (kk _ _ _ (fun _ _ e => e) rfl)
theorem Cmp.eqL {i j : Nat} {f g : Bool} {xs ys : List PV} {Q} (hi : σ.hp[i]? = some (.list f xs)) (hj : σ.hp[j]? = some (.list g ys)) (hn : xs.length ≠ ys.length) (h : Q (.bool false) σ) : Cmp C .Eq (.ref i) (.ref j) σ Q := by
  rintro pro α s v u r ⟨a, ea, rfl⟩ ⟨b, eb, rfl⟩
  obtain ⟨vs, hL, hV, hP⟩ := r.objs i _ a hi ea
  obtain ⟨ws, hM, hW, hP'⟩ := r.objs j _ b hj eb
  have h1 := hV.length
  have h2 := hW.length
  refine At.done r h fun _ _ kk => PySem.SeqAt.eq_list_lengthsAt hL hM (by simp; lia) (by have := C.room.2; lia) (kk _ _ _ (fun _ _ e => e) rfl)
theorem Cmp.isNotR {i : Nat} {Q} (h : Q (.bool false) σ) : Cmp C .IsNot (.ref i) (.ref i) σ Q := by
  rintro pro α s v u r ⟨a, ea, rfl⟩ ⟨b, eb, rfl⟩
  rw [ea] at eb; cases eb
  exact At.done r h fun _ _ kk => wpAny_isNot_ref_self (kk _ _ _ (fun _ _ e => e) rfl)
theorem Cmp.isNotSR {x : Str} {i : Nat} {Q} (h : Q (.bool true) σ) : Cmp C .IsNot (.str x) (.ref i) σ Q := by
  rintro pro α s v u r ⟨t, rfl⟩ ⟨b, eb, rfl⟩
  exact At.done r h fun _ _ kk => wpAny_isNot_other rfl (by intro q; cases q) (kk _ _ _ (fun _ _ e => e) rfl)
theorem Cmp.isR {i : Nat} {Q} (h : Q (.bool true) σ) : Cmp C .Is (.ref i) (.ref i) σ Q := by
  rintro pro α s v u r ⟨a, ea, rfl⟩ ⟨b, eb, rfl⟩
  rw [ea] at eb; cases eb
  exact At.done r h fun _ _ kk => wpAny_is_ref_self (kk _ _ _ (fun _ _ e => e) rfl)
/-- a subscript by an int -/
noncomputable def Sub (C : Cx) (value slice : Expr) (a b : PV) (σ : AS) (Q : PV → AS → Prop) : Prop := ∀ pro α s v u, Rel C pro σ α s → VRel C.mg α a v → VRel C.mg α b u → At C (VRel C.mg) (subscriptTail value slice v u) pro α s Q
theorem Ev.sub {value slice : Expr} {Q} (h : Ev C value σ fun a σ1 => Ev C slice σ1 fun b σ2 => Sub C value slice a b σ2 Q) : Ev C (.Subscript value slice pos) σ Q := by
  intro pro α s rr Q' E kk
  refine Subscript_ (h pro α s rr _ _ fun a σ1 α1 s1 v h1 p1 r1 v1 => ?_)
  refine h1 pro α1 s1 r1 _ _ fun b σ2 α2 s2 u h2 p2 r2 v2 => ?_
  exact h2 pro α2 s2 v u r2 (v1.mono p2) v2 _ _ fun g σ' α' s' b hq p3 r3 v3 => kk g σ' α' s' b hq ((p1.trans p2).trans p3) r3 v3
/-- how an index reads: from the front, or from behind -/
noncomputable def idx (i : Int) (n : Nat) : Nat := if 0 ≤ i then i.toNat else (i + n).toNat
noncomputable def inB (i : Int) (n : Nat) : Prop := -(n : Int) ≤ i ∧ i < n
theorem Sub.list {x : Str} {np : Pos} {slice : Expr} {i : Nat} {f : Bool} {xs : List PV} {j : Int} {p : PV} {Q} (hi : σ.hp[i]? = some (.list f xs)) (hj : -1000000 < j ∧ j < 1000000) (hb : inB j xs.length) (hx : xs[idx j xs.length]? = some p) (h : Q p σ)
    (hs : ∀ l k u, subscripted slice false (.ref l) (.int k u) = operate [.ref l, .int k u] (getItem (.ref l) (.int k u)) := by intro _ _ _; with_unfolding_all rfl) : Sub C (.Name x np) slice (.ref i) (.int j) σ Q := by
  rintro pro α s v u r ⟨a, ea, rfl⟩ ⟨t, rfl⟩
  obtain ⟨vs, hL, hV, hP⟩ := r.objs i _ a hi ea
  have hle := hV.length
  obtain ⟨w, hw, hR⟩ := hV.get hx
  refine At.done r h fun _ _ kk => tail_any hL.typeIs slot_list_getitem.lookup ?_ (hs _ _ _)
  obtain ⟨b1, b2⟩ := hb
  unfold idx at hw
  by_cases h0 : 0 ≤ j
  · rw [if_pos h0] at hw
    exact wpAny_getItem_list hL h0 (by lia) (by simpa using hw) (kk _ _ _ (fun _ _ e => e) hR)
  · rw [if_neg h0] at hw
    exact wpAny_getItem_list_neg hL (by lia) (by simp; lia) (by lia) (by rw [hle] at hw; simpa using hw) (kk _ _ _ (fun _ _ e => e) hR)
theorem Sub.tup {x : Str} {np : Pos} {slice : Expr} {i : Nat} {f : Bool} {xs : List PV} {j : Int} {p : PV} {Q} (hi : σ.hp[i]? = some (.tup f xs)) (hj : 0 ≤ j ∧ j < 1000000) (hx : xs[j.toNat]? = some p) (h : Q p σ)
    (hs : ∀ l k u, subscripted slice false (.ref l) (.int k u) = operate [.ref l, .int k u] (getItem (.ref l) (.int k u)) := by intro _ _ _; with_unfolding_all rfl) : Sub C (.Name x np) slice (.ref i) (.int j) σ Q := by
  rintro pro α s v u r ⟨a, ea, rfl⟩ ⟨t, rfl⟩
  obtain ⟨vs, hL, hV⟩ := r.objs i _ a hi ea
  obtain ⟨w, hw, hR⟩ := hV.get hx
  have hlt : j.toNat < xs.length := (List.getElem?_eq_some_iff.mp hx).1
  have hle := hV.length
  refine At.done r h fun _ _ kk => item_tupleT (j := j.toNat) hL (by lia) (by lia) ?_ (by simpa using hw) (kk _ _ _ (fun _ _ e => e) hR) (hs _ _ _)
  unfold seqIndex?
  rw [if_neg (by lia : ¬ j < 0)]
  have h1 : (0 ≤ j && j < (vs.length : Int)) = true := by simp; lia
  simp only [h1, if_true]
theorem Sub.str {x : Str} {np : Pos} {slice : Expr} {y : Str} {j : Int} {Q} (hj : -1000000 < j ∧ j < 1000000) (hb : inB j y.length) (h : Q (.str (Txt.item y j)) σ)
    (hs : ∀ t k u, subscripted slice false (.str y t) (.int k u) = operate [.str y t, .int k u] (getItem (.str y t) (.int k u)) := by intro _ _ _; with_unfolding_all rfl) : Sub C (.Name x np) slice (.str y) (.int j) σ Q := by
  rintro pro α s v u r ⟨t, rfl⟩ ⟨t', rfl⟩
  refine At.done r h fun _ _ kk => item_str (by unfold PySem.fitsSsize; simp; lia) hb.1 hb.2 (fun _ => kk _ _ _ (fun _ _ e => e) ⟨_, rfl⟩) (hs _ _ _)
/-- slices by ones -/
noncomputable def clip (v : Option Int) (d n : Nat) : Nat := match v with
  | none => d
  | some i => (max 0 (min (if i < 0 then i + n else i) (n : Int))).toNat
noncomputable def psl {A : Type} (xs : List A) (lo hi : Option Int) : List A := (xs.drop (clip lo 0 xs.length)).take (clip hi xs.length xs.length - clip lo 0 xs.length)
theorem clip_le (v : Option Int) {d n : Nat} (hd : d ≤ n) : clip v d n ≤ n := by
  unfold clip
  cases v with
  | none => exact hd
  | some i => simp only; omega
theorem bounds_clip (lo hi : Option Int) (n : Nat) : sliceBounds lo hi none n = (((clip lo 0 n : Nat) : Int), ((clip hi n n : Nat) : Int), (1 : Int)) := by
  unfold sliceBounds clip
  simp only [Option.getD_none]
  cases lo <;> cases hi <;> simp <;> omega
theorem range_pick {A : Type} (l : Array A) (a : Nat) : ∀ c, ((List.range c).map fun (k : Nat) => ((a : Int) + 1 * (k : Int)).toNat).filterMap (l[·]?) = (l.toList.drop a).take c := by
  intro c
  induction c with
  | zero => rfl
  | succ c ih =>
    rw [List.range_succ, List.map_append, List.filterMap_append, ih, List.take_add_one]
    congr 1
    have e : ((a : Int) + 1 * (c : Int)).toNat = a + c := by lia
    simp only [List.map_cons, List.map_nil, List.filterMap_cons, List.filterMap_nil, e]
    rw [List.getElem?_drop, ← Array.getElem?_toList]
    cases l.toList[a + c]? <;> rfl
theorem pick_psl {A : Type} (items : Array A) (lo hi : Option Int) : (sliceRange (sliceBounds lo hi none items.size).1 (sliceBounds lo hi none items.size).2.1 (sliceBounds lo hi none items.size).2.2).filterMap (items[·]?) = psl items.toList lo hi := by
  rw [bounds_clip lo hi]
  unfold psl
  simp only [Array.length_toList]
  generalize clip lo 0 items.size = a
  generalize clip hi items.size items.size = b
  unfold sliceRange
  dsimp only
  rw [if_pos (by decide : (1 : Int) > 0)]
  have e : (if (a : Int) < (b : Int) then ((b : Int) - a + 1 - 1) / 1 else 0).toNat = b - a := by
    split
    · rw [Int.ediv_one]; lia
    · lia
  rw [e]
  exact range_pick items a _
theorem slicePick_psl (items : Array Value) (lo hi : Option Int) : slicePick items lo hi none = (psl items.toList lo hi).toArray := by
  unfold slicePick
  rw [pick_psl]
theorem All2.psl {A B : Type} {R : A → B → Prop} {as : List A} {bs : List B} (h : All2 R as bs) (lo hi : Option Int) : All2 R (psl as lo hi) (psl bs lo hi) := by
  unfold Mine.psl
  rw [h.length]
  exact (h.drop _).take _
theorem psl_length_le {A : Type} (xs : List A) (lo hi : Option Int) : (psl xs lo hi).length ≤ xs.length := by
  unfold psl; simp; omega
noncomputable def ssl (x : Str) (lo hi : Option Int) : Str := ⟨(psl x.cps.toList lo hi).toArray⟩
theorem strIdx_bounds (lo hi : Option Int) (n : Nat) : Builtin.Str.strSliceIndices lo hi 1 n = sliceRange (sliceBounds lo hi none n).1 (sliceBounds lo hi none n).2.1 (sliceBounds lo hi none n).2.2 := rfl
theorem strPick (x : Str) (lo hi : Option Int) : (Builtin.Str.strSliceIndices lo hi 1 x.length).filterMap (x.cps[·]?) = psl x.cps.toList lo hi := by
  rw [strIdx_bounds]
  exact pick_psl x.cps lo hi
end
end Mine
set_option maxHeartbeats 4000000
namespace Mine
section
variable {C : Cx} {σ : AS} {pos : Pos} {k : Nat}
noncomputable def EvO (C : Cx) (e : Option Expr) (σ : AS) (Q : PV → AS → Prop) : Prop := Run C (VRel C.mg) (evalPart e C.env) σ Q
theorem EvO.none {Q} (h : Q .none σ) : EvO C none σ Q := fun _ _ _ r => At.done r h fun _ _ kk => by
  rw [evalPart_none]; exact wpAny_pure (kk _ _ _ (fun _ _ e => e) rfl)
theorem EvO.some {e : Expr} {Q} (h : Ev C e σ Q) : EvO C (some e) σ Q := h
/-- a part of a slice: none, or an int -/
noncomputable def optI : PV → Option (Option Int)
  | .none => some none
  | .int i => some (some i)
  | _ => none
theorem part_of {mg α} {p : PV} {o : Option Int} {v : Value} (h : optI p = some o) (x : VRel mg α p v) : IsPart v o := by
  cases p <;> simp only [optI] at h <;> first | cases h | skip
  · cases x; exact .none
  · obtain ⟨t, rfl⟩ := x; exact .int _ _
theorem part_of' {mg α} {p : PV} {o : Option Int} {v : Value} (h : optI p = some o) (x : VRel mg α p v) : ∃ q : Option (Int × Tok), v = partValue q ∧ q.map (·.1) = o := by
  cases p <;> simp only [optI] at h <;> first | cases h | skip
  · cases x; exact ⟨none, rfl, rfl⟩
  · obtain ⟨t, rfl⟩ := x; exact ⟨some (_, t), rfl, rfl⟩
theorem Ev.slcL {x : Str} {np p : Pos} {lo hi : Option Expr} {Q}
    (h : Ev C (.Name x np) σ fun a σ1 => EvO C lo σ1 fun pl σ2 => EvO C hi σ2 fun ph σ3 => ∃ i f xs l u, a = .ref i ∧ σ3.hp[i]? = some (.list f xs) ∧ xs.length < 1000000 ∧ optI pl = some l ∧ optI ph = some u ∧
      Q (.ref σ3.hp.length) { σ3 with hp := σ3.hp ++ [.list false (psl xs l u)] }) : Ev C (.Subscript (.Name x np) (.Slice lo hi none p) pos) σ Q := by
  intro pro α s rr Q' E kk
  refine wpAny_Subscript_list_slice (h pro α s rr _ _ fun a σ1 α1 s1 v h1 p1 r1 v1 => ?_)
  refine h1 pro α1 s1 r1 _ _ fun pl σ2 α2 s2 vl h2 p2 r2 v2 => ?_
  refine h2 pro α2 s2 r2 _ _ fun ph σ3 α3 s3 vu h3 p3 r3 v3 => ?_
  obtain ⟨i, f, xs, l, u, rfl, hi, hsz, hl, hu, hq⟩ := h3
  obtain ⟨a, ea, rfl⟩ := (v1.mono p2).mono p3
  obtain ⟨vs, hL, hV, hP⟩ := r3.objs i _ a hi ea
  have hle := hV.length
  have hs : vs.toArray.size ≤ sizeLine := by rw [sizeLine_eq, List.size_toArray]; lia
  refine ⟨a, vs.toArray, l, u, rfl, hL, hs, part_of hl (v2.mono p3), part_of hu v3, ?_⟩
  have hlen : (s3.heap.push { cls := .type "slice", data := .fields #[vl, vu, .none] }).objs.size = s3.heap.objs.size + 1 := by rw [Heap.size_push]
  rw [slicePick_psl]
  refine kk _ _ (α3 ++ [s3.heap.objs.size + 1]) _ _ hq (((p1.trans p2).trans p3).trans (List.prefix_append _ _)) (r3.add (tk := s3.toks) (fun b o e => push_keep _ _ (push_keep _ _ e)) ?_ ?_ ?_ (Nat.le_refl _)) (vref_new r3.len)
  · rw [← hlen]
    cases e : s3.heap.get? (s3.heap.push { cls := .type "slice", data := .fields #[vl, vu, .none] }).objs.size with
    | none => rfl
    | some o => exfalso; have := Heap.lt_size e; rw [hlen] at this; exact Nat.lt_irrefl _ (Nat.lt_trans (Nat.lt_succ_self _) this)
  · rw [← hlen]; exact ⟨_, Heap.get?_push_size _ rfl⟩
  · exact OAt.newList (vs := psl vs l u) (by rw [← hlen]; exact Heap.get?_push_size _ rfl) ((hV.psl l u).mono fun _ _ => VRel.mono (List.prefix_append _ _))
theorem Ev.slcS {x : Str} {np p : Pos} {lo hi : Option Expr} {Q}
    (h : Ev C (.Name x np) σ fun a σ1 => EvO C lo σ1 fun pl σ2 => EvO C hi σ2 fun ph σ3 => ∃ y l u, a = .str y ∧ y.length < 1000000 ∧ optI pl = some l ∧ optI ph = some u ∧ Q (.str (ssl y l u)) σ3) :
    Ev C (.Subscript (.Name x np) (.Slice lo hi none p) pos) σ Q := by
  intro pro α s rr Q' E kk
  refine wpAny_Subscript_str_slice (h pro α s rr _ _ fun a σ1 α1 s1 v h1 p1 r1 v1 => ?_)
  refine h1 pro α1 s1 r1 _ _ fun pl σ2 α2 s2 vl h2 p2 r2 v2 => ?_
  refine h2 pro α2 s2 r2 _ _ fun ph σ3 α3 s3 vu h3 p3 r3 v3 => ?_
  obtain ⟨y, l, u, rfl, hsz, hl, hu, hq⟩ := h3
  obtain ⟨t, rfl⟩ := v1
  obtain ⟨ql, rfl, el⟩ := part_of' hl v2
  obtain ⟨qu, rfl, eu⟩ := part_of' hu v3
  refine ⟨y, t, ql, qu, rfl, rfl, rfl, ?_⟩
  have hp : (slicePicked y ql qu none).filterMap (y.cps[·]?) = psl y.cps.toList l u := by
    unfold slicePicked; rw [el, eu]; exact strPick y l u
  have r4 := r3.grow (h' := s3.heap.push { cls := .type "slice", data := .fields #[partValue ql, partValue qu, .none] }) (tk := s3.toks) push_keep (Nat.le_refl _)
  have pp := (p1.trans p2).trans p3
  unfold sliceMade
  split
  · rename_i hc
    have hfull : ssl y l u = y := by
      simp only [Option.map_none, Option.getD_none, beq_self_eq_true, Bool.true_and, beq_iff_eq] at hc
      unfold ssl
      have hlen : (psl y.cps.toList l u).length = y.cps.toList.length := by
        rw [← hp]
        have : ∀ i ∈ slicePicked y ql qu none, i < y.cps.size := by
          intro i hi
          unfold slicePicked at hi
          simp only [Option.map_none, Option.getD_none] at hi
          rw [strIdx_bounds, bounds_clip] at hi
          unfold sliceRange at hi
          dsimp only at hi
          obtain ⟨c, hc1, rfl⟩ := List.mem_map.mp hi
          rw [List.mem_range] at hc1
          have hx := clip_le (qu.map (·.1)) (Nat.le_refl y.length)
          generalize clip (ql.map (·.1)) 0 y.length = a at *
          generalize clip (qu.map (·.1)) y.length y.length = b at *
          rw [if_pos (by decide : (1 : Int) > 0)] at hc1
          have hl : y.length = y.cps.size := rfl
          split at hc1
          · rw [Int.ediv_one] at hc1; lia
          · lia
        have hfm : ∀ (is : List Nat), (∀ i ∈ is, i < y.cps.size) → (is.filterMap (y.cps[·]?)).length = is.length := by
          intro is
          induction is with
          | nil => intro _; rfl
          | cons i is ih =>
            intro h
            rw [List.filterMap_cons]
            have hi := h i List.mem_cons_self
            simp only [Array.getElem?_eq_getElem hi, List.length_cons]
            rw [ih fun j hj => h j (List.mem_cons_of_mem _ hj)]
        rw [hfm _ this, hc]
        show y.cps.size = _
        simp
      have : psl y.cps.toList l u = y.cps.toList := by
        unfold psl at hlen ⊢
        simp only [List.length_take, List.length_drop] at hlen
        have h1 := clip_le l (Nat.zero_le y.cps.toList.length)
        have h2 := clip_le u (Nat.le_refl y.cps.toList.length)
        by_cases h0 : y.cps.toList.length = 0
        · have : y.cps.toList = [] := List.length_eq_zero_iff.mp h0
          rw [this]; simp
        · have e1 : clip l 0 y.cps.toList.length = 0 := by lia
          rw [e1, List.drop_zero]
          exact List.take_of_length_le (by lia)
      rw [this]
    rw [hfull] at hq
    exact kk _ _ _ _ _ hq pp r4 ⟨_, rfl⟩
  · rw [hp]
    refine ⟨?_, kk _ _ _ _ _ hq pp (r4.tok (Nat.le_succ _)) ⟨_, rfl⟩⟩
    have := psl_length_le y.cps.toList l u
    rw [sizeLine_eq]
    show ((psl y.cps.toList l u).toArray).size ≤ _
    have hl : y.length = y.cps.size := rfl
    rw [List.size_toArray]
    simp at this
    lia
/-- what is handed to a call -/
theorem Evs.nil {Q} (h : Q [] σ) : Evs C pos [] σ Q := fun _ _ _ r => At.done r h fun _ _ kk => Calls.spliced_nil (kk _ _ _ (fun _ _ e => e) .nil)
theorem Evs.cons {e : Expr} {es : List Expr} {Q} (h : Ev C e σ fun a σ1 => Evs C pos es σ1 fun ps σ2 => Q (a :: ps) σ2) (he : starEach (e :: es) C.env = (false, eval e C.env) :: starEach es C.env := by rfl) : Evs C pos (e :: es) σ Q := by
  intro pro α s rr Q' E kk
  rw [he]
  refine Calls.spliced_cons (h pro α s rr _ _ fun a σ1 α1 s1 v h1 p1 r1 v1 => ?_)
  exact h1 pro α1 s1 r1 _ _ fun ps σ2 α2 s2 vs h2 p2 r2 v2 => kk _ _ _ _ _ h2 (p1.trans p2) r2 (.cons (v1.mono p2) v2)
theorem At.newList {ps : List PV} {vs : List Value} {pro : Pro} {α : List Addr} {s : Shared} {Q : PV → AS → Prop} (r : Rel C pro σ α s) (hV : VsRel C.mg α ps vs) (hl : ps.length < 1000000) (hq : Q (.ref σ.hp.length) { σ with hp := σ.hp ++ [.list false ps] }) :
    At C (VRel C.mg) (newList vs) pro α s Q := by
  have hle := hV.length
  refine At.new r hq fun Q' E kk => ?_
  refine wpAny_newObj_type (kk _ _ _ push_keep get_size_none ⟨_, Heap.get?_push_size _ rfl⟩ (OAt.newList (Heap.get?_push_size _ rfl) (VsRel.mono (List.prefix_append _ _) hV))) ?_
  show vs.toArray.size ≤ sizeLine
  rw [sizeLine_eq, List.size_toArray]; lia
theorem Ev.list {es : List Expr} {Q} (h : Evs C pos es σ fun ps σ1 => ps.length < 1000000 ∧ Q (.ref σ1.hp.length) { σ1 with hp := σ1.hp ++ [.list false ps] }) : Ev C (.List es pos) σ Q := by
  intro pro α s rr Q' E kk
  refine List_ (h pro α s rr _ _ fun ps σ1 α1 s1 vs h1 p1 r1 v1 => ?_)
  exact At.newList r1 v1 h1.1 h1.2 _ _ fun g σ' α' s' b hq p3 r3 v3 => kk g σ' α' s' b hq (p1.trans p3) r3 v3
theorem Ev.tup {es : List Expr} {Q} (h : Evs C pos es σ fun ps σ1 => ps.length < 1000000 ∧ Q (.ref σ1.hp.length) { σ1 with hp := σ1.hp ++ [.tup false ps] }) : Ev C (.Tuple es k pos) σ Q := by
  intro pro α s rr Q' E kk
  refine Tuple_ (h pro α s rr _ _ fun ps σ1 α1 s1 vs h1 p1 r1 v1 => ?_)
  have hle := v1.length
  refine At.new r1 h1.2 (fun Q' E kk => ?_) _ _ fun g σ' α' s' b hq p3 r3 v3 => kk g σ' α' s' b hq (p1.trans p3) r3 v3
  refine wpAny_newObj_type (kk _ _ _ push_keep get_size_none ⟨_, Heap.get?_push_size _ rfl⟩ ⟨vs, ⟨_, Heap.get?_push_size _ rfl, rfl, _, rfl⟩, VsRel.mono (List.prefix_append _ _) v1⟩) ?_
  have h0 := h1.1
  show vs.toArray.size ≤ sizeLine
  rw [sizeLine_eq, List.size_toArray]; lia
/-- what may be called without an operand's loss -/
noncomputable def Kpr (C : Cx) (σ : AS) : PV → Prop
  | .raw (.builtin _) => True
  | .raw (.type _) => True
  | .fn x => ∃ d ∈ recsOf C.prog, d.name = x
  | .ref i => ∃ j, σ.hp[i]? = some (.app j)
  | _ => False
theorem kpr_looks {pro : Pro} {α : List Addr} {s : Shared} {f : PV} {v : Value} (r : Rel C pro σ α s) (hf : Kpr C σ f) (hv : VRel C.mg α f v) :
    ∃ k, (k = Keeper.frame ∨ k = Keeper.machine ∨ k = Keeper.boundFrame) ∧ Looks (model C.prog C.w) s.heap (keeperOf v) k := by
  cases f with
  | raw u =>
    cases hv
    cases v <;> first | exact hf.elim | exact ⟨_, .inr (.inl rfl), .of_pure rfl⟩
  | fn x =>
    obtain ⟨d, hd, rfl⟩ := hf
    obtain ⟨a, rfl, ha⟩ := hv
    obtain ⟨b, o, pm, code, doc, h1, h2, h3, h4⟩ := r.facts.fn d hd
    rw [ha] at h1; cases h1
    obtain ⟨cls, dd, data, sl⟩ := o
    simp only at h3; subst h3
    exact ⟨_, .inl rfl, (Looks.ld (part := none) h2).andThen .now⟩
  | ref i =>
    obtain ⟨j, hj⟩ := hf
    obtain ⟨a, ha, rfl⟩ := hv
    obtain ⟨l, _, e⟩ := r.objs i _ a hj ha
    exact ⟨_, .inr (.inl rfl), (Looks.ld (part := none) e).andThen .now⟩
  | _ => exact hf.elim
theorem At.callWith {f : PV} {first : List Value} {fps : List PV} {e : Expr} {es : List Expr} {pro : Pro} {α : List Addr} {s : Shared} {v : Value} {Q : PV → AS → Prop} (r : Rel C pro σ α s) (hv : VRel C.mg α f v) (hf : VsRel C.mg α fps first)
    (h : Evs C pos (e :: es) σ fun ps σ2 => Kpr C σ2 f ∧ Cal C f (fps ++ ps) σ2 Q)
    (he : starEach (e :: es) C.env = (false, eval e C.env) :: starEach es C.env) (hp : (backTo pos (starEach es C.env)).any (·.1) = false) :
    At C (VRel C.mg) (callWith pos v first (backTo pos (starEach (e :: es) C.env)) []) pro α s Q := by
  intro Q' E kk
  have h' := h pro α s r
  rw [he] at h' ⊢
  refine callWith_of (P := fun hh => ∃ k, (k = Keeper.frame ∨ k = Keeper.machine ∨ k = Keeper.boundFrame) ∧ Looks (model C.prog C.w) hh (keeperOf v) k) ?_ (fun _ p => p) ?_
  · show ((false || (backTo pos (starEach es C.env)).any (·.1)) || false) = false
    rw [hp]; rfl
  · refine Calls.evalArgs_plain (h' _ _ fun ps σ2 α2 s2 vs h2 p2 r2 v2 => ⟨kpr_looks r2 h2.1 (hv.mono p2), ?_⟩)
    exact h2.2 pro α2 s2 v (first ++ vs) r2 (hv.mono p2) ((VsRel.mono p2 hf).append v2) _ _ fun g σ' α' s' b hq p3 r3 v3 => kk g σ' α' s' b hq (p2.trans p3) r3 v3
/-- a call by a name -/
theorem Ev.call {x : Str} {np : Pos} {e : Expr} {es : List Expr} {Q} (h : Ev C (.Name x np) σ fun f σ1 => Evs C pos (e :: es) σ1 fun ps σ2 => Kpr C σ2 f ∧ Cal C f ps σ2 Q)
    (he : starEach (e :: es) C.env = (false, eval e C.env) :: starEach es C.env := by rfl) (hp : (backTo pos (starEach es C.env)).any (·.1) = false := by rfl) : Ev C (.Call (.Name x np) (e :: es) [] pos) σ Q := by
  intro pro α s rr Q' E kk
  refine wpAny_Call_NameR (h pro α s rr _ _ fun f σ1 α1 s1 v h1 p1 r1 v1 => ?_)
  exact At.callWith (fps := []) (first := []) r1 v1 .nil h1 he hp _ _ fun g σ' α' s' b hq p3 r3 v3 => kk g σ' α' s' b hq (p1.trans p3) r3 v3
/-- a method of a text -/
theorem Ev.methS {o : Expr} {name : Str} {id : String} {apos : Pos} {e : Expr} {es : List Expr} {pl : Sem Bool} {Q}
    (gm : ∀ {M : Model} {A : Around} {E : Value → Shared → Prop} {s : Shared} {x : Str} {t : Tok} {Q : Value × List Value → Shared → Prop}, Q (.builtin id, [.str x t]) s → wpAny M A (getMethod (.str x t) name pl) Q E s)
    (h : Ev C o σ fun a σ1 => ∃ x, a = .str x ∧ Evs C pos (e :: es) σ1 fun ps σ2 => Cal C (.raw (.builtin id)) (.str x :: ps) σ2 Q)
    (hc : eval (.Call (.Attribute o name apos) (e :: es) [] pos) C.env = (do
      let ov ← eval o C.env
      standAt apos.atName
      let (f, first) ← holding [ov] (getMethod ov name pl)
      callWith pos f first (backTo pos (starEach (e :: es) C.env)) []) := by rfl)
    (he : starEach (e :: es) C.env = (false, eval e C.env) :: starEach es C.env := by rfl) (hp : (backTo pos (starEach es C.env)).any (·.1) = false := by rfl) : Ev C (.Call (.Attribute o name apos) (e :: es) [] pos) σ Q := by
  intro pro α s rr Q' E kk
  refine MethodCall_ (h pro α s rr _ _ fun a σ1 α1 s1 v h1 p1 r1 v1 => ?_) hc
  obtain ⟨x, rfl, h1⟩ := h1
  obtain ⟨t, rfl⟩ := v1
  refine gm ?_
  exact At.callWith (f := .raw (.builtin id)) (fps := [.str x]) (first := [.str x t]) r1 rfl (.cons ⟨t, rfl⟩ .nil) (Run.mono h1 fun ps σ2 h2 => ⟨trivial, h2⟩) he hp _ _ fun g σ' α' s' b hq p3 r3 v3 => kk g σ' α' s' b hq (p1.trans p3) r3 v3
theorem Ev.methS0 {o : Expr} {name : Str} {id : String} {apos : Pos} {pl : Sem Bool} {Q}
    (gm : ∀ {M : Model} {A : Around} {E : Value → Shared → Prop} {s : Shared} {x : Str} {t : Tok} {Q : Value × List Value → Shared → Prop}, Q (.builtin id, [.str x t]) s → wpAny M A (getMethod (.str x t) name pl) Q E s)
    (h : Ev C o σ fun a σ1 => ∃ x, a = .str x ∧ Cal C (.raw (.builtin id)) [.str x] σ1 Q)
    (hc : eval (.Call (.Attribute o name apos) [] [] pos) C.env = (do
      let ov ← eval o C.env
      standAt apos.atName
      let (f, first) ← holding [ov] (getMethod ov name pl)
      callWith pos f first (backTo pos (starEach [] C.env)) []) := by rfl) : Ev C (.Call (.Attribute o name apos) [] [] pos) σ Q := by
  intro pro α s rr Q' E kk
  refine MethodCall_ (h pro α s rr _ _ fun a σ1 α1 s1 v h1 p1 r1 v1 => ?_) hc
  obtain ⟨x, rfl, h1⟩ := h1
  obtain ⟨t, rfl⟩ := v1
  refine gm (callWith_method0 ?_)
  exact h1 pro α1 s1 _ _ r1 rfl (.cons ⟨t, rfl⟩ .nil) _ _ fun g σ' α' s' b hq p3 r3 v3 => kk g σ' α' s' b hq (p1.trans p3) r3 v3
/-- append -/
theorem Ev.methA {o : Expr} {apos : Pos} {e : Expr} {es : List Expr} {pl : Sem Bool} {Q}
    (h : Ev C o σ fun a σ1 => ∃ i xs, a = .ref i ∧ σ1.hp[i]? = some (.list false xs) ∧ Evs C pos (e :: es) σ1 fun ps σ2 => Cal C (.raw (.builtin "list.append")) (.ref i :: ps) σ2 Q)
    (hc : eval (.Call (.Attribute o "append" apos) (e :: es) [] pos) C.env = (do
      let ov ← eval o C.env
      standAt apos.atName
      let (f, first) ← holding [ov] (getMethod ov "append" pl)
      callWith pos f first (backTo pos (starEach (e :: es) C.env)) []) := by rfl)
    (he : starEach (e :: es) C.env = (false, eval e C.env) :: starEach es C.env := by rfl) (hp : (backTo pos (starEach es C.env)).any (·.1) = false := by rfl) : Ev C (.Call (.Attribute o "append" apos) (e :: es) [] pos) σ Q := by
  intro pro α s rr Q' E kk
  refine MethodCall_ (h pro α s rr _ _ fun a σ1 α1 s1 v h1 p1 r1 v1 => ?_) hc
  obtain ⟨i, xs, rfl, hi, h1⟩ := h1
  obtain ⟨a, ea, rfl⟩ := v1
  obtain ⟨vs, _, _, hP⟩ := r1.objs i _ a hi ea
  obtain ⟨n, ho⟩ := hP rfl
  refine Calls.getMethod_list_append ho rfl rfl ?_
  exact At.callWith (f := .raw (.builtin "list.append")) (fps := [.ref i]) (first := [.ref a]) r1 rfl (.cons ⟨a, ea, rfl⟩ .nil) (Run.mono h1 fun ps σ2 h2 => ⟨trivial, h2⟩) he hp _ _ fun g σ' α' s' b hq p3 r3 v3 => kk g σ' α' s' b hq (p1.trans p3) r3 v3
end
end Mine
set_option maxHeartbeats 4000000
namespace Mine
theorem VsRel.cons_inv {mg α} {p : PV} {ps : List PV} {vs : List Value} (h : VsRel mg α (p :: ps) vs) : ∃ v r, vs = v :: r ∧ VRel mg α p v ∧ VsRel mg α ps r := by
  cases h with
  | cons a b => exact ⟨_, _, rfl, a, b⟩
theorem VsRel.nil_inv {mg α} {vs : List Value} (h : VsRel mg α [] vs) : vs = [] := by cases h; rfl
theorem VsRel.one {mg α} {p : PV} {vs : List Value} (h : VsRel mg α [p] vs) : ∃ v, vs = [v] ∧ VRel mg α p v := by
  obtain ⟨v, r, rfl, a, b⟩ := h.cons_inv
  obtain rfl := b.nil_inv
  exact ⟨v, rfl, a⟩
theorem VsRel.two {mg α} {p q : PV} {vs : List Value} (h : VsRel mg α [p, q] vs) : ∃ v u, vs = [v, u] ∧ VRel mg α p v ∧ VRel mg α q u := by
  obtain ⟨v, r, rfl, a, b⟩ := h.cons_inv
  obtain ⟨u, rfl, c⟩ := b.one
  exact ⟨v, u, rfl, a, c⟩
theorem VsRel.three {mg α} {p q t : PV} {vs : List Value} (h : VsRel mg α [p, q, t] vs) : ∃ v u w, vs = [v, u, w] ∧ VRel mg α p v ∧ VRel mg α q u ∧ VRel mg α t w := by
  obtain ⟨v, r, rfl, a, b⟩ := h.cons_inv
  obtain ⟨u, w, rfl, c, d⟩ := b.two
  exact ⟨v, u, w, rfl, a, c, d⟩
theorem strs_inv {mg α} : ∀ {xs : List Str} {vs : List Value}, VsRel mg α (xs.map .str) vs → ∃ l : List (Str × Tok), vs = strValues l ∧ l.map (·.1) = xs
  | [], _, h => ⟨[], h.nil_inv, rfl⟩
  | x :: xs, _, h => by
    obtain ⟨v, r, rfl, ⟨t, rfl⟩, b⟩ := VsRel.cons_inv h
    obtain ⟨l, rfl, rfl⟩ := strs_inv b
    exact ⟨(x, t) :: l, rfl, rfl⟩
theorem ints_inv {mg α} : ∀ {xs : List Int} {vs : List Value}, VsRel mg α (xs.map .int) vs → IntsAre vs xs
  | [], _, h => by obtain rfl := h.nil_inv; exact .nil
  | x :: xs, _, h => by
    obtain ⟨v, r, rfl, ⟨t, rfl⟩, b⟩ := VsRel.cons_inv h
    exact .cons _ _ (ints_inv b)
section
variable {C : Cx} {σ : AS} {pos : Pos} {k : Nat}
theorem Cal.lenL {i : Nat} {f : Bool} {xs : List PV} {Q} (hi : σ.hp[i]? = some (.list f xs)) (hl : xs.length < 1000000) (h : Q (.int xs.length) σ) : Cal C (.raw (.builtin "len")) [.ref i] σ Q := by
  intro pro α s v vs r hv hvs
  cases hv
  obtain ⟨_, rfl, a, ea, rfl⟩ := hvs.one
  obtain ⟨ws, hL, hV, _⟩ := r.objs i _ a hi ea
  have hle := hV.length
  refine At.done r h fun _ _ kk => Calls.call_len_list hL (by simp; lia) ?_
  exact kk (.int ws.toArray.size (s.toks + 1)) s.heap (s.toks + 1 + 1) (fun _ _ e => e) ⟨s.toks + 1, by rw [List.size_toArray, hle]⟩
theorem Cal.lenS {x : Str} {Q} (hl : x.length < 1000000) (h : Q (.int x.length) σ) : Cal C (.raw (.builtin "len")) [.str x] σ Q := by
  intro pro α s v vs r hv hvs
  cases hv
  obtain ⟨_, rfl, t, rfl⟩ := hvs.one
  exact At.done r h fun _ _ kk => PySem.P.len_str (by lia) (kk _ _ _ (fun _ _ e => e) ⟨_, rfl⟩)
theorem Cal.range1 {n : Int} {Q} (h : Q (.ref σ.hp.length) { σ with hp := σ.hp ++ [.rng 0 n 1] }) : Cal C (.raw (.type "range")) [.int n] σ Q := by
  intro pro α s v vs r hv hvs
  cases hv
  obtain ⟨_, rfl, t, rfl⟩ := hvs.one
  exact At.new r h fun _ _ kk => call_range_1 (kk _ _ _ push_keep get_size_none ⟨_, Heap.get?_push_size _ rfl⟩ ⟨_, _, _, Heap.get?_push_size _ rfl⟩)
theorem Cal.range2 {a b : Int} {Q} (h : Q (.ref σ.hp.length) { σ with hp := σ.hp ++ [.rng a b 1] }) : Cal C (.raw (.type "range")) [.int a, .int b] σ Q := by
  intro pro α s v vs r hv hvs
  cases hv
  obtain ⟨_, _, rfl, ⟨t, rfl⟩, ⟨u, rfl⟩⟩ := hvs.two
  exact At.new r h fun _ _ kk => call_range_2 (kk _ _ _ push_keep get_size_none ⟨_, Heap.get?_push_size _ rfl⟩ ⟨_, _, _, Heap.get?_push_size _ rfl⟩)
theorem Cal.range3 {a b c : Int} {Q} (hc : c ≠ 0) (hs : c.natAbs < 1073741824) (h : Q (.ref σ.hp.length) { σ with hp := σ.hp ++ [.rng a b c] }) : Cal C (.raw (.type "range")) [.int a, .int b, .int c] σ Q := by
  intro pro α s v vs r hv hvs
  cases hv
  obtain ⟨_, _, _, rfl, ⟨t, rfl⟩, ⟨u, rfl⟩, ⟨w, rfl⟩⟩ := hvs.three
  exact At.new r h fun _ _ kk => call_range_3 hc (kk _ _ _ push_keep get_size_none ⟨_, Heap.get?_push_size _ rfl⟩ ⟨_, _, _, Heap.get?_push_size _ rfl⟩) (.inl (PyProof.noPylong_small hs))
theorem Cal.listRange {i n : Nat} {a b c : Int} {Q} (hi : σ.hp[i]? = some (.rng a b c)) (hs : Builtin.Range.small a b c = true) (hn : Builtin.Range.rangeSize a b c = n) (hl : n < 1000000)
    (h : Q (.ref σ.hp.length) { σ with hp := σ.hp ++ [.list false ((List.range n).map fun (j : Nat) => PV.int (a + j * c))] }) : Cal C (.raw (.type "list")) [.ref i] σ Q := by
  intro pro α s v vs r hv hvs
  cases hv
  obtain ⟨_, rfl, x, ex, rfl⟩ := hvs.one
  obtain ⟨t, u, w, hR⟩ := r.objs i _ x hi ex
  refine At.new r h fun _ _ kk => call_list_range C.hd hR hs hn (by lia) fun h' tk acc c' hk ho hacc => ?_
  refine kk _ _ _ hk get_size_none ⟨_, ho⟩ (OAt.newList (vs := acc.toList) (by rw [ho]) ?_)
  obtain ⟨hsz, hit⟩ := hacc
  have key : ∀ (m : Nat) (l : List Value), l.length = m → (∀ (j : Nat) (v : Value), l[j]? = some v → ∃ t, v = Value.int (a + j * c) t) → VsRel C.mg (α ++ [s.heap.objs.size]) ((List.range m).map fun (j : Nat) => PV.int (a + j * c)) l := by
    intro m
    induction m with
    | zero => intro l hl _; rw [List.length_eq_zero_iff.mp hl]; exact .nil
    | succ m ih =>
      intro l hl hv
      have hne : l ≠ [] := fun e => by rw [e] at hl; cases hl
      rw [List.range_succ, List.map_append, ← List.dropLast_concat_getLast hne]
      refine All2.append (ih _ (by simp [hl]) fun j v e => hv j v ?_) (.cons ?_ .nil)
      · have hj : j < l.dropLast.length := (List.getElem?_eq_some_iff.mp e).1
        rw [List.length_dropLast] at hj
        rw [List.getElem?_dropLast, if_pos hj] at e; exact e
      · obtain ⟨t, e⟩ := hv m (l.getLast hne) (by rw [List.getLast_eq_getElem, List.getElem?_eq_getElem (by lia)]; congr 1; simp [hl])
        exact ⟨t, e⟩
  exact key n acc.toList (by simpa using hsz) fun j v e => hit j v (by simpa using e)
theorem Cal.min2 {a b : Int} {Q} (h : Q (.int (min a b)) σ) : Cal C (.raw (.builtin "min")) [.int a, .int b] σ Q := by
  intro pro α s v vs r hv hvs
  cases hv
  obtain ⟨_, _, rfl, ⟨t, rfl⟩, ⟨u, rfl⟩⟩ := hvs.two
  refine At.done r h fun _ _ kk => min_two_ints C.hd fun h' tk hk => kk _ _ _ hk ?_
  split
  · exact ⟨u, by rw [show min a b = b from by lia]⟩
  · exact ⟨t, by rw [show min a b = a from by lia]⟩
theorem Cal.sumL {i : Nat} {f : Bool} {ns : List Int} {Q} (hi : σ.hp[i]? = some (.list f (ns.map PV.int))) (h : Q (.int ns.sum) σ) : Cal C (.raw (.builtin "sum")) [.ref i] σ Q := by
  intro pro α s v vs r hv hvs
  cases hv
  obtain ⟨_, rfl, a, ea, rfl⟩ := hvs.one
  obtain ⟨ws, hL, hV, _⟩ := r.objs i _ a hi ea
  have hI := ints_inv hV
  obtain ⟨xs, hx⟩ := hI.allInts.items
  have hn : numsOf ws.toArray.toList = ns := by rw [show ws.toArray.toList = ws from rfl, hI.numsOf]
  rw [hx] at hL hn
  rw [nums_intItems] at hn
  refine At.done r h fun _ _ kk => sum_intListG C.hd hL fun h' tk t' hk => kk _ _ _ hk ⟨t', ?_⟩
  rw [preSum_eq, List.take_of_length_le (by simp), hn]
/-- a list grows -/
theorem At.app {i : Nat} {xs : List PV} {p : PV} {Q : PV → AS → Prop} {pro : Pro} {α : List Addr} {s : Shared} {a : Addr} {v : Value} (r : Rel C pro σ α s) (hi : σ.hp[i]? = some (.list false xs)) (ea : α[i]? = some a) (hv : VRel C.mg α p v) (hl : xs.length < 1000000)
    (h : Q .none { σ with hp := σ.hp.set i (.list false (xs ++ [p])) }) : At C (VRel C.mg) (call (.builtin "list.append") [.ref a, v]) pro α s Q := by
  obtain ⟨ws, hL, hV, hP⟩ := r.objs i _ a hi ea
  have hle := hV.length
  intro Q' E kk
  refine wpAny_list_append_plain (hP rfl) (fun h' hl' hs => kk _ _ _ _ _ h (List.prefix_refl _) (r.put (tk := s.toks) ea hi rfl hs.extBut ?_ ?_ (Nat.le_refl _)) rfl) (by rw [sizeLine_eq]; simp; omega)
  · obtain ⟨n, e⟩ := hl'; exact ⟨_, e⟩
  · obtain ⟨n, e⟩ := hl'
    exact OAt.newList (vs := ws ++ [v]) (n := n) (by rw [e]; simp) (hV.append (.cons hv .nil))
theorem Cal.append {i : Nat} {xs : List PV} {p : PV} {Q} (hi : σ.hp[i]? = some (.list false xs)) (hl : xs.length < 1000000) (h : Q .none { σ with hp := σ.hp.set i (.list false (xs ++ [p])) }) : Cal C (.raw (.builtin "list.append")) [.ref i, p] σ Q := by
  intro pro α s v vs r hv hvs
  cases hv
  obtain ⟨_, _, rfl, ⟨a, ea, rfl⟩, hp⟩ := hvs.two
  exact At.app r hi ea hp hl h
theorem Cal.join {x : Str} {i : Nat} {f : Bool} {xs : List Str} {Q} (hi : σ.hp[i]? = some (.list f (xs.map PV.str))) (hok : JoinOk x xs = true) (h : Q (.str (Txt.join x xs)) σ) : Cal C (.raw (.builtin "str.join")) [.str x, .ref i] σ Q := by
  intro pro α s v vs r hv hvs
  cases hv
  obtain ⟨_, _, rfl, ⟨t, rfl⟩, ⟨a, ea, rfl⟩⟩ := hvs.two
  obtain ⟨ws, hL, hV, _⟩ := r.objs i _ a hi ea
  obtain ⟨l, rfl, hl⟩ := strs_inv hV
  exact At.done r h fun _ _ kk => SC.join hL hl hok fun t' tk => kk _ s.heap _ (fun _ _ e => e) ⟨_, rfl⟩
theorem Cal.lower {x : Str} {Q} (hl : Builtin.Str.tooLong (Txt.lower x).length = false) (h : Q (.str (Txt.lower x)) σ) : Cal C (.raw (.builtin "str.lower")) [.str x] σ Q := by
  intro pro α s v vs r hv hvs
  cases hv
  obtain ⟨_, rfl, ⟨t, rfl⟩⟩ := hvs.one
  exact At.done r h fun _ _ kk => SC.lower hl (kk _ _ _ (fun _ _ e => e) ⟨_, rfl⟩)
theorem Cal.find3 {x y : Str} {i : Int} {Q} (h : Q (.int (Txt.find3 x y i)) σ) : Cal C (.raw (.builtin "str.find")) [.str x, .str y, .int i] σ Q := by
  intro pro α s v vs r hv hvs
  cases hv
  obtain ⟨_, _, _, rfl, ⟨t, rfl⟩, ⟨u, rfl⟩, ⟨w, rfl⟩⟩ := hvs.three
  exact At.done r h fun _ _ kk => SC.find3 (kk _ _ _ (fun _ _ e => e) ⟨_, rfl⟩)
/-- replace by two written texts -/
theorem Ev.replace {o : Expr} {apos p1' p2 : Pos} {k1 k2 : Nat} {y z : Str} {pl : Sem Bool} {Q}
    (h : Ev C o σ fun a σ1 => ∃ x, a = .str x ∧ x.length < 1000 ∧ Q (.str (Txt.replace x y z)) σ1) (hyz : (y == z) = false) (hz : z.length < 1000)
    (hc : eval (.Call (.Attribute o "replace" apos) [.Constant (.str y) k1 p1', .Constant (.str z) k2 p2] [] pos) C.env = (do
      let ov ← eval o C.env
      standAt apos.atName
      let (f, first) ← holding [ov] (getMethod ov "replace" pl)
      callWith pos f first (backTo pos (starEach [.Constant (.str y) k1 p1', .Constant (.str z) k2 p2] C.env)) []) := by rfl) :
    Ev C (.Call (.Attribute o "replace" apos) [.Constant (.str y) k1 p1', .Constant (.str z) k2 p2] [] pos) σ Q := by
  intro pro α s rr Q' E kk
  refine MethodCall_ (h pro α s rr _ _ fun a σ1 α1 s1 v h1 p1 r1 v1 => ?_) hc
  obtain ⟨x, rfl, hx, hq⟩ := h1
  obtain ⟨t, rfl⟩ := v1
  refine GM.replace ?_
  refine wpAny_with_toks (n := s1.toks) (Nat.le_refl _) ?_
  refine callWith_method1 (Calls.spliced_cons (Calls.Constant_str (pos := p1') (k := k1) (Calls.spliced_cons (Calls.Constant_str (pos := p2) (k := k2) (Calls.spliced_nil ?_)))))
  have h0 := r1.tk
  refine SC.replace (Nat.ne_of_gt h0) (Nat.succ_ne_zero _) (Nat.ne_of_lt (Nat.lt_succ_self _)) hyz ?_ fun t' tk htk => kk _ _ _ _ _ hq p1 (r1.tok htk) ⟨_, rfl⟩
  have h1 : (x.length + 1) * z.length ≤ (x.length + 1) * 1000 := Nat.mul_le_mul_left _ (by lia)
  lia
end
end Mine
set_option maxHeartbeats 4000000
namespace Mine
theorem mapSeq_plain {n : Nat} {xs : Array Value} {f : Array Value → Array Value} : ∃ n', Obj.mapSeq f { cls := .type "list", data := .seq xs n } = { cls := .type "list", data := .seq (f xs) n' } := ⟨_, rfl⟩
theorem setItem_plain {prog : Program} {w : World} {A : Around} {E : Value → Shared → Prop} {s : Shared} {l : Addr} {items : Array Value} {k : Int} {t : Tok} {v : Value} {Q : Unit → Shared → Prop} (hl : s.heap.PlainList l items)
    (h0 : 0 ≤ k) (hfit : k < 2 ^ 63) (hn : k < items.size) (hQ : ∀ h', h'.PlainList l (items.setIfInBounds k.toNat v) → Heap.SameBut l s.heap h' → Q () { s with heap := h' }) :
    wpAny (model prog w) A (setItem (.ref l) (.int k t) v) Q E s := by
  obtain ⟨n, ho⟩ := id hl
  have hT := hl.isList.typeIs
  unfold setItem
  try with_reducible refine wpAny_holding ?_
  first | refine wpAny_bind (wpAny_pure ?_) | skip
  refine wpAny_bind (wpAny_sequenceKey hT (by decide) ?_)
  refine wpAny_bind (wpAny_callSpecial?_slot (name := Str.ofString "__setitem__") hT slot_list_setitem (wpAny_call_entry slot_list_setitem hT entry_list_setitem ?_ (args_list_setitem _ _ _)))
  show wpAny _ _ (Builtin.List.listSubscript? (.int k t) >>= _) _ _ s
  refine wpAny_bind (wpAny_listSubscript_int (fitsIndex_of h0 hfit) ?_)
  clear hfit
  obtain ⟨j, rfl⟩ := Int.eq_ofNat_of_zero_le h0
  have hj : j < items.size := by lia
  have hx' : items[j]? = some items[j] := Array.getElem?_eq_getElem hj
  show wpAny _ _ ((seqItemAt l j >>= fun r => pure (r.map (j, ·))) >>= _) _ _ s
  refine wpAny_bind (wpAny_bind (wpAny_seqItemAt ho rfl (wpAny_pure ?_)))
  rw [hx']
  show wpAny _ _ (setSeqItemAt l j v >>= _) _ _ s
  have hfin : (s.heap.update l (Obj.mapSeq (·.setIfInBounds j v))).PlainList l (items.setIfInBounds j v) := by
    obtain ⟨n', e⟩ := mapSeq_plain (n := n) (xs := items) (f := (·.setIfInBounds j v))
    exact ⟨n', by rw [Heap.get?_update_self _ ho (by rw [e]; rfl), e]⟩
  refine wpAny_bind (wpAny_setSeqItemAt ho rfl ?_)
  first
    | exact wpAny_bind (wpAny_pure (wpAny_pure ⟨.none, rfl, wpAny_pure (hQ _ hfin (Heap.SameBut.update ..))⟩))
    | exact wpAny_pure ⟨.none, rfl, wpAny_pure (hQ _ hfin (Heap.SameBut.update ..))⟩
section
variable {C : Cx} {σ : AS} {pos : Pos} {k : Nat}
/-- a store under a name -/
noncomputable def Sto (C : Cx) (x : Str) (p : PV) (σ : AS) (Q : AS → Prop) : Prop := ∀ pro α s v, Rel C pro σ α s → VRel C.mg α p v → At C (fun _ (_ : Unit) (_ : Unit) => True) (storeName C.env x v) pro α s (fun _ => Q)
theorem Sto.loc {x : Str} {p : PV} {sc : Scope} {Q} (hs : C.env.scope = sc) (hk : sc.names.lookup x = some .local) (h : Q (σ.setL x p)) : Sto C x p σ Q := by
  intro pro α s v r hv Q' E kk
  obtain ⟨m, hn, hm⟩ := r.ns
  refine wpAny_storeName_local (by unfold Env.kindOf; rw [hs]; exact hk) hn (fun h' hn' hs' => kk () _ α _ () h (List.prefix_refl _) (r.setL hv hm hn' hs' (Nat.le_succ _)) trivial) ?_
  rw [C.kind]; rfl
theorem Sto.cel {x : Str} {p : PV} {sc : Scope} {Q} (hs : C.env.scope = sc) (hk : sc.names.lookup x = some .cell) (hc : ∃ c, C.env.cells.lookup x = some c) (h : Q (σ.setC x p)) : Sto C x p σ Q := by
  intro pro α s v r hv Q' E kk
  obtain ⟨c, hc⟩ := hc
  obtain ⟨_, _, _, _, v', hcell, _⟩ := r.cel x c hc
  refine wpAny_storeName_cell C.kind (by unfold Env.kindOf; rw [hs]; exact hk) hc hcell fun h' hn' hs' => ?_
  exact kk () _ α _ () h (List.prefix_refl _) (r.setC hc hv hn' hs' (Nat.le_refl _)) trivial
theorem Asn.name {x : Str} {p : PV} {Q} (h : Sto C x p σ Q) : Asn C (.Name x pos) p σ Q := by
  intro pro α s v r hv Q' E kk
  rw [arm_assign_Name]
  exact wpAny_bind (wpAny_standAt (wpAny_bindName (h pro α s v r hv _ _ kk)))
theorem Asn.item {o i : Expr} {p : PV} {Q} (h : Ev C o σ fun a σ1 => Ev C i σ1 fun b σ2 => ∃ l xs j, a = .ref l ∧ b = .int j ∧ σ2.hp[l]? = some (.list false xs) ∧ 0 ≤ j ∧ j < (xs.length : Int) ∧ xs.length < 1000000 ∧ Q { σ2 with hp := σ2.hp.set l (.list false (xs.set j.toNat p)) }) :
    Asn C (.Subscript o i pos) p σ Q := by
  intro pro α s v r hv Q' E kk
  rw [arm_assign_Subscript]
  refine wpAny_bind (wpAny_holding (h pro α s r _ _ fun a σ1 α1 s1 v1 h1 p1 r1 w1 => wpAny_bind (wpAny_holding (h1 pro α1 s1 r1 _ _ fun b σ2 α2 s2 v2 h2 p2 r2 w2 => ?_))))
  obtain ⟨l, xs, j, rfl, rfl, hl, h0, hj, hsz, hq⟩ := h2
  obtain ⟨a, ea, rfl⟩ := w1.mono p2
  obtain ⟨t, rfl⟩ := w2
  obtain ⟨ws, hL, hV, hP⟩ := r2.objs l _ a hl ea
  have hle := hV.length
  refine wpAny_bind (wpAny_standAt (wpAny_bind (wpAny_holding ?_)))
  refine setItem_plain (hP rfl) h0 (by lia) (by simp; lia) fun h' hl' hs => ?_
  refine wpAny_release (kk () _ α2 _ () hq (p1.trans p2) (r2.put (tk := s2.toks) ea hl rfl hs.extBut ?_ ?_ (Nat.le_refl _)) trivial)
  · obtain ⟨n, e⟩ := hl'; exact ⟨_, e⟩
  · obtain ⟨n, e⟩ := hl'
    refine OAt.newList (vs := ws.set j.toNat v) (n := n) (by rw [e]; simp) (hV.set j.toNat (hv.mono (p1.trans p2)))
/-- several targets, in order -/
noncomputable def AsnL (C : Cx) : List Expr → List PV → AS → (AS → Prop) → Prop
  | t :: ts, p :: ps, σ, Q => Asn C t p σ fun σ1 => AsnL C ts ps σ1 Q
  | [], [], σ, Q => Q σ
  | _, _, _, _ => False
noncomputable def plainT : Expr → Bool
  | .Starred .. => false
  | _ => true
theorem assignEach_plain {env : Env} : ∀ {ts : List Expr}, ts.all plainT = true → (assignEach ts env).map (·.2) = ts.map fun t => assign t env
  | [], _ => rfl
  | t :: ts, h => by
    rw [List.all_cons, Bool.and_eq_true] at h
    have ih := assignEach_plain (env := env) h.2
    cases t <;> first | (simp [plainT] at h; done) | (show _ :: _ = _; rw [List.map_cons]; congr 1)
theorem assignEach_star {env : Env} : ∀ {ts : List Expr}, ts.all plainT = true → (assignEach ts env).findIdx? (·.1) = none ∧ (assignEach ts env).length = ts.length
  | [], _ => ⟨rfl, rfl⟩
  | t :: ts, h => by
    rw [List.all_cons, Bool.and_eq_true] at h
    have ih := assignEach_star (env := env) h.2
    cases t <;> first | (simp [plainT] at h; done) | (refine ⟨?_, congrArg (· + 1) ih.2⟩; show List.findIdx? _ (_ :: assignEach ts env) = none; rw [List.findIdx?_cons, ih.1]; rfl)
theorem AsnL.run : ∀ {ts : List Expr} {ps : List PV} {σ : AS} {Q : AS → Prop}, AsnL C ts ps σ Q → ∀ pro α s vs, Rel C pro σ α s → VsRel C.mg α ps vs → At C (fun _ (_ : Unit) (_ : Unit) => True) (assignInOrder (ts.map fun t => assign t C.env) vs) pro α s (fun _ => Q)
  | [], [], σ, Q, h, pro, α, s, vs, r, hv => by
    obtain rfl := hv.nil_inv
    exact At.done (g := ()) r h fun _ _ kk => wpAny_pure (kk () _ _ (fun _ _ e => e) trivial)
  | [], _ :: _, _, _, h, _, _, _, _, _, _ => h.elim
  | _ :: _, [], _, _, h, _, _, _, _, _, _ => h.elim
  | t :: ts, p :: ps, σ, Q, h, pro, α, s, vs, r, hv => by
    obtain ⟨v, vs, rfl, h1, h2⟩ := hv.cons_inv
    intro Q' E kk
    refine wpAny_assignInOrder_more (h pro α s v r h1 _ _ fun _ σ1 α1 s1 _ hq p1 r1 _ => ?_)
    exact AsnL.run hq pro α1 s1 vs r1 (VsRel.mono p1 h2) _ _ fun g σ' α' s' b hq p3 r3 v3 => kk g σ' α' s' b hq (p1.trans p3) r3 v3
theorem draw_list {prog : Program} {w : World} {A : Around} {E : Value → Shared → Prop} {it l : Addr} {items : Array Value} (hne : l ≠ it) : ∀ (n i : Nat) (s : Shared) (Q : List Value → Shared → Prop), s.heap.IsListIter it l i → s.heap.IsList l items → i + n ≤ items.size →
    (∀ h', h'.IsListIter it l (i + n) → Heap.SameBut it s.heap h' → Q ((items.toList.drop i).take n) { s with heap := h' }) → wpAny (model prog w) A (draw (.ref it) n) Q E s
  | 0, i, s, Q, hit, _, _, hQ => by
    show wpAny _ _ (pure []) Q E s
    exact wpAny_pure (by simpa using hQ s.heap hit (Heap.SameBut.refl ..))
  | n + 1, i, s, Q, hit, ht, hle, hQ => by
    have hi : i < items.size := by lia
    show wpAny _ _ (do match ← pyNext (.ref it) with | none => pure [] | some v => return v :: (← holding [v] (draw (.ref it) n))) Q E s
    refine wpAny_bind (wpAny_pyNext_list_item hit ht (Array.getElem?_eq_getElem hi) fun h' hit' hs' => ?_)
    refine wpAny_bind (wpAny_holding (draw_list hne n (i + 1) _ _ hit' (ht.extBut hs'.extBut hne) (by lia) fun h'' hit'' hs'' => wpAny_pure ?_))
    have := hQ h'' (by rw [show i + (n + 1) = i + 1 + n from by lia]; exact hit'') (hs'.trans hs'')
    rw [show (items.toList.drop i).take (n + 1) = items[i] :: (items.toList.drop (i + 1)).take n from by rw [List.drop_eq_getElem_cons (by simpa using hi), List.take_succ_cons]; simp] at this
    exact this
theorem unpackItems_list {prog : Program} {w : World} {A : Around} {E : Value → Shared → Prop} {s : Shared} {t : Addr} {items : Array Value} {Q : List Value → Shared → Prop} (hh : A.handled = none) (ht : s.heap.IsList t items)
    (hQ : ∀ h', Heap.ExtBut s.heap.objs.size s.heap h' → Q items.toList { s with heap := h' }) : wpAny (model prog w) A (unpackItems (.ref t) items.size none) Q E s := by
  have hlt : t ≠ s.heap.objs.size := by obtain ⟨o, ho, _⟩ := ht; exact Nat.ne_of_lt (Heap.lt_size ho)
  unfold unpackItems
  refine wpAny_bind ?_
  · unfold notIterableAtAll
    refine wpAny_bind (wpAny_specialOf ht.typeIs slot_list_iter.lookup ?_)
    refine wpAny_pure ?_
    rw [if_neg (by decide)]
    try refine wpAny_pure ?_
    refine wpAny_bind (wpAny_holding (wpAny_pyIter_list ht ?_))
    refine wpAny_bind (wpAny_holding (draw_list hlt items.size 0 _ _ ⟨_, Heap.get?_push_size _ rfl, rfl, rfl⟩ (ht.push _) (by lia) fun h' hit' hs' => ?_))
    have hlist : h'.IsList t items := (ht.push _).extBut hs'.extBut hlt
    rw [List.drop_zero, List.take_of_length_le (by simp)]
    rw [if_neg (by simp)]
    try refine wpAny_bind (wpAny_pure ?_)
    rw [Nat.zero_add] at hit'
    refine wpAny_bind (wpAny_holding (wpAny_pyNext_list_end hh hit' hlist (by simp) fun h'' he => ?_))
    rw [if_neg (by simp)]
    try refine wpAny_bind (wpAny_pure ?_)
    exact wpAny_pure (hQ h'' fun b o hb e => he b o hb (hs'.extBut b o hb (Heap.get?_push_of_some _ e)))
theorem ext_grow {s : Shared} {h' : Heap} (h : Heap.ExtBut s.heap.objs.size s.heap h') : ∀ b o, s.heap.get? b = some o → h'.get? b = some o := fun b o e => h b o (Nat.ne_of_lt (Heap.lt_size e)) e
theorem Asn.tupT {elts : List Expr} {i : Nat} {f : Bool} {ps : List PV} {Q} (hp : elts.all plainT = true) (hi : σ.hp[i]? = some (.tup f ps)) (hn : elts.length = ps.length) (h : AsnL C elts ps σ Q) : Asn C (.Tuple elts k pos) (.ref i) σ Q := by
  rintro pro α s v r ⟨a, ea, rfl⟩ Q' E kk
  obtain ⟨vs, hL, hV⟩ := r.objs i _ a hi ea
  have hle := hV.length
  rw [arm_assign_Tuple]
  refine wpAny_bind (wpAny_standAt ?_)
  refine wpAny_unpack_tuple C.hd hL (by rw [(assignEach_star hp).2]; simp; lia) (assignEach_star hp).1 fun h' he => ?_
  rw [assignEach_plain hp]
  exact AsnL.run h pro α _ _ (r.grow (tk := s.toks) (ext_grow he) (Nat.le_refl _)) hV _ _ kk
theorem Asn.tupL {elts : List Expr} {i : Nat} {f : Bool} {ps : List PV} {Q} (hp : elts.all plainT = true) (hi : σ.hp[i]? = some (.list f ps)) (hn : elts.length = ps.length) (h : AsnL C elts ps σ Q) : Asn C (.Tuple elts k pos) (.ref i) σ Q := by
  rintro pro α s v r ⟨a, ea, rfl⟩ Q' E kk
  obtain ⟨vs, hL, hV, _⟩ := r.objs i _ a hi ea
  have hle := hV.length
  rw [arm_assign_Tuple]
  refine wpAny_bind (wpAny_standAt ?_)
  have e1 : (assignEach elts C.env).length = vs.toArray.size := by rw [(assignEach_star hp).2]; simp; lia
  unfold unpack
  rw [e1, (assignEach_star hp).1]
  refine wpAny_bind (wpAny_holding (unpackItems_list C.hd hL fun h' he => ?_))
  rw [assignEach_plain hp]
  exact AsnL.run h pro α _ _ (r.grow (tk := s.toks) (ext_grow he) (Nat.le_refl _)) hV _ _ kk
/-- statements -/
theorem Xs.nil {Q} (h : Q .next σ) : Xs C [] σ Q := fun _ _ _ r => At.done r h fun _ _ kk => wpAny_execs_nil (kk _ _ _ (fun _ _ e => e) rfl)
noncomputable def kon (C : Cx) (rest : List Stmt) (Q : AF → AS → Prop) (f : AF) (σ : AS) : Prop := match f with
  | .next => Xs C rest σ Q
  | f => Q f σ
theorem Xs.cons {st : Stmt} {rest : List Stmt} {Q} (h : X1 C st σ (kon C rest Q)) : Xs C (st :: rest) σ Q := by
  intro pro α s r Q' E kk
  refine wpAny_execs_cons (h pro α s r _ _ fun f σ1 α1 s1 v h1 p1 r1 v1 => ?_)
  cases f with
  | next => cases v1; exact h1 pro α1 s1 r1 _ _ fun g σ' α' s' b hq p3 r3 v3 => kk g σ' α' s' b hq (p1.trans p3) r3 v3
  | brk => cases v1; exact kk _ _ _ _ _ h1 p1 r1 rfl
  | cont => cases v1; exact kk _ _ _ _ _ h1 p1 r1 rfl
  | ret p => obtain ⟨u, rfl, hu⟩ := v1; exact kk _ _ _ _ _ h1 p1 r1 ⟨u, rfl, hu⟩
/-- one name, or one item, or a tuple of names -/
theorem X1.asg {t value : Expr} {Q} (h : Ev C value σ fun p σ1 => Asn C t p σ1 fun σ2 => Q .next σ2) (hs : swapsWithSole [t] value pos.line C.env = pure false := by rfl) (hw : swappedStores [t] value C.env = pure none := by rfl) (ht : plainT t = true := by rfl) :
    X1 C (.Assign [t] value pos) σ Q := by
  intro pro α s r Q' E kk
  refine wpAny_Assign_stores (h pro α s r _ _ fun p σ1 α1 s1 v h1 p1 r1 v1 => ?_) hs hw
  rw [assignEach_plain (by rw [List.all_cons, ht]; rfl)]
  exact h1 pro α1 s1 v r1 v1 _ _ fun g σ' α' s' b hq p3 r3 v3 => kk _ _ _ _ _ hq (p1.trans p3) r3 rfl
theorem X1.asg2 {t u value : Expr} {Q} (h : Ev C value σ fun p σ1 => Asn C t p σ1 fun σ2 => Asn C u p σ2 fun σ3 => Q .next σ3) (he : (assignEach [t, u] C.env).map (·.2) = [assign t C.env, assign u C.env] := by rfl) (hw : swappedStores [t, u] value C.env = pure none := by rfl) :
    X1 C (.Assign [t, u] value pos) σ Q := by
  intro pro α s r Q' E kk
  refine wpAny_Assign_two (h pro α s r _ _ fun p σ1 α1 s1 v h1 p1 r1 v1 => ?_) he hw
  refine h1 pro α1 s1 v r1 v1 _ _ fun _ σ2 α2 s2 _ h2 p2 r2 _ => ?_
  exact h2 pro α2 s2 v r2 (v1.mono p2) _ _ fun g σ' α' s' b hq p3 r3 v3 => kk _ _ _ _ _ hq ((p1.trans p2).trans p3) r3 rfl
noncomputable def StoL (C : Cx) : List Str → List PV → AS → (AS → Prop) → Prop
  | x :: xs, p :: ps, σ, Q => Sto C x p σ fun σ1 => StoL C xs ps σ1 Q
  | [], [], σ, Q => Q σ
  | _, _, _, _ => False
theorem StoL.run : ∀ {xs : List Str} {ps : List PV} {σ : AS} {Q : AS → Prop}, StoL C xs ps σ Q → ∀ pro α s vs, Rel C pro σ α s → VsRel C.mg α ps vs → At C (fun _ (_ : Unit) (_ : Unit) => True) (assignInOrder (xs.map fun n => bindName C.env n) vs) pro α s (fun _ => Q)
  | [], [], σ, Q, h, pro, α, s, vs, r, hv => by
    obtain rfl := hv.nil_inv
    exact At.done (g := ()) r h fun _ _ kk => wpAny_pure (kk () _ _ (fun _ _ e => e) trivial)
  | [], _ :: _, _, _, h, _, _, _, _, _, _ => h.elim
  | _ :: _, [], _, _, h, _, _, _, _, _, _ => h.elim
  | t :: ts, p :: ps, σ, Q, h, pro, α, s, vs, r, hv => by
    obtain ⟨v, vs, rfl, h1, h2⟩ := hv.cons_inv
    intro Q' E kk
    refine wpAny_assignInOrder_more (wpAny_bindName (h pro α s v r h1 _ _ fun _ σ1 α1 s1 _ hq p1 r1 _ => ?_))
    exact StoL.run hq pro α1 s1 vs r1 (VsRel.mono p1 h2) _ _ fun g σ' α' s' b hq p3 r3 v3 => kk g σ' α' s' b hq (p1.trans p3) r3 v3
theorem All2.reverse {A B : Type} {R : A → B → Prop} {as : List A} {bs : List B} (h : All2 R as bs) : All2 R as.reverse bs.reverse := by
  induction h with
  | nil => exact .nil
  | cons x _ ih => rw [List.reverse_cons, List.reverse_cons]; exact ih.append (.cons x .nil)
/-- a, b = b, a: two or three names of a frame's, the last one first -/
theorem X1.swap {t value : Expr} {xs : List Str} {Q} (h : Ev C value σ fun p σ1 => ∃ i f ps, p = .ref i ∧ σ1.hp[i]? = some (.tup f ps) ∧ ps.length = xs.length ∧ StoL C xs.reverse ps.reverse σ1 fun σ2 => Q .next σ2)
    (hs : swapsWithSole [t] value pos.line C.env = pure false := by rfl) (hw : swappedStores [t] value C.env = pure (some xs)) : X1 C (.Assign [t] value pos) σ Q := by
  intro pro α s r Q' E kk
  rw [arm_exec_Assign, hs]
  refine wpAny_bind (wpAny_standAt (wpAny_bind (wpAny_pure ?_)))
  rw [if_neg (by decide)]
  refine wpAny_bind (h pro α s r _ _ fun p σ1 α1 s1 v h1 p1 r1 v1 => ?_)
  obtain ⟨i, f, ps, rfl, hi, hn, h1⟩ := h1
  obtain ⟨a, ea, rfl⟩ := v1
  obtain ⟨vs, hL, hV⟩ := r1.objs i _ a hi ea
  have hle := hV.length
  rw [hw]
  refine wpAny_bind (wpAny_pure ?_)
  show wpAny _ _ (do rule "assign.swapped-stores"; let items ← unpackItems (.ref a) xs.length none; assignInOrder (xs.reverse.map fun n => bindName C.env n) items.reverse; pure Flow.next) _ _ _
  refine wpAny_bind (wpAny_rule ?_)
  have e1 : xs.length = vs.toArray.size := by simp; lia
  rw [e1]
  refine wpAny_bind (wpAny_unpackItems_tuple C.hd hL fun h' he => ?_)
  refine wpAny_bind (StoL.run h1 pro α1 _ _ (r1.grow (tk := s1.toks) (ext_grow he) (Nat.le_refl _)) (by simpa using hV.reverse) _ _ fun g σ' α' s' b hq p3 r3 v3 => wpAny_pure (kk _ _ _ _ _ hq (p1.trans p3) r3 rfl))
theorem X1.aug {x : Str} {np : Pos} {op : Operator} {value : Expr} {a : PV} {sc : Scope} {Q} (hs : C.env.scope = sc) (hk : sc.names.lookup x = some .local) (hv : σ.loc x = some a)
    (h : Ev C value σ fun b σ2 => Ibin C op a b σ2 fun c σ3 => Sto C x c σ3 fun σ4 => Q .next σ4) : X1 C (.AugAssign (.Name x np) op value pos) σ Q := by
  intro pro α s r Q' E kk
  obtain ⟨m, hn, hm⟩ := r.ns
  obtain ⟨v, e, v1⟩ := hm x a hv
  refine wpAny_AugAssign_Name (wpAny_loadName_local C.kind (by unfold Env.kindOf; rw [hs]; exact hk) hn e ?_)
  refine h pro α s r _ _ fun b σ2 α2 s2 u h2 p2 r2 v2 => ?_
  refine h2 pro α2 s2 v u r2 (v1.mono p2) v2 _ _ fun c σ3 α3 s3 w h3 p3 r3 v3 => ?_
  exact h3 pro α3 s3 w r3 v3 _ _ fun g σ' α' s' b hq p4 r4 v4 => kk _ _ _ _ _ hq ((p2.trans p3).trans p4) r4 rfl
theorem X1.ret {e : Expr} {Q} (h : Ev C e σ fun p σ1 => Q (.ret p) σ1) : X1 C (.Return (some e) pos) σ Q := by
  intro pro α s r Q' E kk
  exact wpAny_Return_some (h pro α s r _ _ fun p σ1 α1 s1 v h1 p1 r1 v1 => kk _ _ _ _ _ h1 p1 r1 ⟨v, rfl, v1⟩)
theorem X1.brk {Q} (h : Q .brk σ) : X1 C (.Break pos) σ Q := fun _ _ _ r => At.done r h fun _ _ kk => wpAny_Break (kk _ _ _ (fun _ _ e => e) rfl)
theorem X1.iff {t : Expr} {a b : List Stmt} {Q} (h : Tr C t σ fun c σ1 => (c = true → Xs C a σ1 Q) ∧ (c = false → Xs C b σ1 Q)) : X1 C (.If t a b pos) σ Q := by
  intro pro α s r Q' E kk
  refine wpAny_If (h pro α s r _ _ fun c σ1 α1 s1 v h1 p1 r1 v1 => ?_)
  subst v1
  cases v with
  | true => exact h1.1 rfl pro α1 s1 r1 _ _ fun g σ' α' s' b hq p3 r3 v3 => kk g σ' α' s' b hq (p1.trans p3) r3 v3
  | false => exact h1.2 rfl pro α1 s1 r1 _ _ fun g σ' α' s' b hq p3 r3 v3 => kk g σ' α' s' b hq (p1.trans p3) r3 v3
theorem X1.asrt {t : Expr} {m : Option Expr} {Q} (h : Tr C t σ fun c σ1 => c = true ∧ Q .next σ1) : X1 C (.Assert t m pos) σ Q := by
  intro pro α s r Q' E kk
  rw [arm_exec_Assert]
  refine wpAny_bind (wpAny_standAt (wpAny_bind (h pro α s r _ _ fun c σ1 α1 s1 v h1 p1 r1 v1 => ?_)))
  obtain ⟨rfl, hq⟩ := h1
  cases v1
  exact wpAny_pure (kk _ _ _ _ _ hq p1 r1 rfl)
theorem X1.expr {e : Expr} {Q} (h : Ev C e σ fun p σ1 => p = .none ∧ Q .next σ1) (hi : interactive C.env = false := by rfl) (hs : swapsWith e none pos.line C.env = pure false := by rfl) : X1 C (.Expr e pos) σ Q := by
  intro pro α s r Q' E kk
  refine wpAny_Expr (h pro α s r _ _ fun p σ1 α1 s1 v h1 p1 r1 v1 => ?_) hi hs
  obtain ⟨rfl, hq⟩ := h1
  cases v1
  exact kk _ _ _ _ _ hq p1 r1 rfl
end
end Mine
set_option maxHeartbeats 4000000
namespace Mine
section
variable {C : Cx} {pro : Pro} {σ : AS} {α : List Addr} {s : Shared}
/-- what was hidden is let go -/
theorem Rel.drop {a : Addr} {o : Obj} (r : Rel C (hid pro a o) σ α s) (hB : C.bpro a = none) (hp : pro a = none) {h' : Heap} {tk : Tok} (hs : Heap.ExtBut a s.heap h') (htk : s.toks ≤ tk) : Rel C pro σ α { s with heap := h', toks := tk } := by
  have hF : C.fzo a = none := r.pf a o hid_self
  have nα : ∀ b ∈ α, b ≠ a := fun b hb => (hid_key (o' := o) (r.free b hb)).1
  have key : ∀ b, hid pro a o b = none → b ≠ a ∧ pro b = none := fun b e => by
    have := (hid_key (o' := o) e).1
    rw [hid_ne this] at e; exact ⟨this, e⟩
  have up : ∀ b ob, pro b = some ob → b ≠ a ∧ hid pro a o b = some ob := fun b ob e => by
    have := ne_of_none hp e
    exact ⟨this, by rw [hid_ne this]; exact e⟩
  refine ⟨Nat.lt_of_lt_of_le r.tk htk, fun b ob e => ?_, by rw [r.sh], fun b ob e => hs b ob (up b ob e).1 (r.keep b ob (up b ob e).2), r.stat, r.len, r.nodup, fun b hb => ?_, fun b ob e => hs b ob (ne_of_none hF e) (r.keepF b ob e), fun b ob e => r.pf b ob (up b ob e).2, fun b hb => (key b (r.free b hb)).2, r.freeF, r.nL, ⟨(key _ r.pL.1).2, r.pL.2⟩, ?_, fun i ob b e1 e2 => ?_, fun x c e => ?_, r.cinj, ?_⟩
  · have h := ne_of_none hB e
    have := r.sub b ob e
    rw [hid_ne h] at this; exact this
  · obtain ⟨ob, e⟩ := r.live b hb; exact ⟨ob, hs b ob (nα b hb) e⟩
  · obtain ⟨m, hns, hm⟩ := r.ns
    exact ⟨m, hns.extBut hs (key _ r.pL.1).1, hm⟩
  · exact (r.objs i ob b e1 e2).mono (List.prefix_refl _) fun o e => hs b o (nα b (List.mem_of_getElem? e2)) e
  · obtain ⟨a1, a2, a3, a4, v, ⟨ob, hv, hd⟩, q⟩ := r.cel x c e
    exact ⟨a1, a2, a3, ⟨(key c a4.1).2, a4.2⟩, v, ⟨ob, hs c ob (key c a4.1).1 hv, hd⟩, q⟩
  · obtain ⟨a1, a2, a3, ps, e, t⟩ := r.tab
    exact ⟨a1, a2, ⟨(key _ a3.1).2, a3.2⟩, ps, hs _ _ (key _ a3.1).1 e, t⟩
end
/-- an iterator that stands: over a list, a tuple, a range -/
inductive It where
  | list (i j : Nat)
  | tup (i j : Nat)
  | rng (x left step : Int)
noncomputable def ItAt (α : List Addr) (o : Obj) : It → Prop
  | .list i j => ∃ a, α[i]? = some a ∧ o.cls = .type "list_iterator" ∧ o.data = .fields #[.ref a, .int j 0]
  | .tup i j => ∃ a, α[i]? = some a ∧ o.cls = .type "tuple_iterator" ∧ o.data = .fields #[.ref a, .int j 0]
  | .rng x l st => o = { cls := .type "range_iterator", data := .fields #[rawInt x, rawInt l, rawInt st] }
theorem ItAt.mono {α α' : List Addr} (h : α <+: α') {o : Obj} : ∀ {it : It}, ItAt α o it → ItAt α' o it
  | .list _ _, ⟨a, e, r⟩ => ⟨a, pre_get h e, r⟩
  | .tup _ _, ⟨a, e, r⟩ => ⟨a, pre_get h e, r⟩
  | .rng _ _ _, x => x
noncomputable def It.nx (σ : AS) : It → PV → It → Prop
  | .list i j, p, it => it = .list i (j + 1) ∧ ∃ f xs, σ.hp[i]? = some (.list f xs) ∧ xs[j]? = some p
  | .tup i j, p, it => it = .tup i (j + 1) ∧ ∃ f xs, σ.hp[i]? = some (.tup f xs) ∧ xs[j]? = some p
  | .rng x l st, p, it => it = .rng (x + st) (l - 1) st ∧ 0 < l ∧ p = .int x
noncomputable def It.fin (σ : AS) : It → Prop
  | .list i j => ∃ f xs, σ.hp[i]? = some (.list f xs) ∧ xs.length ≤ j
  | .tup i j => ∃ f xs, σ.hp[i]? = some (.tup f xs) ∧ xs.length ≤ j
  | .rng _ l _ => l ≤ 0
/-- what a for walks over -/
noncomputable def It.of (σ : AS) : PV → It → Prop
  | .ref i, it => (∃ f xs, σ.hp[i]? = some (.list f xs) ∧ it = .list i 0) ∨ (∃ f xs, σ.hp[i]? = some (.tup f xs) ∧ it = .tup i 0) ∨
      (∃ a b c, σ.hp[i]? = some (.rng a b c) ∧ Builtin.Range.small a b c = true ∧ it = .rng a (Builtin.Range.rangeSize a b c) c)
  | _, _ => False
section
variable {C : Cx} {σ : AS} {pos : Pos} {k : Nat}
theorem iter_next {pro : Pro} {α : List Addr} {s : Shared} {I : Addr} {o : Obj} {it it' : It} {p : PV} {Q : Option Value → Shared → Prop} {E : Value → Shared → Prop} (hB : C.bpro I = none) (r : Rel C (hid pro I o) σ α s) (hi : ItAt α o it) (hn : It.nx σ it p it')
    (h : ∀ v o' h' tk, VRel C.mg α p v → ItAt α o' it' → Rel C (hid pro I o') σ α { s with heap := h', toks := tk } → Q (some v) { s with heap := h', toks := tk }) : wpAny (model C.prog C.w) C.A (pyNext (.ref I)) Q E s := by
  have hI := r.keep I o hid_self
  cases it with
  | list i j =>
    obtain ⟨rfl, f, xs, hl, hx⟩ := hn
    obtain ⟨a, ea, hc, hd⟩ := hi
    obtain ⟨vs, hL, hV, _⟩ := r.objs i _ a hl ea
    obtain ⟨v, hv, hR⟩ := hV.get hx
    refine wpAny_pyNext_list_item ⟨o, hI, hc, hd⟩ hL (by simpa using hv) fun h' hit hs => ?_
    obtain ⟨o', e1, e2, e3⟩ := hit
    exact h v o' h' s.toks hR ⟨a, ea, e2, e3⟩ (r.rehide hB hs.extBut e1 (Nat.le_refl _))
  | tup i j =>
    obtain ⟨rfl, f, xs, hl, hx⟩ := hn
    obtain ⟨a, ea, hc, hd⟩ := hi
    obtain ⟨vs, hL, hV⟩ := r.objs i _ a hl ea
    obtain ⟨v, hv, hR⟩ := hV.get hx
    refine wpAny_pyNext_tuple_item ⟨o, hI, hc, hd⟩ hL (by simpa using hv) fun h' hit hs => ?_
    obtain ⟨o', e1, e2, e3⟩ := hit
    exact h v o' h' s.toks hR ⟨a, ea, e2, e3⟩ (r.rehide hB hs.extBut e1 (Nat.le_refl _))
  | rng x l st =>
    obtain ⟨rfl, hl, rfl⟩ := hn
    subst hi
    exact wpAny_pyNext_range_item hI hl fun h' hit hs => h _ _ h' _ ⟨_, rfl⟩ rfl (r.rehide hB hs.extBut hit (Nat.le_succ _))
theorem iter_end {pro : Pro} {α : List Addr} {s : Shared} {I : Addr} {o : Obj} {it : It} {Q : Option Value → Shared → Prop} {E : Value → Shared → Prop} (hB : C.bpro I = none) (hp : pro I = none) (r : Rel C (hid pro I o) σ α s) (hi : ItAt α o it) (hn : It.fin σ it)
    (h : ∀ h' tk, Rel C pro σ α { s with heap := h', toks := tk } → Q none { s with heap := h', toks := tk }) : wpAny (model C.prog C.w) C.A (pyNext (.ref I)) Q E s := by
  have hI := r.keep I o hid_self
  cases it with
  | list i j =>
    obtain ⟨f, xs, hl, hx⟩ := hn
    obtain ⟨a, ea, hc, hd⟩ := hi
    obtain ⟨vs, hL, hV, _⟩ := r.objs i _ a hl ea
    have hle := hV.length
    refine wpAny_pyNext_list_end C.hd ⟨o, hI, hc, hd⟩ hL (by simp; lia) fun h' hs => h h' s.toks (r.drop hB hp hs (Nat.le_refl _))
  | tup i j =>
    obtain ⟨f, xs, hl, hx⟩ := hn
    obtain ⟨a, ea, hc, hd⟩ := hi
    obtain ⟨vs, hL, hV⟩ := r.objs i _ a hl ea
    have hle := hV.length
    refine wpAny_pyNext_tuple_end C.hd ⟨o, hI, hc, hd⟩ hL (by simp; lia) fun h' hs => h h' s.toks (r.drop hB hp hs (Nat.le_refl _))
  | rng x l st =>
    subst hi
    exact wpAny_pyNext_range_end C.hd hI hn fun h' hs => h h' s.toks (r.drop hB hp hs (Nat.le_refl _))
theorem iter_make {pro : Pro} {α : List Addr} {s : Shared} {p : PV} {v : Value} {it : It} {Q : Value → Shared → Prop} {E : Value → Shared → Prop} (r : Rel C pro σ α s) (hv : VRel C.mg α p v) (hi : It.of σ p it)
    (h : ∀ I o h' tk, C.bpro I = none → pro I = none → ItAt α o it → Rel C (hid pro I o) σ α { s with heap := h', toks := tk } → Q (.ref I) { s with heap := h', toks := tk }) : wpAny (model C.prog C.w) C.A (pyIter v) Q E s := by
  cases p <;> first | exact hi.elim | skip
  rename_i i
  obtain ⟨a, ea, rfl⟩ := hv
  rcases hi with ⟨f, xs, hl, rfl⟩ | ⟨f, xs, hl, rfl⟩ | ⟨x, y, z, hl, hs, rfl⟩
  · obtain ⟨vs, hL, hV, _⟩ := r.objs i _ a hl ea
    exact wpAny_pyIter_list hL (h _ _ _ s.toks (r.new_noneB get_size_none) (r.new_none get_size_none) ⟨a, ea, rfl, rfl⟩ (r.hide push_keep get_size_none (Heap.get?_push_size _ rfl) (Nat.le_refl _)))
  · obtain ⟨vs, hL, hV⟩ := r.objs i _ a hl ea
    exact wpAny_pyIter_tuple hL (h _ _ _ s.toks (r.new_noneB get_size_none) (r.new_none get_size_none) ⟨a, ea, rfl, rfl⟩ (r.hide push_keep get_size_none (Heap.get?_push_size _ rfl) (Nat.le_refl _)))
  · obtain ⟨t, u, w, hR⟩ := r.objs i _ a hl ea
    exact wpAny_pyIter_range hR hs (h _ _ _ s.toks (r.new_noneB get_size_none) (r.new_none get_size_none) rfl (r.hide push_keep get_size_none (Heap.get?_push_size _ rfl) (Nat.le_refl _)))
theorem iter_self {pro : Pro} {α : List Addr} {s : Shared} {I : Addr} {o : Obj} {it : It} {Q : Value → Shared → Prop} {E : Value → Shared → Prop} (r : Rel C (hid pro I o) σ α s) (hi : ItAt α o it) (h : Q (.ref I) s) : wpAny (model C.prog C.w) C.A (pyIter (.ref I)) Q E s := by
  have hI := r.keep I o hid_self
  cases it with
  | list i j => obtain ⟨a, ea, hc, hd⟩ := hi; exact wpAny_pyIter_listiter ⟨o, hI, hc, hd⟩ h
  | tup i j => obtain ⟨a, ea, hc, hd⟩ := hi; exact wpAny_pyIter_tupleiter ⟨o, hI, hc, hd⟩ h
  | rng x l st => subst hi; exact wpAny_pyIter_rangeiter hI h
/-- loops, one turn at a time -/
noncomputable def loopEnd (again : AS → Prop) (Q : AF → AS → Prop) : AF → AS → Prop
  | .next, σ => again σ
  | .cont, σ => again σ
  | .brk, σ => Q .next σ
  | .ret p, σ => Q (.ret p) σ
noncomputable def Wh (C : Cx) (test : Expr) (body orelse : List Stmt) (σ : AS) (Q : AF → AS → Prop) : Prop := ∀ pro α s, Rel C pro σ α s → ∀ R : Result → Shared → Prop, (∀ f σ' α' s' fl, Q f σ' → α <+: α' → Rel C pro σ' α' s' → FRel C.mg α' f fl → R (.ok fl) s') → codeAny (model C.prog C.w) C.A (.whileLoop test body orelse C.env) R s
theorem X1.while {test : Expr} {body orelse : List Stmt} {Q} (h : Wh C test body orelse σ Q) : X1 C (.While test body orelse pos) σ Q := by
  intro pro α s r Q' E kk
  exact wpAny_While (h pro α s r _ fun f σ' α' s' fl hq p1 r1 hf => kk _ _ _ _ _ hq p1 r1 hf)
theorem Wh.step {test : Expr} {body orelse : List Stmt} {Q} (h : Tr C test σ fun c σ1 => (c = true → Xs C body σ1 (loopEnd (fun σ2 => Wh C test body orelse σ2 Q) Q)) ∧ (c = false → Xs C orelse σ1 Q)) : Wh C test body orelse σ Q := by
  intro pro α s r R kk
  refine codeAny_of_tree ?_
  show wpAny _ C.A ((whileTurn test body orelse C.env).onRaise (fun x => do noteFrame x C.env; theTreesLotGoes x)) _ _ s
  refine wpAny_noted ?_
  simp only [whileTurn]
  refine wpAny_bind (h pro α s r _ _ fun c σ1 α1 s1 v h1 p1 r1 v1 => ?_)
  subst v1
  cases v with
  | false =>
    simp only [Bool.false_eq_true, if_false]
    exact wpAny_bind (h1.2 rfl pro α1 s1 r1 _ _ fun f σ2 α2 s2 fl h2 p2 r2 v2 => wpAny_pure (kk _ _ _ _ _ h2 (p1.trans p2) r2 v2))
  | true =>
    simp only [if_true]
    refine wpAny_bind (h1.1 rfl pro α1 s1 r1 _ _ fun f σ2 α2 s2 fl h2 p2 r2 v2 => ?_)
    cases f with
    | next => cases v2; exact wpAny_pure ⟨rfl, h2 pro α2 s2 r2 R fun f σ' α' s' fl hq p3 r3 hf => kk _ _ _ _ _ hq ((p1.trans p2).trans p3) r3 hf⟩
    | cont => cases v2; exact wpAny_pure ⟨rfl, h2 pro α2 s2 r2 R fun f σ' α' s' fl hq p3 r3 hf => kk _ _ _ _ _ hq ((p1.trans p2).trans p3) r3 hf⟩
    | brk => cases v2; exact wpAny_pure (kk .next _ _ _ _ h2 (p1.trans p2) r2 rfl)
    | ret p => obtain ⟨u, rfl, hu⟩ := v2; exact wpAny_pure (kk (.ret p) _ _ _ _ h2 (p1.trans p2) r2 ⟨u, rfl, hu⟩)
noncomputable def Fo (C : Cx) (target : Expr) (it : It) (body orelse : List Stmt) (σ : AS) (Q : AF → AS → Prop) : Prop := ∀ pro α s I o, C.bpro I = none → pro I = none → ItAt α o it → Rel C (hid pro I o) σ α s → ∀ R : Result → Shared → Prop,
  (∀ f σ' α' s' fl, Q f σ' → α <+: α' → Rel C pro σ' α' s' → FRel C.mg α' f fl → R (.ok fl) s') → codeAny (model C.prog C.w) C.A (.forLoop target (.ref I) body orelse C.env) R s
theorem X1.for {target iter : Expr} {body orelse : List Stmt} {Q} (h : Ev C iter σ fun p σ1 => ∃ it, It.of σ1 p it ∧ Fo C target it body orelse σ1 Q) (hs : ∀ x, foldedSetIterable iter C.env x = pure x := by intro _; rfl) : X1 C (.For target iter body orelse pos) σ Q := by
  intro pro α s r Q' E kk
  refine wpAny_For (h pro α s r _ _ fun p σ1 α1 s1 v h1 p1 r1 v1 => ?_) hs
  obtain ⟨it, hi, hF⟩ := h1
  refine iter_make r1 v1 hi fun I o h' tk hB hp hI r2 => ?_
  exact hF pro α1 _ I o hB hp hI r2 _ fun f σ' α' s' fl hq p2 r3 hf => kk _ _ _ _ _ hq (p1.trans p2) r3 hf
theorem letOwned_iter {target : Expr} {pro : Pro} {α : List Addr} {s : Shared} {I : Addr} {o : Obj} {it : It} {v : Value} {Q : Unit → Shared → Prop} {E : Value → Shared → Prop} (r : Rel C (hid pro I o) σ α s) (hi : ItAt α o it) (h : Q () s) : wpAny (model C.prog C.w) C.A (letOwnedTupleGo target (.ref I) v) Q E s := by
  have hI := r.keep I o hid_self
  unfold letOwnedTupleGo
  have key : ∀ a, wpAny (model C.prog C.w) C.A (do
      let ob ← load I
      match ob.cls, ob.data with
      | .type n, .fields vs =>
        if ["enumerate", "zip", "dict_itemiterator", "dict_reverseitemiterator", "odict_iterator", "itertools.zip_longest", "itertools.pairwise"].contains n && vs[0]? == some (rawInt a) then
          rule "for.unpacks-the-owned-tuple"
          updateField I 0 .none
      | _, _ => pure ()) Q E s := fun a => by
    refine wpAny_bind (wpAny_load hI ?_)
    obtain ⟨cls, dd, data, sl⟩ := o
    cases it with
    | list i j => obtain ⟨b, _, hc, hd⟩ := hi; simp only at hc hd; subst hc hd; exact wpAny_pure h
    | tup i j => obtain ⟨b, _, hc, hd⟩ := hi; simp only at hc hd; subst hc hd; exact wpAny_pure h
    | rng x l st => cases hi; exact wpAny_pure h
  split
  · cases v <;> first | exact wpAny_pure h | exact key _
  · cases v <;> first | exact wpAny_pure h | exact key _
  · exact wpAny_pure h
theorem Fo.step {target : Expr} {it it' : It} {p : PV} {body orelse : List Stmt} {Q} (hn : It.nx σ it p it') (h : Asn C target p σ fun σ1 => Xs C body σ1 (loopEnd (fun σ2 => Fo C target it' body orelse σ2 Q) Q)) : Fo C target it body orelse σ Q := by
  intro pro α s I o hB hp hi r R kk
  refine codeAny_of_tree ?_
  show wpAny _ C.A ((forTurn target (.ref I) body orelse C.env).onRaise (fun x => do noteFrame x C.env; theTreesLotGoes x)) _ _ s
  refine wpAny_noted ?_
  simp only [forTurn]
  refine wpAny_bind (wpAny_standAt (wpAny_bind (wpAny_onRaise (iter_next hB r hi hn fun v o' h' tk hv hi' r' => ?_))))
  refine wpAny_bind (letOwned_iter r' hi' ?_)
  refine wpAny_bind (h _ α _ v r' hv _ _ fun _ σ1 α1 s1 _ h1 p1 r1 _ => ?_)
  refine wpAny_bind (h1 _ α1 s1 r1 _ _ fun f σ2 α2 s2 fl h2 p2 r2 v2 => ?_)
  have un := r2.unhide (fun b ob e => by have := r2.sub b ob e; rw [hid_ne (ne_of_none hB e)] at this; exact this) hp
  cases f with
  | next => cases v2; exact wpAny_pure ⟨rfl, h2 pro α2 s2 I o' hB hp (hi'.mono (p1.trans p2)) r2 R fun f σ' α' s' fl hq p3 r3 hf => kk _ _ _ _ _ hq ((p1.trans p2).trans p3) r3 hf⟩
  | cont => cases v2; exact wpAny_pure ⟨rfl, h2 pro α2 s2 I o' hB hp (hi'.mono (p1.trans p2)) r2 R fun f σ' α' s' fl hq p3 r3 hf => kk _ _ _ _ _ hq ((p1.trans p2).trans p3) r3 hf⟩
  | brk => cases v2; exact wpAny_pure (kk .next _ _ _ _ h2 (p1.trans p2) un rfl)
  | ret p => obtain ⟨u, rfl, hu⟩ := v2; exact wpAny_pure (kk (.ret p) _ _ _ _ h2 (p1.trans p2) un ⟨u, rfl, hu⟩)
theorem Fo.fin {target : Expr} {it : It} {body orelse : List Stmt} {Q} (hn : It.fin σ it) (h : Xs C orelse σ Q) : Fo C target it body orelse σ Q := by
  intro pro α s I o hB hp hi r R kk
  refine codeAny_of_tree ?_
  show wpAny _ C.A ((forTurn target (.ref I) body orelse C.env).onRaise (fun x => do noteFrame x C.env; theTreesLotGoes x)) _ _ s
  refine wpAny_noted ?_
  simp only [forTurn]
  refine wpAny_bind (wpAny_standAt (wpAny_bind (wpAny_onRaise (iter_end hB hp r hi hn fun h' tk r' => ?_))))
  exact wpAny_pure ⟨rfl, codeAny_block (h pro α _ r' _ _ fun f σ' α' s' fl hq p3 r3 hf => kk _ _ _ _ _ hq p3 r3 hf)⟩
end
end Mine
set_option maxHeartbeats 4000000
namespace Mine
section
variable {C C' : Cx} {pro pro' : Pro} {σ σ2 : AS} {α α2 : List Addr} {s s2 : Shared}
/-- all that stands, but what may turn, is kept -/
noncomputable def calleePro (C : Cx) (α : List Addr) (s : Shared) (cs : List Addr) : Pro := fun b => if b ∈ α ∨ b = C.tp ∨ (C.fzo b).isSome ∨ b ∈ cs then none else s.heap.get? b
theorem callee_some {cs : List Addr} {b : Addr} {o : Obj} (h1 : s.heap.get? b = some o) (h2 : b ∉ α) (h3 : b ≠ C.tp) (h4 : C.fzo b = none) (h5 : b ∉ cs) : calleePro C α s cs b = some o := by
  unfold calleePro
  rw [if_neg]
  · exact h1
  · rintro (h | h | h | h)
    · exact h2 h
    · exact h3 h
    · rw [h4] at h; cases h
    · exact h5 h
theorem callee_inv {cs : List Addr} {b : Addr} {o : Obj} (h : calleePro C α s cs b = some o) : s.heap.get? b = some o ∧ b ∉ α ∧ b ≠ C.tp ∧ C.fzo b = none ∧ b ∉ cs := by
  unfold calleePro at h
  split at h
  · cases h
  · rename_i hn
    refine ⟨h, fun q => hn (.inl q), fun q => hn (.inr (.inl q)), ?_, fun q => hn (.inr (.inr (.inr q)))⟩
    cases q : C.fzo b with
    | none => rfl
    | some o => exact absurd (.inr (.inr (.inl (by rw [q]; rfl)))) hn
theorem Rel.back (r : Rel C pro σ α s) (r2 : Rel C' (calleePro C α s (C'.env.cells.map (·.2))) σ2 α2 s2) (hS : C'.toSx = C.toSx) (hpre : α <+: α2)
    (hc : ∀ x c, (x, c) ∈ C'.env.cells → C'.env.cells.lookup x = some c ∧ (s.heap.get? c = none ∨ (C.env.cells.lookup x = some c ∧ ∀ pv, σ.cel x = some pv → σ2.cel x = some pv)))
    {hp' : List AO} {α' : List Addr} (h1 : α <+: α') (len : α'.length = hp'.length) (nd : α'.Nodup) (mem : ∀ a ∈ α', a ∈ α2)
    (ob : ∀ (i : Nat) (o : AO) (a : Addr), hp'[i]? = some o → α'[i]? = some a → OAt C.mg α' s2.heap a o) (frF : ∀ (i : Nat) (a : Addr) (o : AO), α'[i]? = some a → hp'[i]? = some o → o.fz = false → C.fzo a = none)
    (hα : ∀ p v, VRel C.mg α2 p v → (∃ u, VRel C.mg α p u) → VRel C.mg α' p v) : Rel C pro { σ with hp := hp' } α' s2 := by
  obtain ⟨S', A', env', k1, k2, k3, k4, lv', rm'⟩ := C'
  obtain ⟨S, A, env, l1, l2, l3, l4, lv, rm⟩ := C
  dsimp only at hS
  subst hS
  have up : ∀ b o, pro b = some o → (∀ x, (x, b) ∉ env'.cells) → calleePro ⟨S', A, env, l1, l2, l3, l4, lv, rm⟩ α s (env'.cells.map (·.2)) b = some o := fun b o e hn => by
    refine callee_some (r.keep b o e) (fun q => ?_) (fun q => ?_) (r.pf b o e) (fun q => ?_)
    · have := r.free b q; rw [this] at e; cases e
    · have := r.tab.2.2.1.1; rw [← q, e] at this; cases this
    · obtain ⟨⟨x, c⟩, hm, rfl⟩ := List.mem_map.mp q; exact hn x hm
  have notcell : ∀ b o, pro b = some o → ∀ x, (x, b) ∉ env'.cells := fun b o e x hm => by
    rcases (hc x b hm).2 with q | q
    · have := r.keep b o e; rw [q] at this; cases this
    · have := (r.cel x b q.1).2.2.2.1.1; rw [this] at e; cases e
  have keepP : ∀ b o, pro b = some o → s2.heap.get? b = some o := fun b o e => r2.keep b o (up b o e (notcell b o e))
  obtain ⟨m, ⟨oL, es, ep, hL, hLr⟩, hm⟩ := r.ns
  have Lcell : ∀ x, (x, env.locals) ∉ env'.cells := fun x hm' => by
    rcases (hc x _ hm').2 with q | q
    · rw [hL] at q; cases q
    · exact (r.cel x _ q.1).2.1 rfl
  have LP : calleePro ⟨S', A, env, l1, l2, l3, l4, lv, rm⟩ α s (env'.cells.map (·.2)) env.locals = some oL := by
    refine callee_some hL r.nL (Ne.symm r.tab.2.1) r.pL.2 (fun q => ?_)
    obtain ⟨⟨x, c⟩, hm', e⟩ := List.mem_map.mp q; exact Lcell x (e ▸ hm')
  refine ⟨r2.tk, r.sub, r2.sh, keepP, r.stat.trans h1, len, nd, fun a ha => r2.live a (mem a ha), r2.keepF, r.pf, fun b hb => ?_, frF, fun q => ?_, r.pL, ?_, ob, fun x c e => ?_, r.cinj, ?_⟩
  · cases q : pro b with
    | none => rfl
    | some o =>
      have h2 := up b o q (notcell b o q)
      rw [r2.free b (mem b hb)] at h2; cases h2
  · have := r2.free _ (mem _ q)
    rw [LP] at this; cases this
  · refine ⟨m, ⟨oL, es, ep, r2.keep _ _ LP, hLr⟩, fun x pv e => ?_⟩
    obtain ⟨v, e1, e2⟩ := hm x pv e
    exact ⟨v, e1, e2.mono h1⟩
  · obtain ⟨a1, a2, a3, a4, v, ⟨o, ho, hd⟩, q⟩ := r.cel x c e
    by_cases hin : ∃ y, (y, c) ∈ env'.cells
    · obtain ⟨y, hy⟩ := hin
      obtain ⟨hy1, hy2⟩ := hc y c hy
      rcases hy2 with z | ⟨z1, z2⟩
      · rw [ho] at z; cases z
      · have hxy := r.cinj _ _ _ e z1
        subst hxy
        obtain ⟨b1, b2, b3, b4, u, hu, qu⟩ := r2.cel x c hy1
        refine ⟨fun q => b1 (mem _ q), a2, a3, a4, u, hu, fun pv hpv => ?_⟩
        obtain ⟨w, rfl, hw⟩ := qu pv (z2 pv hpv)
        obtain ⟨w', _, hw'⟩ := q pv hpv
        exact ⟨w, rfl, hα _ _ hw ⟨w', hw'⟩⟩
    · have hP : calleePro ⟨S', A, env, l1, l2, l3, l4, lv, rm⟩ α s (env'.cells.map (·.2)) c = some o := by
        refine callee_some ho a1 a3 a4.2 (fun q => ?_)
        obtain ⟨⟨y, d⟩, hm', e⟩ := List.mem_map.mp q; exact hin ⟨y, e ▸ hm'⟩
      refine ⟨fun q => ?_, a2, a3, a4, v, ⟨o, r2.keep _ _ hP, hd⟩, fun pv hpv => ?_⟩
      · have := r2.free _ (mem _ q); rw [hP] at this; cases this
      · obtain ⟨w, e1, hw⟩ := q pv hpv; exact ⟨w, e1, hw.mono h1⟩
  · obtain ⟨_, a2, a3, _⟩ := r.tab
    obtain ⟨b1, _, _, ps, e, t⟩ := r2.tab
    exact ⟨fun q => b1 (mem _ q), a2, a3, ps, e, t⟩
end
/-- refs that were there -/
noncomputable def flatP (n : Nat) : PV → Bool
  | .ref j => decide (j < n)
  | _ => true
noncomputable def flatO (n : Nat) : AO → Bool
  | .list false xs => xs.all (flatP n)
  | _ => false
theorem VRel.cut {mg α α2} (h : α <+: α2) : ∀ {p : PV} {v : Value}, VRel mg α2 p v → flatP α.length p = true → VRel mg α p v
  | .none, _, x, _ => x
  | .bool _, _, x, _ => x
  | .int _, _, x, _ => x
  | .str _, _, x, _ => x
  | .fn _, _, x, _ => x
  | .raw _, _, x, _ => x
  | .ref i, _, ⟨a, e, r⟩, f => by
    obtain ⟨t, rfl⟩ := h
    have hi : i < α.length := of_decide_eq_true f
    rw [List.getElem?_append_left hi] at e
    exact ⟨a, e, r⟩
theorem VRel.flat {mg α} : ∀ {p : PV} {v : Value}, VRel mg α p v → flatP α.length p = true
  | .none, _, _ => rfl
  | .bool _, _, _ => rfl
  | .int _, _, _ => rfl
  | .str _, _, _ => rfl
  | .fn _, _, _ => rfl
  | .raw _, _, _ => rfl
  | .ref i, _, ⟨a, e, r⟩ => decide_eq_true (List.getElem?_eq_some_iff.mp e).1
theorem VsRel.cut {mg α α2} (h : α <+: α2) {ps : List PV} {vs : List Value} (x : VsRel mg α2 ps vs) (f : ps.all (flatP α.length) = true) : VsRel mg α ps vs := by
  induction x with
  | nil => exact .nil
  | cons a _ ih =>
    rw [List.all_cons, Bool.and_eq_true] at f
    exact .cons (a.cut h f.1) (ih f.2)
theorem VsRel.flat {mg α} {ps : List PV} {vs : List Value} (x : VsRel mg α ps vs) : ps.all (flatP α.length) = true := by
  induction x with
  | nil => rfl
  | cons a _ ih => rw [List.all_cons, a.flat, ih]; rfl
theorem OAt.cut {mg α α2 h0 h a} (hp : α <+: α2) : ∀ {o : AO}, OAt mg α h0 a o → OAt mg α2 h a o → OAt mg α h a o
  | .list _ _, ⟨_, _, x0, _⟩, ⟨vs, e, x, q⟩ => ⟨vs, e, x.cut hp x0.flat, q⟩
  | .tup _ _, ⟨_, _, x0⟩, ⟨vs, e, x⟩ => ⟨vs, e, x.cut hp x0.flat⟩
  | .rng _ _ _, _, x => x
  | .app i, ⟨l0, e0, _⟩, ⟨l, e, r⟩ => by
    have h2 := (pre_get hp e0).symm.trans e
    exact ⟨l0, e0, by rw [Option.some.inj h2]; exact r⟩
  | .any, _, _ => trivial
/-- what a call hands back: a value that is no new object, or one new list of plain things -/
noncomputable def Ret (n : Nat) (t : List AO) (p : PV) (K : PV → List AO → Prop) : Prop := match p with
  | .ref k => (k < n ∧ K (.ref k) []) ∨ (∃ o, n ≤ k ∧ t[k - n]? = some o ∧ flatO n o = true ∧ K (.ref n) [o])
  | p => K p []
section
variable {C C' : Cx} {pro pro' : Pro} {σ σ2 : AS} {α α2 : List Addr} {s s2 : Shared}
theorem leave_call {p : PV} {v : Value} {K : PV → List AO → Prop} {t : List AO} (r : Rel C pro σ α s) (r2 : Rel C' (calleePro C α s (C'.env.cells.map (·.2))) σ2 α2 s2) (hS : C'.toSx = C.toSx) (hpre : α <+: α2)
    (hc : ∀ x c, (x, c) ∈ C'.env.cells → C'.env.cells.lookup x = some c ∧ s.heap.get? c = none) (ht : σ2.hp = σ.hp ++ t) (hK : Ret σ.hp.length t p K) (hv : VRel C.mg α2 p v) :
    ∃ p' ex α', K p' ex ∧ α <+: α' ∧ Rel C pro { σ with hp := σ.hp ++ ex } α' s2 ∧ VRel C.mg α' p' v := by
  have hmg : C'.mg = C.mg := by rw [hS]
  have hfz : C'.fzo = C.fzo := by rw [hS]
  have plain : ∀ K' : Prop, K' → flatP α.length p = true → Rel C pro { σ with hp := σ.hp ++ [] } α s2 ∧ VRel C.mg α p v := fun _ _ hf => by
    refine ⟨?_, hv.cut hpre hf⟩
    refine r.back r2 hS hpre (fun x c h => ⟨(hc x c h).1, .inl (hc x c h).2⟩) (List.prefix_refl _) (by simp [r.len]) r.nodup (fun a ha => hpre.subset ha) (fun i o a e1 e2 => ?_) (fun i a o e1 e2 e3 => r.freeF i a o e1 (by simpa using e2) e3) (fun p v h1 h2 => ?_)
    · rw [List.append_nil] at e1
      have e3 : σ2.hp[i]? = some o := by rw [ht, List.getElem?_append_left (List.getElem?_eq_some_iff.mp e1).1]; exact e1
      have := r2.objs i o a e3 (pre_get hpre e2)
      rw [hmg] at this
      exact (r.objs i o a e1 e2).cut hpre this
    · obtain ⟨u, hu⟩ := h2; exact h1.cut hpre hu.flat
  unfold Ret at hK
  split at hK
  · rename_i k
    rcases hK with ⟨hk, hK⟩ | ⟨o, hk, ho, hf, hK⟩
    · obtain ⟨a, b⟩ := plain _ hK (by show decide _ = true; rw [r.len]; exact decide_eq_true hk)
      exact ⟨_, [], α, hK, List.prefix_refl _, a, b⟩
    · obtain ⟨a, ea, rfl⟩ := hv
      have e2 : σ2.hp[k]? = some o := by rw [ht, List.getElem?_append_right hk]; exact ho
      have hoa := r2.objs k o a e2 ea
      rw [hmg] at hoa
      have hpre' : α <+: α ++ [a] := List.prefix_append _ _
      have hna : a ∉ α := fun hin => by
        obtain ⟨i, hi⟩ := List.getElem?_of_mem hin
        have := nd_inj r2.nodup (pre_get hpre hi) ea
        have hlt := (List.getElem?_eq_some_iff.mp hi).1
        rw [r.len] at hlt; omega
      have hflat : OAt C.mg α s2.heap a o := by
        cases o with
        | list f xs =>
          cases f with
          | true => cases hf
          | false =>
            obtain ⟨vs, e, x, q⟩ := hoa
            exact ⟨vs, e, x.cut hpre (by rw [r.len]; exact hf), q⟩
        | _ => cases hf
      have hfzo : o.fz = false := by
        cases o with
        | list f xs => cases f with
          | true => cases hf
          | false => rfl
        | _ => cases hf
      refine ⟨_, [o], α ++ [a], hK, hpre', ?_, vref_new r.len⟩
      refine r.back r2 hS hpre (fun x c h => ⟨(hc x c h).1, .inl (hc x c h).2⟩) hpre' (by simp [r.len]) ?_ (fun b hb => ?_) (fun i o' b e1 e2' => ?_) (fun i b o' e1 e2' e3 => ?_) (fun p v h1 h2 => ?_)
      · rw [List.nodup_append]; exact ⟨r.nodup, by simp, fun x hx y hy => by simp at hy; subst hy; rintro rfl; exact hna hx⟩
      · rcases List.mem_append.mp hb with hb | hb
        · exact hpre.subset hb
        · simp at hb; subst hb; exact List.mem_of_getElem? ea
      · by_cases hi : i < α.length
        · rw [List.getElem?_append_left hi] at e2'
          rw [List.getElem?_append_left (by rw [← r.len]; exact hi)] at e1
          have e3 : σ2.hp[i]? = some o' := by rw [ht, List.getElem?_append_left (List.getElem?_eq_some_iff.mp e1).1]; exact e1
          have := r2.objs i o' b e3 (pre_get hpre e2')
          rw [hmg] at this
          exact ((r.objs i o' b e1 e2').cut hpre this).mono hpre' fun _ e => e
        · have hi' := Nat.le_of_not_lt hi
          rw [List.getElem?_append_right hi'] at e2'
          rw [List.getElem?_append_right (by rw [← r.len]; exact hi'), ← r.len] at e1
          rcases q : i - α.length with _ | n
          · rw [q] at e1 e2'; simp at e1 e2'; subst e1 e2'; exact hflat.mono hpre' fun _ e => e
          · rw [q] at e2'; simp at e2'
      · by_cases hi : i < α.length
        · rw [List.getElem?_append_left hi] at e1
          rw [List.getElem?_append_left (by rw [← r.len]; exact hi)] at e2'
          exact r.freeF i b o' e1 e2' e3
        · have hi' := Nat.le_of_not_lt hi
          rw [List.getElem?_append_right hi'] at e1
          rcases q : i - α.length with _ | n
          · rw [q] at e1; simp at e1; subst e1
            have := r2.freeF k a o ea e2 hfzo
            rw [hfz] at this; exact this
          · rw [q] at e1; simp at e1
      · obtain ⟨u, hu⟩ := h2; exact (h1.cut hpre hu.flat).mono hpre'
  · rename_i hnr
    have hf : flatP α.length p = true := by
      cases p <;> first | rfl | exact absurd rfl (hnr _)
    obtain ⟨a, b⟩ := plain _ hK hf
    exact ⟨_, [], α, hK, List.prefix_refl _, a, b⟩
end
end Mine
set_option maxHeartbeats 4000000
namespace Mine
/-- what a call writes into the callee's frame and cells -/
noncomputable def bL (k : Str → Option NameKind) : List (Str × PV) → (Str → Option PV) → Str → Option PV
  | [], m => m
  | (n, v) :: r, m => bL k r (if k n = some .local then fun y => if y = n then some v else m y else m)
noncomputable def bC (k : Str → Option NameKind) : List (Str × PV) → (Str → Option PV) → Str → Option PV
  | [], m => m
  | (n, v) :: r, m => bC k r (if k n = some .local then m else fun y => if y = n then some v else m y)
theorem bL_rel {mg α} {k : Str → Option NameKind} : ∀ {ns : List Str} {ps : List PV} {vs : List Value} {m : Str → Option PV} {m' : Str → Option Value}, VsRel mg α ps vs → (∀ x pv, m x = some pv → ∃ v, m' x = some v ∧ VRel mg α pv v) →
    ∀ x pv, bL k (ns.zip ps) m x = some pv → ∃ v, bindL k (ns.zip vs) m' x = some v ∧ VRel mg α pv v := by
  intro ns
  induction ns with
  | nil => intro ps vs m m' _ hm; simpa [bL, bindL] using hm
  | cons n ns ih =>
    intro ps vs m m' hv hm
    cases hv with
    | nil => simpa [bL, bindL] using hm
    | cons h t =>
      simp only [List.zip_cons_cons, bL, bindL]
      refine ih t fun x pv => ?_
      by_cases hk : k n = some .local
      · rw [if_pos hk, if_pos hk]
        by_cases hx : x = n
        · simp only [hx, if_true]; rintro ⟨⟩; exact ⟨_, rfl, h⟩
        · simp only [hx, if_false]; exact hm x pv
      · rw [if_neg hk, if_neg hk]; exact hm x pv
theorem bC_rel {mg α} {k : Str → Option NameKind} : ∀ {ns : List Str} {ps : List PV} {vs : List Value} {m : Str → Option PV} {m' : Str → Option Value}, VsRel mg α ps vs → (∀ x pv, m x = some pv → ∃ v, m' x = some v ∧ VRel mg α pv v) →
    ∀ x pv, bC k (ns.zip ps) m x = some pv → ∃ v, bindC k (ns.zip vs) m' x = some v ∧ VRel mg α pv v := by
  intro ns
  induction ns with
  | nil => intro ps vs m m' _ hm; simpa [bC, bindC] using hm
  | cons n ns ih =>
    intro ps vs m m' hv hm
    cases hv with
    | nil => simpa [bC, bindC] using hm
    | cons h t =>
      simp only [List.zip_cons_cons, bC, bindC]
      refine ih t fun x pv => ?_
      by_cases hk : k n = some .local
      · rw [if_pos hk, if_pos hk]; exact hm x pv
      · rw [if_neg hk, if_neg hk]
        by_cases hx : x = n
        · simp only [hx, if_true]; rintro ⟨⟩; exact ⟨_, rfl, h⟩
        · simp only [hx, if_false]; exact hm x pv
noncomputable def kOf (sc : Scope) : Str → Option NameKind := fun x => sc.names.lookup x
noncomputable def retOf : AF → PV
  | .ret p => p
  | _ => .none
/-- the code that a function of the text bears -/
noncomputable def CodeOf (S : Sx) (d : DefRec) (code : Value) : Prop := ∃ h : Heap, (∀ b o, S.bpro b = some o → h.get? b = some o) ∧ ∃ a o pm doc, S.mg d.name = some (.ref a) ∧ h.get? a = some o ∧ o.data = .func (Calls.docDef d.name d.params d.body d.scope pm code doc)
/-- what a function of the text does: called with ps over hp -/
noncomputable def Fn (S : Sx) (lv : Nat) (d : DefRec) (ns : List Str) (ps : List PV) (hp : List AO) (K : PV → List AO → Prop) : Prop :=
  ∀ C : Cx, C.toSx = S → C.env.scope = d.scope → C.lv = lv → (∀ n, ((cellsFrom n d.scope.names []).map (·.1)) = (C.env.cells.map (·.1))) → CodeOf S d C.env.code →
    Xs C d.body ⟨bL (kOf d.scope) (ns.zip ps) fun _ => none, bC (kOf d.scope) (ns.zip ps) fun _ => none, hp⟩ fun f σ2 => (∀ g, f = g → g ≠ .brk ∧ g ≠ .cont) ∧ ∃ t, σ2.hp = hp ++ t ∧ Ret hp.length t (retOf f) K
/-- the names of a def's parameters, all plain -/
structure DefOk (d : DefRec) (ns : List Str) : Prop where
  bind : ∀ pm code doc vs, vs.length = ns.length → bindArgs (Calls.docDef d.name d.params d.body d.scope pm code doc) ⟨vs, []⟩ = pure (ns.zip vs)
  kind : ∀ x ∈ ns, d.scope.names.lookup x = some .local ∨ (d.scope.names.lookup x = some .cell ∧ x ∈ (cellsFrom 0 d.scope.names []).map (·.1))
  nd : ((cellsFrom 0 d.scope.names []).map (·.1)).Nodup
  co : d.scope.isCoroutine = false
  gen : d.scope.isGenerator = false
  fn : d.scope.kind = .function
  noClosure : True
theorem lt0 {P : Nat → Prop} : ∀ i < 0, P i := fun _ h => absurd h (Nat.not_lt_zero _)
theorem ltS {P : Nat → Prop} {n : Nat} (h0 : P n) (h : ∀ i < n, P i) : ∀ i < n + 1, P i := fun i hi => (Nat.lt_or_eq_of_le (Nat.le_of_lt_succ hi)).elim (h i) fun e => e ▸ h0
theorem lt1 {P : Nat → Prop} (h0 : P 0) : ∀ i < 1, P i := ltS h0 lt0
theorem lt3 {P : Nat → Prop} (h0 : P 0) (h1 : P 1) (h2 : P 2) : ∀ i < 3, P i := ltS h2 (ltS h1 (ltS h0 lt0))
theorem lt4 {P : Nat → Prop} (h0 : P 0) (h1 : P 1) (h2 : P 2) (h3 : P 3) : ∀ i < 4, P i := ltS h3 (ltS h2 (ltS h1 (ltS h0 lt0)))
theorem lt6 {P : Nat → Prop} (h0 : P 0) (h1 : P 1) (h2 : P 2) (h3 : P 3) (h4 : P 4) (h5 : P 5) : ∀ i < 6, P i := ltS h5 (ltS h4 (ltS h3 (ltS h2 (ltS h1 (ltS h0 lt0)))))
theorem lt7 {P : Nat → Prop} (h0 : P 0) (h1 : P 1) (h2 : P 2) (h3 : P 3) (h4 : P 4) (h5 : P 5) (h6 : P 6) : ∀ i < 7, P i := ltS h6 (ltS h5 (ltS h4 (ltS h3 (ltS h2 (ltS h1 (ltS h0 lt0))))))
theorem lt10 {P : Nat → Prop} (h0 : P 0) (h1 : P 1) (h2 : P 2) (h3 : P 3) (h4 : P 4) (h5 : P 5) (h6 : P 6) (h7 : P 7) (h8 : P 8) (h9 : P 9) : ∀ i < 10, P i := ltS h9 (ltS h8 (ltS h7 (ltS h6 (ltS h5 (ltS h4 (ltS h3 (ltS h2 (ltS h1 (ltS h0 lt0)))))))))
theorem four_list {A : Type} {xs : List A} (h : xs.length = 4) : ∃ a b c d, xs = [a, b, c, d] := by
  obtain ⟨a, x1, rfl⟩ := List.exists_cons_of_length_eq_add_one h
  obtain ⟨b, x2, rfl⟩ := List.exists_cons_of_length_eq_add_one (Nat.succ.inj h)
  obtain ⟨c, x3, rfl⟩ := List.exists_cons_of_length_eq_add_one (Nat.succ.inj (Nat.succ.inj h))
  obtain ⟨d, x4, rfl⟩ := List.exists_cons_of_length_eq_add_one (Nat.succ.inj (Nat.succ.inj (Nat.succ.inj h)))
  obtain rfl := List.eq_nil_of_length_eq_zero (Nat.succ.inj (Nat.succ.inj (Nat.succ.inj (Nat.succ.inj h))))
  exact ⟨a, b, c, d, rfl⟩
theorem one_of {P : List Value → Prop} (h : ∀ a, P [a]) (vs : List Value) (e : vs.length = 1) : P vs := by
  obtain ⟨a, rfl⟩ := List.length_eq_one_iff.mp e
  exact h a
theorem two_of {P : List Value → Prop} (h : ∀ a b, P [a, b]) (vs : List Value) (e : vs.length = 2) : P vs := by
  obtain ⟨a, x, rfl⟩ := List.exists_cons_of_length_eq_add_one e
  exact one_of (P := fun l => P (a :: l)) (h a) x (Nat.succ.inj e)
theorem three_of {P : List Value → Prop} (h : ∀ a b c, P [a, b, c]) (vs : List Value) (e : vs.length = 3) : P vs := by
  obtain ⟨a, x, rfl⟩ := List.exists_cons_of_length_eq_add_one e
  exact two_of (P := fun l => P (a :: l)) (h a) x (Nat.succ.inj e)
theorem lookup_some_of_mem {β : Type} {x : Str} : ∀ {l : List (Str × β)}, x ∈ l.map (·.1) → ∃ c, l.lookup x = some c
  | [], h => by simp at h
  | (y, c) :: r, h => by
    by_cases e : x = y
    · subst e; exact ⟨c, by simp [List.lookup]⟩
    · rw [List.map_cons, List.mem_cons] at h
      rcases h with h | h
      · exact absurd h e
      · obtain ⟨c', h'⟩ := lookup_some_of_mem h
        refine ⟨c', ?_⟩
        rw [List.lookup_cons]
        have : (x == y) = false := by simpa using e
        rw [this]; exact h'
theorem nodup_lookup {β : Type} {x : Str} {c : β} : ∀ {l : List (Str × β)}, (l.map (·.1)).Nodup → (x, c) ∈ l → l.lookup x = some c
  | [], _, h => by simp at h
  | (y, d) :: r, hn, h => by
    rw [List.map_cons, List.nodup_cons] at hn
    rw [List.lookup_cons]
    rcases List.mem_cons.mp h with h | h
    · cases h; simp
    · have : x ≠ y := fun e => hn.1 (e ▸ List.mem_map_of_mem (f := (·.1)) h)
      have hb : (x == y) = false := by simpa using this
      rw [hb]; exact nodup_lookup hn.2 h
theorem cellsFrom_fst : ∀ (l : List (Str × NameKind)) (n m : Nat) (a b : List (Str × Addr)), a.map (·.1) = b.map (·.1) → (cellsFrom n l a).map (·.1) = (cellsFrom m l b).map (·.1)
  | [], _, _, _, _, h => h
  | (x, k) :: r, n, m, a, b, h => by
    unfold cellsFrom
    split
    · exact cellsFrom_fst r _ _ _ _ (by simp [h])
    · exact cellsFrom_fst r _ _ _ _ h
noncomputable def flv : Flow → Value
  | .ret v => v
  | _ => .none
section
variable {C : Cx} {σ : AS} {pos : Pos} {k : Nat}
theorem Cal.fn {d : DefRec} {ns : List Str} {ps : List PV} {n : Nat} {x : Str} {Q} (hd : d ∈ recsOf C.prog) (hx : d.name = x) (ok : DefOk d ns) (hn : ps.length = ns.length) (hl : C.lv = n + 1)
    (h : Fn C.toSx n d ns ps σ.hp fun p ex => Q p { σ with hp := σ.hp ++ ex }) : Cal C (.fn x) ps σ Q := by
  subst hx
  intro pro α s v vs r hv hvs Q' E kk
  obtain ⟨a, rfl, ha⟩ := hv
  obtain ⟨b, o, pm, code, doc, h1, h2, h3, h4⟩ := r.facts.fn d hd
  rw [ha] at h1; cases h1
  have hle := hvs.length
  have hroom := C.room
  refine wpAny_call ?_
  have hcn : ∀ m, (cellsFrom m d.scope.names []).map (·.1) = (cellsFrom 0 d.scope.names []).map (·.1) := fun m => cellsFrom_fst _ _ _ _ _ rfl
  refine codeAny_call_function (fd := Calls.docDef d.name d.params d.body d.scope pm code doc) (by lia) h2 h3 ok.co ok.gen rfl h4 ?_
  rw [ok.bind pm code doc vs (by lia)]
  refine wpAny_pure (wpAny_with_toks (Nat.le_refl _) (wpAny_newFunctionEnv_cells ok.fn (fun y hy => ?_) fun env' he s' x htk => ?_))
  · have hm : y.1 ∈ ns := (List.of_mem_zip (show (y.1, y.2) ∈ _ from hy)).1
    rcases ok.kind _ hm with q | ⟨q, q'⟩
    · exact .inl q
    · have q'' : y.1 ∈ (cellsFrom (s.heap.objs.size + 1) d.scope.names []).map (·.1) := by rw [hcn]; exact q'
      obtain ⟨c, hc⟩ := lookup_some_of_mem q''
      exact .inr ⟨q, by show ((cellsFrom (s.heap.objs.size + 1) d.scope.names []).lookup y.1).isSome = true; rw [hc]; rfl⟩
  · have he' : env' = envOfC d.name d.scope s.heap.objs.size a code := he
    clear he
    subst he'
    have hk₁ := x.toInCall.keep
    refine ⟨r.facts.nolimit.keeps hk₁, codeAny_func ?_⟩
    obtain ⟨h₁, tk, rfl, _⟩ := x.done
    let C' : Cx := { toSx := C.toSx, A := C.A.deeper (envOfC d.name d.scope s.heap.objs.size a code), env := envOfC d.name d.scope s.heap.objs.size a code, kind := ok.fn, glob := rfl, bi := rfl, hd := C.hd, lv := n,
                     room := ⟨by show C.A.depth + 1 + n < _; lia, by show C.A.units + 3 + 8 * n + 8 < _; lia⟩ }
    have hnew : ∀ y c, (y, c) ∈ cellsFrom (s.heap.objs.size + 1) d.scope.names [] → s.heap.objs.size < c := x.above
    have hcs : ∀ b ∈ (cellsFrom (s.heap.objs.size + 1) d.scope.names []).map (·.2), s.heap.objs.size < b := fun b hb => by
      obtain ⟨⟨y, c⟩, hm, rfl⟩ := List.mem_map.mp hb; exact hnew y c hm
    have hnone : ∀ b, s.heap.objs.size < b → s.heap.get? b = none := fun b hb => by
      cases e : s.heap.get? b with
      | none => rfl
      | some o' => exact absurd (Nat.lt_trans (Heap.lt_size e) hb) (Nat.lt_irrefl _)
    have hnd : ((cellsFrom (s.heap.objs.size + 1) d.scope.names []).map (·.1)).Nodup := by rw [hcn]; exact ok.nd
    have r0 : Rel C' (calleePro C α s ((cellsFrom (s.heap.objs.size + 1) d.scope.names []).map (·.2))) ⟨bL (kOf d.scope) (ns.zip ps) fun _ => none, bC (kOf d.scope) (ns.zip ps) fun _ => none, σ.hp⟩ α { s with heap := h₁, toks := tk } := by
      refine ⟨Nat.lt_of_lt_of_le r.tk htk, fun b o e => ?_, by rw [r.sh], fun b o e => hk₁ b o (callee_inv e).1, r.stat, r.len, r.nodup, fun b hb => let ⟨o, e⟩ := r.live b hb; ⟨o, hk₁ _ _ e⟩, fun b o e => hk₁ b o (r.keepF b o e), fun b o e => (callee_inv e).2.2.2.1,
        fun b hb => if_pos (.inl hb), r.freeF, r.new_notin get_size_none, ⟨?_, r.new_noneF get_size_none⟩, ⟨_, x.toInCall.ns, bL_rel hvs fun _ _ e => by cases e⟩, fun i o b e1 e2 => (r.objs i o b e1 e2).mono (List.prefix_refl _) (hk₁ b), fun y c e => ?_, fun y z c e1 e2 => ?_, ?_⟩
      · have e1 := r.sub b o e
        refine callee_some (r.keep b o e1) (fun q => ?_) (fun q => ?_) (r.pf b o e1) (fun q => ?_)
        · have := r.free b q; rw [this] at e1; cases e1
        · have := r.tab.2.2.1.1; rw [← q, e1] at this; cases this
        · have e2 := hnone b (hcs b q); rw [r.keep b o e1] at e2; cases e2
      · show calleePro C α s _ s.heap.objs.size = none
        unfold calleePro
        split
        · rfl
        · exact get_size_none
      · have hm : (y, c) ∈ cellsFrom (s.heap.objs.size + 1) d.scope.names [] := mem_of_lookup e
        have hlt := hnew y c hm
        have hn0 := hnone c hlt
        refine ⟨r.new_notin hn0, Nat.ne_of_gt hlt, r.new_ne_tp hn0, ⟨if_pos (.inr (.inr (.inr (List.mem_map_of_mem (f := (·.2)) hm)))), r.new_noneF hn0⟩, _, x.cell y c e, fun pv hpv => ?_⟩
        exact bC_rel hvs (fun _ _ e => by cases e) y pv hpv
      · exact name_of_addr x.apart (mem_of_lookup e1) (mem_of_lookup e2)
      · obtain ⟨b1, b2, b3, ps', e, t⟩ := r.tab
        exact ⟨b1, Ne.symm (r.new_ne_tp get_size_none), ⟨if_pos (.inr (.inl rfl)), b3.2⟩, ps', hk₁ _ _ e, t⟩
    refine wpAny_mono (h C' rfl rfl rfl (fun m => by show _ = (cellsFrom (s.heap.objs.size + 1) d.scope.names []).map (·.1); exact (hcn m).trans (hcn _).symm) ⟨s.heap, fun b o e => r.keep b o (r.sub b o e), a, o, pm, doc, ha, h2, h3⟩ _ α _ r0
      (fun fl s' => Q' (flv fl) s') _ ?_) (fun fl s' y => ?_) (fun _ _ y => y)
    · intro f σ2 α2 s2 fl hq p2 r2 v2
      obtain ⟨hf, t, ht, hK⟩ := hq
      have hv : VRel C.mg α2 (retOf f) (flv fl) := by
        cases f with
        | next => cases v2; rfl
        | ret p => obtain ⟨u, rfl, hu⟩ := v2; exact hu
        | brk => exact absurd rfl (hf _ rfl).1
        | cont => exact absurd rfl (hf _ rfl).2
      obtain ⟨p', ex, α', hK', pp, rr, vv⟩ := leave_call (C' := C') r r2 rfl p2 (fun y c hm => ⟨nodup_lookup hnd hm, hnone c (hnew y c hm)⟩) ht hK hv
      exact kk _ _ α' _ _ hK' pp rr vv
    · cases fl <;> exact y
end
end Mine
set_option maxHeartbeats 4000000
namespace Mine
noncomputable def recAt (n : Nat) : DefRec := ((recsOf PySem.Challenge.pw_rt0035_01)[n]?).getD ⟨"", ⟨[],[],none,[],[],none,[]⟩, [], default, default⟩
/-- what the top binds -/
structure Ok (S : Sx) : Prop where
  prog : S.prog = PySem.Challenge.pw_rt0035_01
  nob : ∀ x : Str, x ∈ ([("len" : Str), "range", "min", "sum", "list", "isinstance", "str", "enumerate"] : List Str) → S.mg x = none
  mv : ∃ t, S.mg "_MOVE_COST" = some (.int 2 t)
  cc : ∃ t, S.mg "_CASE_COST" = some (.int 1 t)
  ms : ∃ t, S.mg "_MAX_STRING_SIZE" = some (.int 40 t)
theorem getNew {A : Type} {l : List A} {o : A} : (l ++ [o])[l.length]? = some o := by simp
theorem getApp {A : Type} {l t : List A} {i : Nat} {o : A} (h : l[i]? = some o) : (l ++ t)[i]? = some o := by
  rw [List.getElem?_append_left (List.getElem?_eq_some_iff.mp h).1]; exact h
theorem getSet {A : Type} {l : List A} {i : Nat} {o o' : A} (h : l[i]? = some o') : (l.set i o)[i]? = some o := List.getElem?_set_self (List.getElem?_eq_some_iff.mp h).1
theorem getSetNe {A : Type} {l : List A} {i j : Nat} {o o' : A} (h : l[j]? = some o') (hn : j ≠ i) : (l.set i o)[j]? = some o' := by rw [List.getElem?_set_ne (Ne.symm hn)]; exact h
theorem get_lt {A : Type} {l : List A} {i : Nat} {o : A} (h : l[i]? = some o) : i < l.length := (List.getElem?_eq_some_iff.mp h).1
/-- one list stands at another's head -/
noncomputable def Ext (a b : List AO) : Prop := ∃ t, b = a ++ t
theorem Ext.refl {a : List AO} : Ext a a := ⟨[], by simp⟩
theorem Ext.app {a b : List AO} {o : AO} (h : Ext a b) : Ext a (b ++ [o]) := by obtain ⟨t, rfl⟩ := h; exact ⟨t ++ [o], by simp⟩
theorem Ext.apps {a b t : List AO} (h : Ext a b) : Ext a (b ++ t) := by obtain ⟨t', rfl⟩ := h; exact ⟨t' ++ t, by simp⟩
theorem Ext.set {a b : List AO} {i : Nat} {o : AO} (h : Ext a b) (hi : a.length ≤ i) : Ext a (b.set i o) := by
  obtain ⟨t, rfl⟩ := h
  exact ⟨t.set (i - a.length) o, by rw [List.set_append_right _ _ hi]⟩
theorem Ext.get {a b : List AO} {i : Nat} {o : AO} (h : Ext a b) (e : a[i]? = some o) : b[i]? = some o := by obtain ⟨t, rfl⟩ := h; exact getApp e
theorem Ext.len {a b : List AO} (h : Ext a b) : a.length ≤ b.length := by obtain ⟨t, rfl⟩ := h; simp
theorem Ext.trans {a b c : List AO} (h : Ext a b) (h' : Ext b c) : Ext a c := by obtain ⟨t, rfl⟩ := h; exact h'.elim fun t' e => ⟨t ++ t', by rw [e]; simp⟩
section
variable {C : Cx} {σ : AS} {pos : Pos} {k : Nat}
noncomputable abbrev FnQ (hp : List AO) (K : PV → List AO → Prop) : AF → AS → Prop := fun f σ2 => (∀ g, f = g → g ≠ .brk ∧ g ≠ .cont) ∧ ∃ t, σ2.hp = hp ++ t ∧ Ret hp.length t (retOf f) K
/-- the end of a function -/
theorem fin_val {p : PV} {hp : List AO} {K : PV → List AO → Prop} (he : Ext hp σ.hp) (hr : ∀ k, p ≠ .ref k) (h : K p []) : FnQ hp K (.ret p) σ := by
  refine ⟨fun g e => by subst e; exact ⟨by simp, by simp⟩, he.elim fun t e => ⟨t, e, ?_⟩⟩
  show Ret _ t p K
  unfold Ret
  split
  · exact absurd rfl (hr _)
  · exact h
theorem fin_int {i : Int} {hp : List AO} {K : PV → List AO → Prop} (he : Ext hp σ.hp) (h : K (.int i) []) : FnQ hp K (.ret (.int i)) σ := fin_val he (by simp) h
theorem fin_str {i : Str} {hp : List AO} {K : PV → List AO → Prop} (he : Ext hp σ.hp) (h : K (.str i) []) : FnQ hp K (.ret (.str i)) σ := fin_val he (by simp) h
theorem fin_bool {i : Bool} {hp : List AO} {K : PV → List AO → Prop} (he : Ext hp σ.hp) (h : K (.bool i) []) : FnQ hp K (.ret (.bool i)) σ := fin_val he (by simp) h
theorem fin_new {i : Nat} {xs : List PV} {hp : List AO} {K : PV → List AO → Prop} (he : Ext hp σ.hp) (hi : σ.hp[i]? = some (.list false xs)) (hn : hp.length ≤ i) (hf : xs.all (flatP hp.length) = true) (h : K (.ref hp.length) [.list false xs]) : FnQ hp K (.ret (.ref i)) σ := by
  refine ⟨fun g e => by subst e; exact ⟨by simp, by simp⟩, he.elim fun t e => ⟨t, e, ?_⟩⟩
  show Ret _ t (.ref i) K
  refine .inr ⟨.list false xs, hn, ?_, hf, h⟩
  rw [e, List.getElem?_append_right hn] at hi; exact hi
theorem kon_next {rest Q} (h : Xs C rest σ Q) : kon C rest Q .next σ := h
theorem kon_ret {rest Q p} (h : Q (.ret p) σ) : kon C rest Q (.ret p) σ := h
theorem kon_brk {rest Q} (h : Q .brk σ) : kon C rest Q .brk σ := h
theorem loop_next {again : AS → Prop} {Q} (h : again σ) : loopEnd again Q .next σ := h
theorem loop_brk {again : AS → Prop} {Q : AF → AS → Prop} (h : Q .next σ) : loopEnd again Q .brk σ := h
theorem loop_ret {again : AS → Prop} {Q : AF → AS → Prop} {p} (h : Q (.ret p) σ) : loopEnd again Q (.ret p) σ := h
theorem Ev.fnm {x : Str} {d : DefRec} {sc : Scope} {Q} (hs : C.env.scope = sc) (hk : sc.names.lookup x = some .globalImplicit) (hd : d ∈ recsOf C.prog) (hx : d.name = x) (h : Q (.fn x) σ) (hd' : (x == ("__debug__" : Str)) = false := by decide) : Ev C (.Name x pos) σ Q := by
  intro pro α s r Q' E kk
  obtain ⟨a, o, pm, code, doc, h1, _⟩ := r.facts.fn d hd
  rw [hx] at h1
  exact Ev.top (p := .fn x) hs hk ⟨_, h1, fun α _ => ⟨a, rfl, h1⟩⟩ h hd' pro α s r Q' E kk
theorem Ev.bi' {x : Str} {v : Value} {sc : Scope} {Q} (hO : Ok C.toSx) (hx : x ∈ ([("len" : Str), "range", "min", "sum", "list", "isinstance", "str", "enumerate"] : List Str)) (hs : C.env.scope = sc) (hk : sc.names.lookup x = some .globalImplicit) (hb : bootBuiltins x = some v) (h : Q (.raw v) σ) (hn : x ≠ "__name__" := by decide) (hd : (x == ("__debug__" : Str)) = false := by decide) :
    Ev C (.Name x pos) σ Q := Ev.bi hs hk (hO.nob x hx) hb h hn hd
theorem Ev.b_len {sc : Scope} {Q} (hO : Ok C.toSx) (hs : C.env.scope = sc) (hk : sc.names.lookup ("len" : Str) = some .globalImplicit) (h : Q (.raw (.builtin "len")) σ) : Ev C (.Name "len" pos) σ Q := Ev.bi' hO (by decide) hs hk (by rfl) h
theorem Ev.b_range {sc : Scope} {Q} (hO : Ok C.toSx) (hs : C.env.scope = sc) (hk : sc.names.lookup ("range" : Str) = some .globalImplicit) (h : Q (.raw (.type "range")) σ) : Ev C (.Name "range" pos) σ Q := Ev.bi' hO (by decide) hs hk (by rfl) h
theorem Ev.b_min {sc : Scope} {Q} (hO : Ok C.toSx) (hs : C.env.scope = sc) (hk : sc.names.lookup ("min" : Str) = some .globalImplicit) (h : Q (.raw (.builtin "min")) σ) : Ev C (.Name "min" pos) σ Q := Ev.bi' hO (by decide) hs hk (by rfl) h
theorem Ev.b_sum {sc : Scope} {Q} (hO : Ok C.toSx) (hs : C.env.scope = sc) (hk : sc.names.lookup ("sum" : Str) = some .globalImplicit) (h : Q (.raw (.builtin "sum")) σ) : Ev C (.Name "sum" pos) σ Q := Ev.bi' hO (by decide) hs hk (by rfl) h
theorem Ev.b_list {sc : Scope} {Q} (hO : Ok C.toSx) (hs : C.env.scope = sc) (hk : sc.names.lookup ("list" : Str) = some .globalImplicit) (h : Q (.raw (.type "list")) σ) : Ev C (.Name "list" pos) σ Q := Ev.bi' hO (by decide) hs hk (by rfl) h
theorem Ev.b_isinstance {sc : Scope} {Q} (hO : Ok C.toSx) (hs : C.env.scope = sc) (hk : sc.names.lookup ("isinstance" : Str) = some .globalImplicit) (h : Q (.raw (.builtin "isinstance")) σ) : Ev C (.Name "isinstance" pos) σ Q := Ev.bi' hO (by decide) hs hk (by rfl) h
theorem Ev.b_str {sc : Scope} {Q} (hO : Ok C.toSx) (hs : C.env.scope = sc) (hk : sc.names.lookup ("str" : Str) = some .globalImplicit) (h : Q (.raw (.type "str")) σ) : Ev C (.Name "str" pos) σ Q := Ev.bi' hO (by decide) hs hk (by rfl) h
theorem Ev.b_enumerate {sc : Scope} {Q} (hO : Ok C.toSx) (hs : C.env.scope = sc) (hk : sc.names.lookup ("enumerate" : Str) = some .globalImplicit) (h : Q (.raw (.type "enumerate")) σ) : Ev C (.Name "enumerate" pos) σ Q := Ev.bi' hO (by decide) hs hk (by rfl) h
theorem Ev.mv {sc : Scope} {Q} (hO : Ok C.toSx) (hs : C.env.scope = sc) (hk : sc.names.lookup ("_MOVE_COST" : Str) = some .globalImplicit) (h : Q (.int 2) σ) : Ev C (.Name "_MOVE_COST" pos) σ Q :=
  Ev.top (p := .int 2) hs hk (hO.mv.elim fun t e => ⟨_, e, fun _ _ => ⟨t, rfl⟩⟩) h
theorem Ev.cc {sc : Scope} {Q} (hO : Ok C.toSx) (hs : C.env.scope = sc) (hk : sc.names.lookup ("_CASE_COST" : Str) = some .globalImplicit) (h : Q (.int 1) σ) : Ev C (.Name "_CASE_COST" pos) σ Q :=
  Ev.top (p := .int 1) hs hk (hO.cc.elim fun t e => ⟨_, e, fun _ _ => ⟨t, rfl⟩⟩) h
theorem Ev.ms {sc : Scope} {Q} (hO : Ok C.toSx) (hs : C.env.scope = sc) (hk : sc.names.lookup ("_MAX_STRING_SIZE" : Str) = some .globalImplicit) (h : Q (.int 40) σ) : Ev C (.Name "_MAX_STRING_SIZE" pos) σ Q :=
  Ev.top (p := .int 40) hs hk (hO.ms.elim fun t e => ⟨_, e, fun _ _ => ⟨t, rfl⟩⟩) h
theorem X1.expr' {e : Expr} {Q} (h : Ev C e σ fun p σ1 => p = .none ∧ Q .next σ1) (hs : swapsWith e none pos.line C.env = pure false := by rfl) : X1 C (.Expr e pos) σ Q :=
  X1.expr h (by unfold interactive; rw [C.kind]; rfl) hs
end
theorem Ok.mem {S : Sx} {d : DefRec} (hO : Ok S) (h : d ∈ recsOf PySem.Challenge.pw_rt0035_01) : d ∈ recsOf S.prog := by rw [hO.prog]; exact h
section
variable {C : Cx} {σ : AS} {pos : Pos} {k : Nat}
theorem Trs.nilA {Q} (h : Q true σ) : Trs C .And [] σ Q := Trs.nil h
theorem Trs.nilO {Q} (h : Q false σ) : Trs C .Or [] σ Q := Trs.nil h
theorem br_f {P Q : Prop} (h : Q) : (false = true → P) ∧ (false = false → Q) := ⟨fun h => Bool.noConfusion h, fun _ => h⟩
theorem br_t {P Q : Prop} (h : P) : (true = true → P) ∧ (true = false → Q) := ⟨fun _ => h, fun h => Bool.noConfusion h⟩
theorem br_f' {P Q : Prop} (h : Q) : (false = false → Q) ∧ (false = true → P) := ⟨fun _ => h, fun h => Bool.noConfusion h⟩
theorem br_t' {P Q : Prop} (h : P) : (true = false → Q) ∧ (true = true → P) := ⟨fun h => Bool.noConfusion h, fun _ => h⟩
theorem Ev.lower {o : Expr} {apos : Pos} {pl : Sem Bool} {Q} (h : Ev C o σ fun a σ1 => ∃ x, a = .str x ∧ Builtin.Str.tooLong (Txt.lower x).length = false ∧ Q (.str (Txt.lower x)) σ1)
    (hc : eval (.Call (.Attribute o "lower" apos) [] [] pos) C.env = (do
      let ov ← eval o C.env
      standAt apos.atName
      let (f, first) ← holding [ov] (getMethod ov "lower" pl)
      callWith pos f first (backTo pos (starEach [] C.env)) [])) : Ev C (.Call (.Attribute o "lower" apos) [] [] pos) σ Q :=
  Ev.methS0 (pl := pl) (fun h => GM.lower h) (Ev.mono h fun a σ1 ⟨x, e, hl, hq⟩ => ⟨x, e, Cal.lower hl hq⟩) hc
theorem kcal_bi {x : String} {ps : List PV} {Q} (h : Cal C (.raw (.builtin x)) ps σ Q) : Kpr C σ (.raw (.builtin x)) ∧ Cal C (.raw (.builtin x)) ps σ Q := ⟨trivial, h⟩
theorem kcal_ty {x : String} {ps : List PV} {Q} (h : Cal C (.raw (.type x)) ps σ Q) : Kpr C σ (.raw (.type x)) ∧ Cal C (.raw (.type x)) ps σ Q := ⟨trivial, h⟩
theorem kcal_fn {d : DefRec} {ns : List Str} {ps : List PV} {n : Nat} {x : Str} {Q} (hO : Ok C.toSx) (hd : d ∈ recsOf PySem.Challenge.pw_rt0035_01) (hx : d.name = x) (ok : DefOk d ns) (hn : ps.length = ns.length) (hl : C.lv = n + 1)
    (h : Fn C.toSx n d ns ps σ.hp fun p ex => Q p { σ with hp := σ.hp ++ ex }) : Kpr C σ (.fn x) ∧ Cal C (.fn x) ps σ Q := ⟨⟨d, hO.mem hd, hx⟩, Cal.fn (hO.mem hd) hx ok hn hl h⟩
theorem Fn.call {S : Sx} {lv : Nat} {d : DefRec} {ns : List Str} {ps : List PV} {hp : List AO} {K : PV → List AO → Prop} (h : Fn S lv d ns ps hp K) : Fn S lv d ns ps hp K := h
end
end Mine
set_option maxHeartbeats 4000000
namespace Mine
section
variable {C : Cx} {σ : AS} {pos : Pos} {k : Nat}
theorem rsize1 {a b : Int} : Builtin.Range.rangeSize a b 1 = max (b - a) 0 := by
  unfold Builtin.Range.rangeSize
  rw [if_pos (by decide : (1:Int) > 0)]
  split
  · rw [Int.ediv_one]; lia
  · lia
theorem small1 {a b : Nat} (ha : a < 1000000) (hb : b < 1000000) : Builtin.Range.small a b 1 = true := small_one (by lia) (by lia) (by lia) (by lia)
theorem Xs.loop {ss : List Stmt} {A B : AS → Prop} {Q} (h : Xs C ss σ (loopEnd A Q)) (k : ∀ σ, A σ → B σ) : Xs C ss σ (loopEnd B Q) := h.mono fun f σ' h => by
  cases f <;> first | exact k _ h | exact h
theorem Asn.mono {t : Expr} {p : PV} {Q Q2 : AS → Prop} (h : Asn C t p σ Q) (k : ∀ σ, Q σ → Q2 σ) : Asn C t p σ Q2 := fun pro α s v r hv => (h pro α s v r hv).mono fun _ => k
theorem Fo.rng {target : Expr} {body orelse : List Stmt} {Q} {I : Nat → AS → Prop} {nb : Nat} (hstep : ∀ j σ, j < nb → I j σ → Asn C target (.int j) σ fun σ1 => Xs C body σ1 (loopEnd (I (j + 1)) Q)) (hend : ∀ σ, I nb σ → Xs C orelse σ Q) :
    ∀ (m na : Nat) (σ : AS), nb - na = m → na ≤ nb → I na σ → Fo C target (.rng na m 1) body orelse σ Q
  | 0, na, σ, e, hle, hi => Fo.fin (Int.le_refl 0) (hend σ ((by omega : na = nb) ▸ hi))
  | m + 1, na, σ, e, hle, hi => by
    refine Fo.step (p := .int na) ⟨rfl, by omega, rfl⟩ (Asn.mono (hstep na σ (by omega) hi) fun σ1 h1 => Xs.loop h1 fun σ2 h2 => ?_)
    have := Fo.rng hstep hend m (na + 1) σ2 (by omega) (by omega) h2
    rw [show ((m + 1 : Nat) : Int) - 1 = (m : Int) from by omega]
    exact this
/-- for over range(na, nb) -/
theorem X1.forR {target iter : Expr} {body orelse : List Stmt} {Q} (I : Nat → AS → Prop) (na nb : Nat) (hle : na ≤ nb) (hlt : nb < 1000000)
    (h : Ev C iter σ fun p σ1 => ∃ i, p = .ref i ∧ σ1.hp[i]? = some (.rng na nb 1) ∧ I na σ1)
    (hstep : ∀ j σ, na ≤ j → j < nb → I j σ → Asn C target (.int j) σ fun σ1 => Xs C body σ1 (loopEnd (I (j + 1)) Q)) (hend : ∀ σ, I nb σ → Xs C orelse σ Q)
    (hs : ∀ x, foldedSetIterable iter C.env x = pure x := by intro _; rfl) : X1 C (.For target iter body orelse pos) σ Q := by
  refine X1.for (Ev.mono h fun p σ1 ⟨i, e, hp, hI⟩ => ?_) hs
  subst e
  refine ⟨_, .inr (.inr ⟨_, _, _, hp, small1 (by lia) hlt, rfl⟩), ?_⟩
  have e : Builtin.Range.rangeSize na nb 1 = ((nb - na : Nat) : Int) := by rw [rsize1]; lia
  rw [e]
  exact Fo.rng (I := fun j σ => na ≤ j ∧ I j σ) (fun j σ hj hI => Asn.mono (hstep j σ hI.1 hj hI.2) fun σ1 h1 => Xs.loop h1 fun σ2 h2 => ⟨by lia, h2⟩) (fun σ hI => hend σ hI.2) _ na σ1 rfl hle ⟨Nat.le_refl _, hI⟩
theorem Fo.lst {target : Expr} {body orelse : List Stmt} {Q} {I : Nat → AS → Prop} {i : Nat} {xs : List PV} (hst : ∀ j σ, I j σ → ∃ f, σ.hp[i]? = some (.list f xs)) (hstep : ∀ j p σ, xs[j]? = some p → I j σ → Asn C target p σ fun σ1 => Xs C body σ1 (loopEnd (I (j + 1)) Q)) (hend : ∀ σ, I xs.length σ → Xs C orelse σ Q) :
    ∀ (m na : Nat) (σ : AS), xs.length - na = m → na ≤ xs.length → I na σ → Fo C target (.list i na) body orelse σ Q
  | 0, na, σ, e, hle, hi => by
    obtain ⟨f, hf⟩ := hst _ _ hi
    exact Fo.fin ⟨f, xs, hf, by lia⟩ (hend σ ((by lia : na = xs.length) ▸ hi))
  | m + 1, na, σ, e, hle, hi => by
    obtain ⟨f, hf⟩ := hst _ _ hi
    have hlt : na < xs.length := by lia
    refine Fo.step (p := xs[na]) ⟨rfl, f, xs, hf, List.getElem?_eq_getElem hlt⟩ (Asn.mono (hstep na _ σ (List.getElem?_eq_getElem hlt) hi) fun σ1 h1 => Xs.loop h1 fun σ2 h2 => ?_)
    exact Fo.lst hst hstep hend m (na + 1) σ2 (by lia) (by lia) h2
theorem Fo.tup {target : Expr} {body orelse : List Stmt} {Q} {I : Nat → AS → Prop} {i : Nat} {xs : List PV} (hst : ∀ j σ, I j σ → ∃ f, σ.hp[i]? = some (.tup f xs)) (hstep : ∀ j p σ, xs[j]? = some p → I j σ → Asn C target p σ fun σ1 => Xs C body σ1 (loopEnd (I (j + 1)) Q)) (hend : ∀ σ, I xs.length σ → Xs C orelse σ Q) :
    ∀ (m na : Nat) (σ : AS), xs.length - na = m → na ≤ xs.length → I na σ → Fo C target (.tup i na) body orelse σ Q
  | 0, na, σ, e, hle, hi => by
    obtain ⟨f, hf⟩ := hst _ _ hi
    exact Fo.fin ⟨f, xs, hf, by lia⟩ (hend σ ((by lia : na = xs.length) ▸ hi))
  | m + 1, na, σ, e, hle, hi => by
    obtain ⟨f, hf⟩ := hst _ _ hi
    have hlt : na < xs.length := by lia
    refine Fo.step (p := xs[na]) ⟨rfl, f, xs, hf, List.getElem?_eq_getElem hlt⟩ (Asn.mono (hstep na _ σ (List.getElem?_eq_getElem hlt) hi) fun σ1 h1 => Xs.loop h1 fun σ2 h2 => ?_)
    exact Fo.tup hst hstep hend m (na + 1) σ2 (by lia) (by lia) h2
/-- while, by an invariant and a measure -/
theorem Wh.ind {A : Type} {test : Expr} {body orelse : List Stmt} {Q} (I : A → AS → Prop) (μ : A → Nat)
    (step : ∀ a σ, I a σ → Tr C test σ fun c σ1 => (c = true → Xs C body σ1 (loopEnd (fun σ2 => ∃ a', μ a' < μ a ∧ I a' σ2) Q)) ∧ (c = false → Xs C orelse σ1 Q)) : ∀ (n : Nat) (a : A) (σ : AS), μ a < n → I a σ → Wh C test body orelse σ Q
  | 0, _, _, h, _ => absurd h (Nat.not_lt_zero _)
  | n + 1, a, σ, h, hi => by
    refine Wh.step (Tr.mono (step a σ hi) fun c σ1 hc => ⟨fun e => Xs.loop (hc.1 e) fun σ2 ⟨a', h1, h2⟩ => ?_, hc.2⟩)
    exact Wh.ind I μ step n a' σ2 (by lia) h2
theorem X1.whileI {A : Type} {test : Expr} {body orelse : List Stmt} {Q} (I : A → AS → Prop) (μ : A → Nat) (a : A) (h0 : I a σ)
    (step : ∀ a σ, I a σ → Tr C test σ fun c σ1 => (c = true → Xs C body σ1 (loopEnd (fun σ2 => ∃ a', μ a' < μ a ∧ I a' σ2) Q)) ∧ (c = false → Xs C orelse σ1 Q)) : X1 C (.While test body orelse pos) σ Q :=
  X1.while (Wh.ind I μ step _ a σ (Nat.lt_succ_self _) h0)
/-- lists by a function -/
noncomputable def mk (n : Nat) (f : Nat → PV) : List PV := (List.range n).map f
theorem mk_length {n : Nat} {f : Nat → PV} : (mk n f).length = n := by simp [mk]
theorem mk_get {n j : Nat} {f : Nat → PV} (h : j < n) : (mk n f)[j]? = some (f j) := by simp [mk, h]
theorem Sub.listF {x : Str} {np : Pos} {slice : Expr} {i n : Nat} {f : Bool} {g : Nat → PV} {j : Int} {Q} (hi : σ.hp[i]? = some (.list f (mk n g))) (hj : 0 ≤ j ∧ j < n ∧ n < 1000000) (h : Q (g j.toNat) σ)
    (hs : ∀ l k u, subscripted slice false (.ref l) (.int k u) = operate [.ref l, .int k u] (getItem (.ref l) (.int k u)) := by intro _ _ _; with_unfolding_all rfl) : Sub C (.Name x np) slice (.ref i) (.int j) σ Q := by
  refine Sub.list hi (by omega) ⟨by omega, by rw [mk_length]; exact hj.2.1⟩ ?_ h hs
  unfold idx
  rw [if_pos hj.1]
  exact mk_get (by omega)
theorem Sub.listN {x : Str} {np : Pos} {slice : Expr} {i : Nat} {f : Bool} {xs : List PV} {j : Nat} {p : PV} {Q} (hi : σ.hp[i]? = some (.list f xs)) (hj : j < 1000000) (hx : xs[j]? = some p) (h : Q p σ)
    (hs : ∀ l k u, subscripted slice false (.ref l) (.int k u) = operate [.ref l, .int k u] (getItem (.ref l) (.int k u)) := by intro _ _ _; with_unfolding_all rfl) : Sub C (.Name x np) slice (.ref i) (.int j) σ Q := by
  have := get_lt hx
  exact Sub.list hi (by lia) ⟨by lia, by lia⟩ (by unfold idx; rw [if_pos (by lia)]; exact hx) h hs
end
end Mine
set_option maxHeartbeats 4000000
namespace Mine
local macro_rules | `(tactic| walk_at $s:str) => wAt s.getString
theorem mem3 : recAt 3 ∈ recsOf PySem.Challenge.pw_rt0035_01 := List.mem_of_getElem? (i := 3) (by rfl)
theorem nm3 : (recAt 3).name = Str.ofString "S_IMODE" := by rfl
theorem ok3 : DefOk (recAt 3) ["mode"] := ⟨fun _ _ _ => one_of fun _ => rfl, by decide, by decide, by decide, by decide, by decide, trivial⟩
theorem mem4 : recAt 4 ∈ recsOf PySem.Challenge.pw_rt0035_01 := List.mem_of_getElem? (i := 4) (by rfl)
theorem nm4 : (recAt 4).name = Str.ofString "S_IFMT" := by rfl
theorem ok4 : DefOk (recAt 4) ["mode"] := ⟨fun _ _ _ => one_of fun _ => rfl, by decide, by decide, by decide, by decide, by decide, trivial⟩
theorem mem6 : recAt 6 ∈ recsOf PySem.Challenge.pw_rt0035_01 := List.mem_of_getElem? (i := 6) (by rfl)
theorem nm6 : (recAt 6).name = Str.ofString "_substitution_cost" := by rfl
theorem ok6 : DefOk (recAt 6) ["ch_a", "ch_b"] := ⟨fun _ _ _ => two_of fun _ _ => rfl, by decide, by decide, by decide, by decide, by decide, trivial⟩
theorem mem8 : recAt 8 ∈ recsOf PySem.Challenge.pw_rt0035_01 := List.mem_of_getElem? (i := 8) (by rfl)
theorem nm8 : (recAt 8).name = Str.ofString "_law_figures" := by rfl
theorem ok8 : DefOk (recAt 8) ["mode"] := ⟨fun _ _ _ => one_of fun _ => rfl, by decide, by decide, by decide, by decide, by decide, trivial⟩
theorem mem9 : recAt 9 ∈ recsOf PySem.Challenge.pw_rt0035_01 := List.mem_of_getElem? (i := 9) (by rfl)
theorem nm9 : (recAt 9).name = Str.ofString "_law_codes" := by rfl
theorem ok9 : DefOk (recAt 9) ["mode"] := ⟨fun _ _ _ => one_of fun _ => rfl, by decide, by decide, by decide, by decide, by decide, trivial⟩
theorem mem11 : recAt 11 ∈ recsOf PySem.Challenge.pw_rt0035_01 := List.mem_of_getElem? (i := 11) (by rfl)
theorem nm11 : (recAt 11).name = Str.ofString "_law_cost" := by rfl
theorem ok11 : DefOk (recAt 11) ["code", "other"] := ⟨fun _ _ _ => two_of fun _ _ => rfl, by decide, by decide, by decide, by decide, by decide, trivial⟩
theorem mem12 : recAt 12 ∈ recsOf PySem.Challenge.pw_rt0035_01 := List.mem_of_getElem? (i := 12) (by rfl)
theorem nm12 : (recAt 12).name = Str.ofString "_law_due" := by rfl
theorem ok12 : DefOk (recAt 12) ["six", "three"] := ⟨fun _ _ _ => two_of fun _ _ => rfl, by decide, by decide, by decide, by decide, by decide, trivial⟩
theorem mem13 : recAt 13 ∈ recsOf PySem.Challenge.pw_rt0035_01 := List.mem_of_getElem? (i := 13) (by rfl)
theorem nm13 : (recAt 13).name = Str.ofString "_law_fits" := by rfl
theorem ok13 : DefOk (recAt 13) ["run", "piece"] := ⟨fun _ _ _ => two_of fun _ _ => rfl, by decide, by decide, by decide, by decide, by decide, trivial⟩
theorem f_imode {S lv hp a K} (h : K (.int (Builtin.bitAnd a 4095)) []) : Fn S lv (recAt 3) ["mode"] [.int a] hp K := by
  intro C hS hsc hlv hcells hcode
  subst hS
  conv => enter [2]; whnf
  rw [← hsc]
  conv at hsc => rhs; whnf
  rw [hsc]
  generalize hσ : (AS.mk _ _ _ : AS) = σ
  have h1 : σ.loc "mode" = some (.int a) := by rw [← hσ]; rfl
  have hh : σ.hp = hp := by rw [← hσ]
  clear hσ
  have he : Ext hp σ.hp := by rw [hh]; exact Ext.refl
  repeat' walk_at "s"
  exact h
theorem f_ifmt {S lv hp a K} (h : K (.int (Builtin.bitAnd a 61440)) []) : Fn S lv (recAt 4) ["mode"] [.int a] hp K := by
  intro C hS hsc hlv hcells hcode
  subst hS
  conv => enter [2]; whnf
  rw [← hsc]
  conv at hsc => rhs; whnf
  rw [hsc]
  generalize hσ : (AS.mk _ _ _ : AS) = σ
  have h1 : σ.loc "mode" = some (.int a) := by rw [← hσ]; rfl
  have hh : σ.hp = hp := by rw [← hσ]
  clear hσ
  have he : Ext hp σ.hp := by rw [hh]; exact Ext.refl
  repeat' walk_at "s"
  exact h
noncomputable def cost (a b : Int) : Int := if a = b then 0 else if a > 7 ∧ a.fdiv 2 = b.fdiv 2 then 1 else 2
theorem f_cost {S lv hp a b K} (h : K (.int (cost a b)) []) : Fn S lv (recAt 11) ["code", "other"] [.int a, .int b] hp K := by
  intro C hS hsc hlv hcells hcode
  subst hS
  conv => enter [2]; whnf
  rw [← hsc]
  conv at hsc => rhs; whnf
  rw [hsc]
  generalize hσ : (AS.mk _ _ _ : AS) = σ
  have h1 : σ.loc "code" = some (.int a) := by rw [← hσ]; rfl
  have h2 : σ.loc "other" = some (.int b) := by rw [← hσ]; rfl
  have hh : σ.hp = hp := by rw [← hσ]
  clear hσ
  have he : Ext hp σ.hp := by rw [hh]; exact Ext.refl
  unfold cost at h
  repeat' walk_at "s"
  · rename_i e; simp only [beq_iff_eq] at e; rw [if_pos e] at h; exact h
  · rename_i e1 e2; simp only [beq_eq_false_iff_ne, decide_eq_false_iff_not] at e1 e2; rw [if_neg e1, if_neg (fun q => e2 q.1)] at h; exact h
  · rename_i e1 e2 e3; simp only [beq_eq_false_iff_ne, decide_eq_true_iff] at e1 e2 e3; rw [if_neg e1, if_neg (fun q => e3 q.2)] at h; exact h
  · rename_i e1 e2 e3; simp only [beq_eq_false_iff_ne, decide_eq_true_iff, beq_iff_eq] at e1 e2 e3; rw [if_neg e1, if_pos ⟨e2, e3⟩] at h; exact h
/-- what two words cost -/
noncomputable def wcost (a b : Str) : Int := if a = b then 0 else if Txt.lower a = Txt.lower b then 1 else 2
theorem f_sub {S lv hp a b K} (hO : Ok S) (ha : Builtin.Str.tooLong (Txt.lower a).length = false) (hb : Builtin.Str.tooLong (Txt.lower b).length = false) (h : K (.int (wcost a b)) []) : Fn S lv (recAt 6) ["ch_a", "ch_b"] [.str a, .str b] hp K := by
  intro C hS hsc hlv hcells hcode
  subst hS
  conv => enter [2]; whnf
  rw [← hsc]
  conv at hsc => rhs; whnf
  rw [hsc]
  generalize hσ : (AS.mk _ _ _ : AS) = σ
  have h1 : σ.loc "ch_a" = some (.str a) := by rw [← hσ]; rfl
  have h2 : σ.loc "ch_b" = some (.str b) := by rw [← hσ]; rfl
  have hh : σ.hp = hp := by rw [← hσ]
  clear hσ
  have he : Ext hp σ.hp := by rw [hh]; exact Ext.refl
  unfold wcost at h
  repeat' walk_at "s"
  · rename_i e; simp only [beq_iff_eq] at e; rw [if_pos e] at h; exact h
  · refine ⟨a, rfl, ha, ?_⟩
    repeat' walk_at "s"
    refine ⟨b, rfl, hb, ?_⟩
    repeat' walk_at "s"
    · rename_i e1 e2; simp only [beq_iff_eq, beq_eq_false_iff_ne] at e1 e2; rw [if_neg e1, if_pos e2] at h; exact h
    · rename_i e1 e2; simp only [beq_eq_false_iff_ne] at e1 e2; rw [if_neg e1, if_neg e2] at h; exact h
end Mine
set_option maxHeartbeats 4000000
namespace Mine
local macro_rules | `(tactic| walk_at $s:str) => wAt s.getString
local macro_rules | `(tactic| walk_at $s:str) => wMore s.getString ["11"] [("11", "f_cost _")] ""
noncomputable def foldR (a b : Nat) (f : Nat → Int → Int) (x : Int) : Int := (List.range' a (b - a)).foldl (fun x j => f j x) x
theorem foldR_self {a f x} : foldR a a f x = x := by simp [foldR]
theorem foldR_succ {a j f x} (h : a ≤ j) : foldR a (j + 1) f x = f j (foldR a j f x) := by
  unfold foldR
  rw [show j + 1 - a = (j - a) + 1 from by lia, List.range'_concat, List.foldl_append]
  simp; congr 1; lia
noncomputable def dueK (s t : Nat → Int) (i j k : Nat) : Int := cost (s i) (t 0) + cost (s j) (t 1) + cost (s k) (t 2)
noncomputable def dueF3 (s t : Nat → Int) (i j : Nat) : Nat → Int → Int := fun k b => min b (dueK s t i j k)
noncomputable def dueF2 (s t : Nat → Int) (i : Nat) : Nat → Int → Int := fun j b => foldR (j + 1) 6 (dueF3 s t i j) b
noncomputable def dueF1 (s t : Nat → Int) : Nat → Int → Int := fun i b => foldR (i + 1) 5 (dueF2 s t i) b
noncomputable def due (s t : Nat → Int) : Int := foldR 0 4 (dueF1 s t) 3
structure DueB (hp : List AO) (r6 r3 : Nat) (b : Int) (σ : AS) : Prop where
  six : σ.loc "six" = some (.ref r6)
  three : σ.loc "three" = some (.ref r3)
  best : σ.loc "best" = some (.int b)
  ext : Ext hp σ.hp
theorem f_due {S lv hp r6 r3 f6 f3 s t K} (hO : Ok S) (h6 : hp[r6]? = some (.list f6 (mk 6 fun m => .int (s m)))) (h3 : hp[r3]? = some (.list f3 (mk 3 fun m => .int (t m)))) (h : K (.int (due s t)) []) :
    Fn S (lv + 1) (recAt 12) ["six", "three"] [.ref r6, .ref r3] hp K := by
  intro C hS hsc hlv hcells hcode
  subst hS
  conv => enter [2]; whnf
  rw [← hsc]
  conv at hsc => rhs; whnf
  rw [hsc]
  generalize hσ : (AS.mk _ _ _ : AS) = σ
  have h1 : σ.loc "six" = some (.ref r6) := by rw [← hσ]; rfl
  have h2 : σ.loc "three" = some (.ref r3) := by rw [← hσ]; rfl
  have hh : σ.hp = hp := by rw [← hσ]
  clear hσ
  have he : Ext hp σ.hp := by rw [hh]; exact Ext.refl
  repeat' walk_at "s"
  refine X1.forR (fun i σ => DueB hp r6 r3 (foldR 0 i (dueF1 s t) 3) σ) 0 4 (by decide) (by decide) ?_ ?_ ?_
  · repeat' walk_at "s"
    exact ⟨_, rfl, getNew, by walk_at "lk", by walk_at "lk", by walk_at "lk", he.app⟩
  · intro i σ _ hi ⟨b1, b2, b3, b4⟩
    repeat' walk_at "s"
    refine X1.forR (fun j σ => DueB hp r6 r3 (foldR (i + 1) j (dueF2 s t i) (foldR 0 i (dueF1 s t) 3)) σ ∧ σ.loc "i" = some (.int i)) (i + 1) 5 (by omega) (by decide) ?_ ?_ ?_
    · repeat' walk_at "s"
      exact ⟨_, rfl, getNew, ⟨by walk_at "lk", by walk_at "lk", by rw [foldR_self]; walk_at "lk", b4.app⟩, by walk_at "lk"⟩
    · intro j σ _ hj ⟨⟨b1, b2, b3, b4⟩, b5⟩
      repeat' walk_at "s"
      refine X1.forR (fun k σ => DueB hp r6 r3 (foldR (j + 1) k (dueF3 s t i j) (foldR (i + 1) j (dueF2 s t i) (foldR 0 i (dueF1 s t) 3))) σ ∧ σ.loc "i" = some (.int i) ∧ σ.loc "j" = some (.int j)) (j + 1) 6 (by omega) (by decide) ?_ ?_ ?_
      · repeat' walk_at "s"
        exact ⟨_, rfl, getNew, ⟨by walk_at "lk", by walk_at "lk", by rw [foldR_self]; walk_at "lk", b4.app⟩, by walk_at "lk", by walk_at "lk"⟩
      · intro k σ _ hk ⟨⟨b1, b2, b3, b4⟩, b5, b6⟩
        repeat' walk_at "s"
        repeat' walk_at "s"
        refine ⟨⟨by walk_at "lk", by walk_at "lk", ?_, ((b4.apps).apps).apps⟩, by walk_at "lk", by walk_at "lk"⟩
        rw [foldR_succ (by omega)]
        show _ = some (PV.int (min _ _))
        with_unfolding_all rfl
      · intro σ ⟨⟨b1, b2, b3, b4⟩, b5, b6⟩
        repeat' walk_at "s"
        refine ⟨⟨b1, b2, ?_, b4⟩, b5⟩
        rw [foldR_succ (by omega)]
        exact b3
    · intro σ ⟨⟨b1, b2, b3, b4⟩, b5⟩
      repeat' walk_at "s"
      refine ⟨b1, b2, ?_, b4⟩
      rw [foldR_succ (by omega)]
      exact b3
  · intro σ ⟨b1, b2, b3, b4⟩
    repeat' walk_at "s"
    exact h
end Mine
set_option maxHeartbeats 4000000
namespace Mine
section
variable {C : Cx} {pro : Pro} {σ : AS} {α : List Addr} {s : Shared}
/-- nothing that is written down stands there -/
structure Untr (C : Cx) (pro : Pro) (α : List Addr) (a : Addr) : Prop where
  al : a ∉ α
  pr : pro a = none
  fz : C.fzo a = none
  bp : C.bpro a = none
  lo : a ≠ C.env.locals
  tp : a ≠ C.tp
  ce : ∀ x c, C.env.cells.lookup x = some c → a ≠ c
theorem Rel.untr_new (r : Rel C pro σ α s) {a : Addr} (e : s.heap.get? a = none) : Untr C pro α a :=
  ⟨r.new_notin e, r.new_none e, r.new_noneF e, r.new_noneB e, r.new_ne_L e, r.new_ne_tp e, fun _ _ h => r.new_ne_cel e h⟩
theorem Rel.guard (r : Rel C pro σ α s) {a : Addr} {o : Obj} (u : Untr C pro α a) (ha : s.heap.get? a = some o) : Rel C (hid pro a o) σ α s := by
  refine ⟨r.tk, fun b ob e => ?_, r.sh, fun b ob e => ?_, r.stat, r.len, r.nodup, r.live, r.keepF, fun b ob e => ?_, fun b hb => ?_, r.freeF, r.nL, ⟨?_, r.pL.2⟩, r.ns, r.objs, fun x c e => ?_, r.cinj, ?_⟩
  · rw [hid_ne (ne_of_none u.bp e)]; exact r.sub b ob e
  · by_cases h : b = a
    · subst h; rw [hid_self] at e; cases e; exact ha
    · rw [hid_ne h] at e; exact r.keep b ob e
  · by_cases h : b = a
    · rw [h]; exact u.fz
    · rw [hid_ne h] at e; exact r.pf b ob e
  · rw [hid_ne (fun (h : b = a) => u.al (h ▸ hb))]; exact r.free b hb
  · rw [hid_ne (Ne.symm u.lo)]; exact r.pL.1
  · obtain ⟨a1, a2, a3, a4, q⟩ := r.cel x c e
    exact ⟨a1, a2, a3, ⟨by rw [hid_ne (Ne.symm (u.ce x c e))]; exact a4.1, a4.2⟩, q⟩
  · obtain ⟨a1, a2, a3, q⟩ := r.tab
    exact ⟨a1, a2, ⟨by rw [hid_ne (Ne.symm u.tp)]; exact a3.1, a3.2⟩, q⟩
theorem Rel.adopt (r : Rel C pro σ α s) {a : Addr} {o : AO} (u : Untr C pro α a) (ha : ∃ o, s.heap.get? a = some o) (ho : OAt C.mg (α ++ [a]) s.heap a o) : Rel C pro { σ with hp := σ.hp ++ [o] } (α ++ [a]) s := by
  have hpre : α <+: α ++ [a] := List.prefix_append _ _
  refine ⟨r.tk, r.sub, r.sh, r.keep, r.stat.trans hpre, by simp [r.len], ?_, ?_, r.keepF, r.pf, ?_, ?_, ?_, r.pL, ?_, ?_, ?_, r.cinj, ?_⟩
  · rw [List.nodup_append]
    refine ⟨r.nodup, by simp, fun x hx y hy => ?_⟩
    simp at hy; subst hy
    rintro rfl; exact u.al hx
  · intro b hb
    rcases List.mem_append.mp hb with hb | hb
    · exact r.live b hb
    · simp at hb; subst hb; exact ha
  · intro b hb
    rcases List.mem_append.mp hb with hb | hb
    · exact r.free b hb
    · simp at hb; subst hb; exact u.pr
  · intro i b o' e1 e2 hf
    by_cases hi : i < α.length
    · rw [List.getElem?_append_left hi] at e1
      rw [List.getElem?_append_left (by rw [← r.len]; exact hi)] at e2
      exact r.freeF i b o' e1 e2 hf
    · have : b = a := by
        rw [List.getElem?_append_right (Nat.le_of_not_lt hi)] at e1
        rcases q : i - α.length with _ | n
        · rw [q] at e1; simp at e1; exact e1.symm
        · rw [q] at e1; simp at e1
      subst this; exact u.fz
  · intro h
    rcases List.mem_append.mp h with h | h
    · exact r.nL h
    · simp at h; exact u.lo h.symm
  · obtain ⟨m, hns, hm⟩ := r.ns
    exact ⟨m, hns, fun x pv e => let ⟨v, e1, e2⟩ := hm x pv e; ⟨v, e1, e2.mono hpre⟩⟩
  · intro i o' b e1 e2
    by_cases hi : i < α.length
    · rw [List.getElem?_append_left hi] at e2
      rw [List.getElem?_append_left (by rw [← r.len]; exact hi)] at e1
      exact (r.objs i o' b e1 e2).mono hpre fun _ e => e
    · have hi' := Nat.le_of_not_lt hi
      rw [List.getElem?_append_right hi'] at e2
      rw [List.getElem?_append_right (by rw [← r.len]; exact hi'), ← r.len] at e1
      rcases q : i - α.length with _ | n
      · rw [q] at e1 e2; simp at e1 e2; subst e1 e2; exact ho
      · rw [q] at e2; simp at e2
  · intro x c e
    obtain ⟨a1, a2, a3, a4, v, hv, q⟩ := r.cel x c e
    refine ⟨fun h => ?_, a2, a3, a4, v, hv, fun pv e => let ⟨u, e1, e2⟩ := q pv e; ⟨u, e1, e2.mono hpre⟩⟩
    rcases List.mem_append.mp h with h | h
    · exact a1 h
    · simp at h; exact u.ce x c e h.symm
  · obtain ⟨a1, a2, a3, ps, e, t⟩ := r.tab
    refine ⟨fun h => ?_, a2, a3, ps, e, t⟩
    rcases List.mem_append.mp h with h | h
    · exact a1 h
    · simp at h; exact u.tp h.symm
theorem iter_new {p : PV} {v : Value} {it : It} {Q : Value → Shared → Prop} {E : Value → Shared → Prop} (r : Rel C pro σ α s) (hv : VRel C.mg α p v) (hi : It.of σ p it)
    (h : ∀ I o h', s.heap.get? I = none → (∀ b o, s.heap.get? b = some o → h'.get? b = some o) → h'.get? I = some o → ItAt α o it → Q (.ref I) { s with heap := h' }) : wpAny (model C.prog C.w) C.A (pyIter v) Q E s := by
  cases p <;> first | exact hi.elim | skip
  rename_i i
  obtain ⟨a, ea, rfl⟩ := hv
  rcases hi with ⟨f, xs, hl, rfl⟩ | ⟨f, xs, hl, rfl⟩ | ⟨x, y, z, hl, hs, rfl⟩
  · obtain ⟨vs, hL, hV, _⟩ := r.objs i _ a hl ea
    exact wpAny_pyIter_list hL (h _ _ _ get_size_none push_keep (Heap.get?_push_size _ rfl) ⟨a, ea, rfl, rfl⟩)
  · obtain ⟨vs, hL, hV⟩ := r.objs i _ a hl ea
    exact wpAny_pyIter_tuple hL (h _ _ _ get_size_none push_keep (Heap.get?_push_size _ rfl) ⟨a, ea, rfl, rfl⟩)
  · obtain ⟨t, u, w, hR⟩ := r.objs i _ a hl ea
    exact wpAny_pyIter_range hR hs (h _ _ _ get_size_none push_keep (Heap.get?_push_size _ rfl) rfl)
end
/-- a comprehension's loop -/
noncomputable def Lc (C : Cx) (elt : Expr) (x : Str) (px : Pos) (iter : Expr) (ifs : List Expr) (scope : Scope) (pos : Pos) (acc : Nat) (it : It) (σ : AS) (Q : AS → Prop) : Prop := ∀ pro α s I o a, C.bpro I = none → pro I = none → ItAt α o it → α[acc]? = some a → Rel C (hid pro I o) σ α s → ∀ R : Result → Shared → Prop,
  (∀ σ' α' s', Q σ' → α <+: α' → Rel C pro σ' α' s' → R (.ok .next) s') → codeAny (model C.prog C.w) C.A (.compLoop (.ListComp elt [⟨.Name x px, iter, ifs, 0⟩] scope pos) 0 (.ref I) (.ref a) C.env) R s
section
variable {C : Cx} {σ : AS} {pos : Pos} {k : Nat} {elt iter : Expr} {x : Str} {px : Pos} {scope : Scope} {acc : Nat} {it it' : It} {Q : AS → Prop}
theorem Lc.fin {ifs : List Expr} (hn : It.fin σ it) (h : Q σ) : Lc C elt x px iter ifs scope pos acc it σ Q := by
  intro pro α s I o a hB hp hi ha r R kk
  refine codeAny_of_tree ?_
  show wpAny _ C.A ((compTurn (.ListComp elt [⟨.Name x px, iter, ifs, 0⟩] scope pos) 0 (.ref I) (.ref a) C.env).onRaise (fun x => do noteFrame x C.env; theTreesLotGoes x)) _ _ s
  refine wpAny_noted ?_
  rw [compTurn_list]
  refine wpAny_bind (wpAny_standAt (wpAny_bind (iter_end hB hp r hi hn fun h' tk r' => ?_)))
  exact wpAny_pure (kk σ α _ h (List.prefix_refl _) r')
theorem Lc.step0 {p : PV} (hn : It.nx σ it p it') (h : Sto C x p σ fun σ1 => Ev C elt σ1 fun q σ2 => ∃ xs, σ2.hp[acc]? = some (.list false xs) ∧ xs.length < 1000000 ∧ Lc C elt x px iter [] scope pos acc it' { σ2 with hp := σ2.hp.set acc (.list false (xs ++ [q])) } Q) :
    Lc C elt x px iter [] scope pos acc it σ Q := by
  intro pro α s I o a hB hp hi ha r R kk
  refine codeAny_of_tree ?_
  show wpAny _ C.A ((compTurn (.ListComp elt [⟨.Name x px, iter, [], 0⟩] scope pos) 0 (.ref I) (.ref a) C.env).onRaise (fun x => do noteFrame x C.env; theTreesLotGoes x)) _ _ s
  refine wpAny_noted ?_
  rw [compTurn_list]
  refine wpAny_bind (wpAny_standAt (wpAny_bind (iter_next hB r hi hn fun v o' h' tk hv hi' r' => ?_)))
  refine wpAny_bind (letOwned_iter r' hi' ?_)
  refine wpAny_bind (Asn.name (pos := px) h _ α _ v r' hv _ _ fun _ σ1 α1 s1 _ h1 p1 r1 _ => ?_)
  refine wpAny_bind (wpAny_tests_nil ?_)
  simp only [if_true]
  refine wpAny_bind (wpAny_bind (h1 _ α1 s1 r1 _ _ fun q σ2 α2 s2 u h2 p2 r2 v2 => ?_))
  obtain ⟨xs, hx, hl, h2⟩ := h2
  have ha2 : α2[acc]? = some a := pre_get (p1.trans p2) ha
  refine wpAny_bind (At.app (p := q) (Q := fun _ σ3 => σ3 = { σ2 with hp := σ2.hp.set acc (.list false (xs ++ [q])) }) r2 hx ha2 v2 hl rfl _ _ fun g σ3 α3 s3 b h3 p3 r3 _ => ?_)
  subst h3
  exact wpAny_pure (wpAny_pure ⟨rfl, h2 pro α3 s3 I o' a hB hp (hi'.mono ((p1.trans p2).trans p3)) (pre_get p3 ha2) r3 R fun σ' α' s' hq p4 r4 => kk σ' α' s' hq (((p1.trans p2).trans p3).trans p4) r4⟩)
theorem Lc.step1 {p : PV} {c : Expr} (hn : It.nx σ it p it') (h : Sto C x p σ fun σ1 => Tr C c σ1 fun b σ1' => (b = false → Lc C elt x px iter [c] scope pos acc it' σ1' Q) ∧
      (b = true → Ev C elt σ1' fun q σ2 => ∃ xs, σ2.hp[acc]? = some (.list false xs) ∧ xs.length < 1000000 ∧ Lc C elt x px iter [c] scope pos acc it' { σ2 with hp := σ2.hp.set acc (.list false (xs ++ [q])) } Q)) :
    Lc C elt x px iter [c] scope pos acc it σ Q := by
  intro pro α s I o a hB hp hi ha r R kk
  refine codeAny_of_tree ?_
  show wpAny _ C.A ((compTurn (.ListComp elt [⟨.Name x px, iter, [c], 0⟩] scope pos) 0 (.ref I) (.ref a) C.env).onRaise (fun x => do noteFrame x C.env; theTreesLotGoes x)) _ _ s
  refine wpAny_noted ?_
  rw [compTurn_list]
  refine wpAny_bind (wpAny_standAt (wpAny_bind (iter_next hB r hi hn fun v o' h' tk hv hi' r' => ?_)))
  refine wpAny_bind (letOwned_iter r' hi' ?_)
  refine wpAny_bind (Asn.name (pos := px) h _ α _ v r' hv _ _ fun _ σ1 α1 s1 _ h1 p1 r1 _ => ?_)
  refine wpAny_bind (wpAny_tests_one (h1 _ α1 s1 r1 _ _ fun b σ1' α1' s1' b' h1' p1' r1' e1 => ?_))
  subst e1
  cases b' with
  | false => exact wpAny_pure ⟨rfl, h1'.1 rfl pro α1' s1' I o' a hB hp (hi'.mono (p1.trans p1')) (pre_get (p1.trans p1') ha) r1' R fun σ' α' s' hq p4 r4 => kk σ' α' s' hq ((p1.trans p1').trans p4) r4⟩
  | true =>
    simp only [if_true]
    refine wpAny_bind (wpAny_bind (h1'.2 rfl _ α1' s1' r1' _ _ fun q σ2 α2 s2 u h2 p2 r2 v2 => ?_))
    obtain ⟨xs, hx, hl, h2⟩ := h2
    have ha2 : α2[acc]? = some a := pre_get ((p1.trans p1').trans p2) ha
    refine wpAny_bind (At.app (p := q) (Q := fun _ σ3 => σ3 = { σ2 with hp := σ2.hp.set acc (.list false (xs ++ [q])) }) r2 hx ha2 v2 hl rfl _ _ fun g σ3 α3 s3 b h3 p3 r3 _ => ?_)
    subst h3
    exact wpAny_pure (wpAny_pure ⟨rfl, h2 pro α3 s3 I o' a hB hp (hi'.mono (((p1.trans p1').trans p2).trans p3)) (pre_get p3 ha2) r3 R fun σ' α' s' hq p4 r4 => kk σ' α' s' hq ((((p1.trans p1').trans p2).trans p3).trans p4) r4⟩)
end
section
variable {C : Cx} {σ : AS} {pos : Pos} {k : Nat} {elt iter : Expr} {x : Str} {px : Pos} {scope : Scope} {ifs : List Expr} {cl : List (Str × Addr)}
/-- what the body of a comprehension does, in the comprehension's own frame -/
noncomputable def Cb (C : Cx) (elt : Expr) (x : Str) (px : Pos) (iter : Expr) (ifs : List Expr) (scope : Scope) (pos : Pos) (cl : List (Str × Addr)) (it : It) (σ : AS) (Q : List AO → Prop) : Prop :=
  ∀ Cc : Cx, Cc.toSx = C.toSx → Cc.A = C.A → Cc.env.scope = relabel scope C.env → Cc.env.cells = cl → Cc.lv = C.lv →
    Lc Cc elt x px iter ifs scope pos σ.hp.length it ⟨fun _ => none, σ.cel, σ.hp ++ [.list false []]⟩ fun σ2 => σ2.cel = σ.cel ∧ Q σ2.hp
theorem comp_core {pro : Pro} {α : List Addr} {s : Shared} {p : PV} {v : Value} {it : It} {E : Value → Shared → Prop} {Q : List AO → Prop} {R : Value → Addr → Result → Shared → Prop} (r : Rel C pro σ α s) (hv : VRel C.mg α p v) (hi : It.of σ p it)
    (hcl : ∀ y c, (y, c) ∈ cl → cl.lookup y = some c ∧ C.env.cells.lookup y = some c) (hcell : ∀ y ∈ scope.names, y.2 ≠ .cell) (hkind : scope.kind = .function)
    (h : Cb C elt x px iter ifs scope pos cl it σ Q)
    (hR : ∀ α' s' L o m a hp', Q hp' → α <+: α' → Rel C (hid pro L o) { σ with hp := hp' } α' s' → C.bpro L = none → pro L = none → α'[σ.hp.length]? = some a → s'.heap.Ns L m → R (.ref a) L (.ok .next) s') :
    wpAny (model C.prog C.w) C.A (pyIter v) (fun i s₂ => wpAny (model C.prog C.w) C.A (newList []) (fun acc s₃ => wpAny (model C.prog C.w) C.A (newFunctionEnv scope C.env.globals cl [] C.env.qual none .none (some C.env)) (fun cenv s₄ =>
      codeAny (model C.prog C.w) C.A (.compStart (.ListComp elt [⟨.Name x px, iter, ifs, 0⟩] scope pos) 0 i acc { cenv with scope := relabel scope C.env }) (R acc cenv.locals) s₄) E s₃) E s₂) E s := by
  refine iter_new r hv hi fun I o h1 hIn g1 hIo hIt => ?_
  refine wpAny_newObj_type (wpAny_newFunctionEnv hcell (by intro y hy; simp at hy) (fun h₁ hns₁ hsb₁ => ?_) hkind)
  dsimp only at hns₁ hsb₁ ⊢
  generalize hD : h1.objs.size = D at hns₁ hsb₁ ⊢
  have hDn : h1.get? D = none := by rw [← hD]; exact get_size_none
  generalize hH2 : h1.push { cls := .type "list", dict := none, data := .seq ([] : List Value).toArray } = H2 at hns₁ hsb₁ ⊢
  have g2 : ∀ b o, h1.get? b = some o → H2.get? b = some o := fun b o e => by rw [← hH2]; exact push_keep _ _ e
  have hDo : H2.get? D = some { cls := .type "list", dict := none, data := .seq ([] : List Value).toArray } := by rw [← hH2, ← hD]; exact Heap.get?_push_size _ rfl
  generalize hL : H2.objs.size = L at hns₁ hsb₁ ⊢
  have hLn : H2.get? L = none := by rw [← hL]; exact get_size_none
  have g3 : ∀ b o, H2.get? b = some o → h₁.get? b = some o := fun b o e => hsb₁.extBut b o (fun q => by rw [q, hLn] at e; cases e) (push_keep _ _ e)
  have g : ∀ b o, s.heap.get? b = some o → h₁.get? b = some o := fun b o e => g3 b o (g2 b o (g1 b o e))
  have none1 : ∀ b, h1.get? b = none → s.heap.get? b = none := fun b e => by
    cases q : s.heap.get? b with
    | none => rfl
    | some o => rw [g1 b o q] at e; cases e
  have none2 : ∀ b, H2.get? b = none → h1.get? b = none := fun b e => by
    cases q : h1.get? b with
    | none => rfl
    | some o => rw [g2 b o q] at e; cases e
  have sD := none1 D hDn
  have sL := none1 L (none2 L hLn)
  have hDI : D ≠ I := fun q => by rw [q, hIo] at hDn; cases hDn
  have hLD : L ≠ D := fun q => by rw [q, hDo] at hLn; cases hLn
  have hLI : L ≠ I := fun q => by have := none2 L hLn; rw [q, hIo] at this; cases this
  let Cc : Cx := { toSx := C.toSx, A := C.A, env := compEnvC scope cl L C.env, kind := by simp [compEnvC, relabel, hkind], glob := C.glob, bi := C.bi, hd := C.hd, lv := C.lv, room := C.room }
  have cs : ∀ b ∈ cl.map (·.2), ∃ o, s.heap.get? b = some o := fun b hb => by
    obtain ⟨⟨y, c⟩, hm, rfl⟩ := List.mem_map.mp hb
    obtain ⟨_, _, _, _, v, ⟨o, ho, _⟩, _⟩ := r.cel y c (hcl y c hm).2
    exact ⟨o, ho⟩
  have R1 : Rel Cc (calleePro C α s (cl.map (·.2))) ⟨fun _ => none, σ.cel, σ.hp⟩ α { s with heap := h₁, toks := s.toks + ([] : List (Str × Value)).length } := by
    refine ⟨r.tk, fun b o e => ?_, by rw [r.sh], fun b o e => g b o (callee_inv e).1, r.stat, r.len, r.nodup, fun b hb => let ⟨o, e⟩ := r.live b hb; ⟨o, g _ _ e⟩, fun b o e => g b o (r.keepF b o e), fun b o e => (callee_inv e).2.2.2.1,
      fun b hb => if_pos (.inl hb), r.freeF, r.new_notin sL, ⟨?_, r.new_noneF sL⟩, ⟨_, hns₁, fun _ _ e => by cases e⟩, fun i o b e1 e2 => (r.objs i o b e1 e2).mono (List.prefix_refl _) (g b), fun y c e => ?_, fun y z c e1 e2 => ?_, ?_⟩
    · have e1 := r.sub b o e
      refine callee_some (r.keep b o e1) (fun q => ?_) (fun q => ?_) (r.pf b o e1) (fun q => ?_)
      · have := r.free b q; rw [this] at e1; cases e1
      · have := r.tab.2.2.1.1; rw [← q, e1] at this; cases this
      · obtain ⟨⟨y, c⟩, hm, rfl⟩ := List.mem_map.mp q
        have := (r.cel y c (hcl y c hm).2).2.2.2.1.1; rw [this] at e1; cases e1
    · show calleePro C α s _ L = none
      unfold calleePro
      split
      · rfl
      · exact sL
    · have hm : (y, c) ∈ cl := mem_of_lookup e
      obtain ⟨a1, a2, a3, a4, v, hc, q⟩ := r.cel y c (hcl y c hm).2
      refine ⟨a1, fun q => ?_, a3, ⟨if_pos (.inr (.inr (.inr (List.mem_map_of_mem (f := (·.2)) hm)))), a4.2⟩, v, hc.keeps g, q⟩
      obtain ⟨o, ho, _⟩ := hc
      have q' : c = L := q
      rw [q', sL] at ho; cases ho
    · exact r.cinj y z c (hcl y c (mem_of_lookup e1)).2 (hcl z c (mem_of_lookup e2)).2
    · obtain ⟨b1, b2, b3, ps', e, t⟩ := r.tab
      exact ⟨b1, Ne.symm (r.new_ne_tp sL), ⟨if_pos (.inr (.inl rfl)), b3.2⟩, ps', g _ _ e, t⟩
  have untr : ∀ b, s.heap.get? b = none → b ≠ L → Untr Cc (calleePro C α s (cl.map (·.2))) α b := fun b hb hbL => by
    refine ⟨r.new_notin hb, ?_, r.new_noneF hb, r.new_noneB hb, hbL, r.new_ne_tp hb, fun y c e q => ?_⟩
    · unfold calleePro
      split
      · rfl
      · exact hb
    · obtain ⟨_, _, _, _, v, ⟨o, ho, _⟩, _⟩ := r.cel y c (hcl y c (mem_of_lookup e)).2
      rw [← q, hb] at ho; cases ho
  have sI := hIn
  have hD3 : h₁.get? D = some { cls := .type "list", dict := none, data := .seq ([] : List Value).toArray } := g3 _ _ hDo
  have R2 := R1.adopt (o := .list false []) (untr D sD (Ne.symm hLD)) ⟨_, hD3⟩ (OAt.newList (vs := []) (n := 0) hD3 .nil)
  have uI := untr I sI (Ne.symm hLI)
  have R3 := R2.guard (a := I) (o := o) ⟨fun q => by
    rcases List.mem_append.mp q with q | q
    · exact uI.al q
    · simp at q; exact hDI q.symm, uI.pr, uI.fz, uI.bp, uI.lo, uI.tp, uI.ce⟩ (g3 _ _ (g2 _ _ hIo))
  have key := h Cc rfl rfl rfl rfl rfl _ (α ++ [D]) _ I o D (r.new_noneB sI) uI.pr (hIt.mono (List.prefix_append _ _)) (by rw [← r.len]; simp) R3 (R (.ref D) L) fun σ2 α2 s2 hq pp r2 => ?_
  · exact codeAny_compStart_list key (iter_self (C := Cc) R3 (hIt.mono (List.prefix_append _ _)) key)
  · obtain ⟨hc2, hq⟩ := hq
    have pre : α <+: α2 := (List.prefix_append _ _).trans pp
    have B : Rel C pro { σ with hp := σ2.hp } α2 s2 := r.back (C' := Cc) r2 rfl pre (fun y c hm => ⟨(hcl y c hm).1, .inr ⟨(hcl y c hm).2, fun pv hpv => by rw [hc2]; exact hpv⟩⟩) pre r2.len r2.nodup (fun _ h => h) r2.objs r2.freeF (fun _ _ h _ => h)
    obtain ⟨m, hm, _⟩ := r2.ns
    obtain ⟨oL, es, ep, hLo, hrest⟩ := id hm
    have uL := r.untr_new sL
    have hLa : L ∉ α2 := r2.nL
    have hLo' : s2.heap.get? L = some oL := hLo
    refine hR α2 s2 L oL m D σ2.hp hq pre (B.guard ⟨hLa, uL.pr, uL.fz, uL.bp, uL.lo, uL.tp, uL.ce⟩ hLo') uL.bp uL.pr (pre_get pp (by rw [← r.len]; simp)) hm
theorem Ev.comp {Q : PV → AS → Prop} (hclos : closureFor scope C.env = pure cl) (hcl : ∀ y c, (y, c) ∈ cl → cl.lookup y = some c ∧ C.env.cells.lookup y = some c) (hcell : ∀ y ∈ scope.names, y.2 ≠ .cell) (hkind : scope.kind = .function)
    (hnames : ∀ y ∈ scope.names, y.2 = .local → scope.names.lookup y.1 = some .local)
    (h : Ev C iter σ fun p σ1 => ∃ it, It.of σ1 p it ∧ Cb C elt x px iter ifs scope pos cl it σ1 fun hp' => Q (.ref σ1.hp.length) { σ1 with hp := hp' }) (hs : ∀ x, foldedSetIterable iter C.env x = pure x := by intro _; rfl) :
    Ev C (.ListComp elt [⟨.Name x px, iter, ifs, 0⟩] scope pos) σ Q := by
  intro pro α s r Q' E kk
  rw [eval_ListComp]
  refine wpAny_comprehension_free (use := none) rfl hs hclos hkind hnames (h pro α s r _ _ fun p σ1 α1 s1 v h1 p1 r1 v1 => ?_)
  obtain ⟨it, hi, hb⟩ := h1
  refine comp_core (R := fun acc L => compPost (model C.prog C.w) C.A E none Q' acc L) r1 v1 hi hcl hcell hkind hb fun α' s' L o m a hp' hq pp r2 hB hp ha hm => ?_
  exact ⟨m, hm, fun h' hs' => kk _ _ α' _ _ hq (p1.trans pp) (r2.drop (tk := s'.toks) hB hp hs'.extBut (Nat.le_refl _)) ⟨a, ha, rfl⟩⟩
theorem X1.comp {y : Str} {py spos : Pos} {Q : AF → AS → Prop} (hsw : swapsWith (.ListComp elt [⟨.Name x px, iter, ifs, 0⟩] scope pos) (some (.Name y py)) spos.line C.env = pure true)
    (hclos : closureFor scope C.env = pure cl) (hcl : ∀ y c, (y, c) ∈ cl → cl.lookup y = some c ∧ C.env.cells.lookup y = some c) (hcell : ∀ y ∈ scope.names, y.2 ≠ .cell) (hkind : scope.kind = .function)
    (hnames : ∀ y ∈ scope.names, y.2 = .local → scope.names.lookup y.1 = some .local)
    (h : Ev C iter σ fun p σ1 => ∃ it, It.of σ1 p it ∧ Cb C elt x px iter ifs scope pos cl it σ1 fun hp' => Sto C y (.ref σ1.hp.length) { σ1 with hp := hp' } fun σ2 => Q .next σ2) (hs : ∀ x, foldedSetIterable iter C.env x = pure x := by intro _; rfl) :
    X1 C (.Assign [.Name y py] (.ListComp elt [⟨.Name x px, iter, ifs, 0⟩] scope pos) spos) σ Q := by
  intro pro α s r Q' E kk
  rw [exec_Assign_Name_used _ _ _ _ hsw]
  refine wpAny_bind (wpAny_standAt (wpAny_bind ?_))
  show wpAny _ C.A (do let _ ← comprehension (.ListComp elt [⟨.Name x px, iter, ifs, 0⟩] scope pos) scope C.env _ (newList []) false (eval iter C.env) (some (assign (.Name y py) C.env))) _ _ s
  refine wpAny_bind (wpAny_mono (wpAny_comprehension_free (use := some (assign (.Name y py) C.env)) (Q := fun _ s' => Q' .next s') rfl hs hclos hkind hnames
    (h pro α s r _ _ fun p σ1 α1 s1 v h1 p1 r1 v1 => ?_)) (fun _ s' hq => wpAny_pure (wpAny_pure hq)) fun _ _ e => e)
  obtain ⟨it, hi, hb⟩ := h1
  refine comp_core (R := fun acc L => compPost (model C.prog C.w) C.A E (some (assign (.Name y py) C.env)) (fun _ s' => Q' .next s') acc L) r1 v1 hi hcl hcell hkind hb fun α' s' L o m a hp' hq pp r2 hB hp ha hm => ?_
  show wpAny _ C.A (assign (.Name y py) C.env (.ref a)) _ _ _
  refine Asn.name (pos := py) hq _ α' s' (.ref a) r2 ⟨a, ha, rfl⟩ _ _ fun _ σ3 α3 s3 _ h3 p3 r3 _ => ?_
  obtain ⟨oL, es, ep, hLo, hrest⟩ := id hm
  have e1 := r2.keep L o hid_self
  rw [hLo] at e1; cases e1
  refine ⟨m, ⟨_, es, ep, r3.keep L _ hid_self, hrest⟩, fun h' hs' => kk _ _ α3 _ _ h3 ((p1.trans pp).trans p3) (r3.drop (tk := s3.toks) hB hp hs'.extBut (Nat.le_refl _)) rfl⟩
end
end Mine
set_option maxHeartbeats 4000000
namespace Mine
theorem lk_md_get : typeLookup (.type "method_descriptor") "__get__" = pure (some (.builtin "method_descriptor.__get__")) := by rw [typeLookup_type, builtinLookup_eq_fast]; kernel_rfl
theorem lk_md_set : typeLookup (.type "method_descriptor") "__set__" = pure none := by rw [typeLookup_type, builtinLookup_eq_fast]; kernel_rfl
theorem lk_md_del : typeLookup (.type "method_descriptor") "__delete__" = pure none := by rw [typeLookup_type, builtinLookup_eq_fast]; kernel_rfl
theorem slot_mdget : Slot "method_descriptor" "__get__" "method_descriptor.__get__" :=
  .of (owner := "method_descriptor") (n := "__get__") (by rw [typeLookup_type, builtinLookup_eq_fast]; kernel_rfl) (by decide +kernel) (by decide +kernel) (by decide +kernel)
    (by first | exact .inl (by decide +kernel) | exact .inr (by decide +kernel)) (by rw [isSubtype_type]; kernel_rfl)
theorem entry_mdget : entryFor table "method_descriptor.__get__" = some Builtin.«method_descriptor.__get__» := entryFor_of_tree (by kernel_rfl)
theorem args_mdget (a b c : Value) : argsOk "method_descriptor.__get__" ⟨[a, b, c], []⟩ := by unfold argsOk; kernel_rfl
theorem sub_list_list : isSubtype (.type "list") (.type "list") = pure true := by rw [isSubtype_type]; kernel_rfl
theorem run_mdget {prog : Program} {w : World} {A : Around} {E : Value → Shared → Prop} {s : Shared} {a : Addr} {vs : Array Value} {n : Nat} {P : Fin → Shared → Prop} (ho : s.heap.get? a = some { cls := .type "list", data := .seq vs n })
    (h : P (.done (.ret (.ref s.heap.objs.size))) { s with heap := s.heap.push (appObj a) }) :
    wpAny (model prog w) A (Builtin.«method_descriptor.__get__» ⟨[.builtin "list.append", .ref a, .type "list"], []⟩) P E s := by
  obtain ⟨hp, g, d, tk, os⟩ := s
  have hT : (⟨hp, g, d, tk, os⟩ : Shared).TypeIs (.ref a) "list" := ⟨_, ho, rfl⟩
  have f1 := sub_list_list
  unfold Builtin.«method_descriptor.__get__»
  refine wpAny_bind (wpAny_of_eq (a := (.builtin "list.append", some (.ref a), some (.type "list"))) (by first | rfl | kernel_rfl) ?_)
  have e : Manifest.toldItsClass.contains "list.append" = false := by decide +kernel
  simp only [e]
  rw [if_neg (by decide)]
  refine (wpAny_bind (α := PUnit) (wpAny_bind (α := Str × Value) (wpAny_of_eq (a := (Str.ofString "append", .type "list")) (by kernel_rfl) ?_)))
  refine wpAny_bind (wpAny_isInstance hT f1 ?_)
  refine wpAny_pure ?_
  exact wpAny_bind (wpAny_newObj_type (wpAny_pure h))
theorem run_getattr {prog : Program} {w : World} {A : Around} {E : Value → Shared → Prop} {s : Shared} {a : Addr} {vs : Array Value} {n : Nat} {u : Tok} {P : Fin → Shared → Prop} (ho : s.heap.get? a = some { cls := .type "list", data := .seq vs n })
    (h : P (.done (.ret (.ref s.heap.objs.size))) { s with heap := s.heap.push (appObj a) }) : wpAny (model prog w) A (Builtin.«object.__getattribute__» ⟨[.ref a, .str (Str.ofString "append") u], []⟩) P E s := by
  obtain ⟨hp, g, d, tk, os⟩ := s
  have hT : (⟨hp, g, d, tk, os⟩ : Shared).TypeIs (.ref a) "list" := ⟨_, ho, rfl⟩
  have f1 := slot_list_append.lookup
  have f2 := lk_md_get
  have f3 := lk_md_set
  have f4 := lk_md_del
  have f5 := type_list_append
  unfold Builtin.«object.__getattribute__»
  repeat (any_goals (first | assumption | ((with_reducible show wpAny _ _ (call (Value.builtin "method_descriptor.__get__") _ _) _ _ _); refine wpAny_call_entry slot_mdget f5 entry_mdget (run_mdget ho ?_) (args_mdget _ _ _)) | wp_step))
  exact ⟨_, rfl, wpAny_pure h⟩
theorem lk_list_getattr : typeLookup (.type "list") "__getattr__" = pure none := by rw [typeLookup_type, builtinLookup_eq_fast]; kernel_rfl
theorem entry_list_ga : entryFor table "list.__getattribute__" = some Builtin.«object.__getattribute__» :=
  entryFor_alias (id' := "object.__getattribute__") (by kernel_rfl) (by decide +kernel) (by decide +kernel) (by kernel_rfl)
theorem getAttr_append {prog : Program} {w : World} {A : Around} {E : Value → Shared → Prop} {s : Shared} {a : Addr} {vs : Array Value} {n : Nat} {Q : Value → Shared → Prop} (ho : s.heap.get? a = some { cls := .type "list", data := .seq vs n })
    (h : Q (.ref s.heap.objs.size) { s with heap := s.heap.push (appObj a), toks := s.toks + 1 }) : wpAny (model prog w) A (getAttr (.ref a) (Str.ofString "append") true) Q E s := by
  obtain ⟨hp, g, d, tk, os⟩ := s
  have hT : ∀ tk', (⟨hp, g, d, tk', os⟩ : Shared).TypeIs (.ref a) "list" := fun _ => ⟨_, ho, rfl⟩
  have f3 := F.slot_list_getattribute.lookup
  have f4 := F.slot_list_getattribute.bind (.ref a)
  have f5 := lk_list_getattr
  unfold getAttr getAttrBy
  repeat (any_goals (first | assumption | exact hT _ | ((with_reducible show wpAny _ _ (call (Value.builtin "list.__getattribute__") _ _) _ _ _); refine wpAny_call_entry F.slot_list_getattribute (hT _) entry_list_ga (run_getattr ho ?_) (F.args_list_getattribute_2 _ _)) | wp_step))
  exact ⟨_, rfl, wpAny_pure h⟩
theorem check_append {prog : Program} {w : World} {A : Around} {E : Value → Shared → Prop} {s : Shared} {a : Addr} {v : Value} {vs : Array Value} {n : Nat} {Q : Unit → Shared → Prop} (ho : s.heap.get? a = some { cls := .type "list", data := .seq vs n })
    (h : Q () s) : wpAny (model prog w) A (checkBoundCall "list.append" ⟨[.ref a, v], []⟩) Q E s := by
  obtain ⟨hp, g, d, tk, os⟩ := s
  have hT : (⟨hp, g, d, tk, os⟩ : Shared).TypeIs (.ref a) "list" := ⟨_, ho, rfl⟩
  have f1 : isSubtype (.type "list") (.type "module") = pure false := by rw [isSubtype_type]; kernel_rfl
  have f2 : isSubtype (.type "list") (.type "type") = pure false := by rw [isSubtype_type]; kernel_rfl
  unfold checkBoundCall
  have e1 : Manifest.signature? "list.append" = some ⟨.oneArg, "list.append", "append", .self, [⟨"object", .posOnly, true⟩]⟩ := by
    rw [signature?_of (id := "list.append") (n := ['d', 'n', 'e', 'p', 'p', 'a']) (o := ['t', 's', 'i', 'l']) (by kernel_rfl) F.owner_list]
    kernel_rfl
  rw [e1]
  have e2 : builtinKind "list.append" = some .method := by decide +kernel
  have e3 : Manifest.varargsMethods.contains "list.append" = false := by decide +kernel
  simp only [e2, e3]
  repeat (any_goals (first | assumption | wp_step))
section
variable {C : Cx} {σ : AS} {pos : Pos} {k : Nat}
theorem Ev.attrA {x : Str} {np : Pos} {Q} (h : Ev C (.Name x np) σ fun a σ1 => ∃ i xs, a = .ref i ∧ σ1.hp[i]? = some (.list false xs) ∧ Q (.ref σ1.hp.length) { σ1 with hp := σ1.hp ++ [.app i] }) : Ev C (.Attribute (.Name x np) "append" pos) σ Q := by
  intro pro α s r Q' E kk
  rw [arm_eval_Attribute]
  refine wpAny_bind (h pro α s r _ _ fun p σ1 α1 s1 v h1 p1 r1 v1 => ?_)
  obtain ⟨i, xs, rfl, hi, hq⟩ := h1
  obtain ⟨a, ea, rfl⟩ := v1
  obtain ⟨vs, hL, hV, hP⟩ := r1.objs i _ a hi ea
  obtain ⟨n, ho⟩ := hP rfl
  refine wpAny_bind (wpAny_standAt (wpAny_bind (wpAny_holding (getAttr_append ho ?_))))
  refine wpAny_bind (wpAny_pure (wpAny_pure ?_))
  refine kk _ _ (α1 ++ [s1.heap.objs.size]) _ _ hq (p1.trans (List.prefix_append _ _)) (r1.add (tk := s1.toks + 1) push_keep get_size_none ⟨_, Heap.get?_push_size _ rfl⟩ ⟨a, pre_get (List.prefix_append _ _) ea, Heap.get?_push_size _ rfl⟩ (Nat.le_succ _)) (vref_new r1.len)
theorem Cal.appR {j i : Nat} {xs : List PV} {p : PV} {Q} (hj : σ.hp[j]? = some (.app i)) (hi : σ.hp[i]? = some (.list false xs)) (hl : xs.length < 1000000) (h : Q .none { σ with hp := σ.hp.set i (.list false (xs ++ [p])) }) : Cal C (.ref j) [p] σ Q := by
  intro pro α s v vs r hv hvs Q' E kk
  obtain ⟨b, eb, rfl⟩ := hv
  obtain ⟨v, rfl, hv⟩ := hvs.one
  obtain ⟨a, ea, hb⟩ := r.objs j _ b hj eb
  obtain ⟨ws, hL, hV, hP⟩ := r.objs i _ a hi ea
  have hle := hV.length
  obtain ⟨n, ho⟩ := hP rfl
  refine wpAny_call (codeAny_of_tree ?_)
  show wpAny _ C.A.in1 (callAny (.ref b) ⟨[v], []⟩) _ _ s
  simp only [callAny]
  refine wpAny_bind (wpAny_load hb ?_)
  simp only [appObj, show (Value.type "builtin_function_or_method" == Value.type "method" || Value.type "builtin_function_or_method" == Value.type "builtin_function_or_method" || Value.type "builtin_function_or_method" == Value.type "method-wrapper") = true by decide, if_true]
  show wpAny _ _ (if (Value.type "builtin_function_or_method" != Value.type "method") = true then _ else _) _ _ _
  rw [if_pos (by decide)]
  refine wpAny_bind (check_append ho ?_)
  refine wpAny_bind (wpAny_pure (wpAny_pure ?_))
  refine ⟨Code.quiet_builtin _ (by decide +kernel), codeAny_builtin entry_list_append ?_⟩
  show wpAny _ _ (updateSeq a (·.push v) >>= fun _ => ret .none) _ _ s
  obtain ⟨n', e'⟩ := mapSeq_plain (n := n) (xs := ws.toArray) (f := (·.push v))
  have e3 : (s.heap.update a (Obj.mapSeq (·.push v))).get? a = some { cls := .type "list", data := .seq (ws ++ [v]).toArray n' } := by
    rw [Heap.get?_update_self _ ho (by rw [e']; rfl), e']; simp
  refine wpAny_bind (wpAny_updateSeq ho rfl (wpAny_pure ?_))
  exact kk _ _ α _ _ h (List.prefix_refl _) (r.put (tk := s.toks) ea hi rfl (Heap.SameBut.update ..).extBut ⟨_, e3⟩ (OAt.newList e3 (hV.append (.cons hv .nil))) (Nat.le_refl _)) rfl
theorem kcal_app {j i : Nat} {ps : List PV} {Q} (hj : σ.hp[j]? = some (.app i)) (h : Cal C (.ref j) ps σ Q) : Kpr C σ (.ref j) ∧ Cal C (.ref j) ps σ Q := ⟨⟨i, hj⟩, h⟩
end
end Mine
open AutoSeq1 (wpAny_loadPart')
set_option maxHeartbeats 4000000
namespace Mine
section
variable {prog : Program} {w : World} {A : Around} {E : Value → Shared → Prop} {s : Shared}
/-- enumerate over a tuple: made -/
theorem meets_enum_tup (l : Addr) (items : Array Value) (n : Nat) (dct : Option Addr) (sl : Array (Option Value)) :
    Meets (Builtin.«enumerate.__new__» ⟨[.type "enumerate", .ref l], []⟩) (fun _ R s => s.heap.get? l = some { cls := .type "tuple", dict := dct, data := .seq items n, slots := sl } ∧
      R (.ok (.ret (.ref (s.heap.push { cls := .type "tuple_iterator", data := .fields #[.ref l, .int 0 0] }).objs.size)))
        { s with heap := (s.heap.push { cls := .type "tuple_iterator", data := .fields #[.ref l, .int 0 0] }).push { cls := .type "enumerate", data := .fields #[.none, .bool false, .ref s.heap.objs.size, rawInt 0, .none, .none] } }) :=
  .of_wp fun prog w A R s h => by
    obtain ⟨hp, g, d, tk, os⟩ := s; obtain ⟨hl, h⟩ := h
    have hsub := sub_enumerate
    have hT : Heap.IsTuple (Shared.heap ⟨hp, g, d, tk, os⟩) l items := ⟨_, hl, rfl, n, rfl⟩
    wp_walk using wpAny_loadPart' hl
    refine wpAny_stack_any fun st => wpAny_pure ?_
    split
    · rename_i c _ _ _ _ _
      cases (c == Value.type "enumerate") <;> (wp_walk using wpAny_loadPart' hl, wpAny_pyIter_tuple hT; exact ⟨_, rfl, h⟩)
    · wp_walk using wpAny_loadPart' hl, wpAny_pyIter_tuple hT
      exact ⟨_, rfl, h⟩
theorem call_enum_tup {l : Addr} {items : Array Value} {Q : Value → Shared → Prop} (hT : s.heap.IsTuple l items)
    (h : ∀ h', IsEnum h' (s.heap.objs.size + 1) s.heap.objs.size 0 .none → h'.IsTupleIter s.heap.objs.size l 0 → (∀ b o, s.heap.get? b = some o → h'.get? b = some o) → Q (.ref (s.heap.objs.size + 1)) { s with heap := h' }) :
    wpAny (model prog w) A (call (.type "enumerate") [.ref l]) Q E s := by
  obtain ⟨⟨c, dct, dt, sl⟩, hl, hc, n, hd⟩ := hT
  dsimp only at hc hd
  subst hc hd
  refine callType_new F.called_enumerate (by decide) (F.typeCall_enumerate_1 _) (F.newCall_enumerate_1 _) (fun obj => F.args_object_init_2 obj _) F.entry_enumerate_new (meets_enum_tup l items n dct sl) ⟨hl, ?_⟩
  generalize hh : s.heap.push { cls := .type "tuple_iterator", data := .fields #[.ref l, .int 0 0] } = h1
  have hz : h1.objs.size = s.heap.objs.size + 1 := by rw [← hh, Heap.size_push]
  have he := Heap.get?_push_size h1 (o := { cls := .type "enumerate", data := .fields #[.none, .bool false, .ref s.heap.objs.size, rawInt 0, .none, .none] }) rfl
  show _ ∧ _
  rw [hz] at he ⊢
  refine ⟨⟨_, he, rfl⟩, h _ he ⟨_, Heap.get?_push_of_some _ (by rw [← hh]; exact Heap.get?_push_size _ rfl), rfl, rfl⟩ fun b o x => Heap.get?_push_of_some _ (by rw [← hh]; exact Heap.get?_push_of_some _ x)⟩
theorem nextOf_tup {it l : Addr} {i : Nat} {items : Array Value} {x : Value} {Q : Value → Shared → Prop} (hit : s.heap.IsTupleIter it l i) (hl : s.heap.IsTuple l items) (hx : items[i]? = some x)
    (hQ : ∀ h', h'.IsTupleIter it l (i + 1) → Heap.SameBut it s.heap h' → Q x { s with heap := h' }) : wpAny (model prog w) A (Builtin.SmallTypes.nextOf (.ref it)) Q E s := by
  obtain ⟨o, ho, hc, hd⟩ := id hit
  obtain ⟨ol, hol, _, nl, hdl⟩ := hl
  unfold Builtin.SmallTypes.nextOf
  refine wpAny_bind (wpAny_callSpecial?_slot (name := Str.ofString "__next__") hit.typeIs F.slot_tuple_iterator_next (wpAny_call_entry F.slot_tuple_iterator_next hit.typeIs F.entry_tuple_iterator_next ?_ (F.args_tuple_iterator_next_1 _)))
  show wpAny _ _ (field (.ref it) 0 >>= _) _ _ s
  refine wpAny_bind (wpAny_field ho hd (x := .ref l) rfl ?_)
  show wpAny _ _ (if (Value.ref l == Value.none) = true then _ else _) _ _ s
  rw [if_neg (show ¬ ((Value.ref l == Value.none) = true) from Bool.false_ne_true)]
  refine wpAny_bind (m := field (.ref it) 1) (wpAny_field ho hd (x := .int i 0) rfl ?_)
  refine wpAny_bind (m := seqItems? (.ref l)) (wpAny_seqItems hol hdl ?_)
  simp only [Int.toNat_natCast, hx]
  refine wpAny_bind (wpAny_setField ho hd (by simp) (wpAny_pure ⟨x, rfl, wpAny_pure (hQ _ ?_ (Heap.SameBut.update ..))⟩))
  exact ⟨_, Heap.get?_update_self _ ho (Obj.isFreed_of_fields (Obj.data_mapFields hd _)), (Obj.cls_mapFields ..).trans hc, by rw [Obj.data_mapFields hd]; simp [rawInt]⟩
theorem nextOf_tup_end {it l : Addr} {i : Nat} {items : Array Value} {Q : Value → Shared → Prop} (hh : A.handled = none) (hit : s.heap.IsTupleIter it l i) (hl : s.heap.IsTuple l items) (hx : items[i]? = none)
    (hE : ∀ h' e, Heap.ExtBut it s.heap h' → (∃ o, h'.get? e = some o ∧ o.cls = .type "StopIteration") → E (.ref e) { s with heap := h' }) : wpAny (model prog w) A (Builtin.SmallTypes.nextOf (.ref it)) Q E s := by
  obtain ⟨o, ho, hc, hd⟩ := id hit
  obtain ⟨ol, hol, _, nl, hdl⟩ := hl
  unfold Builtin.SmallTypes.nextOf
  refine wpAny_bind (wpAny_callSpecial?_slot (name := Str.ofString "__next__") hit.typeIs F.slot_tuple_iterator_next (wpAny_call_entry F.slot_tuple_iterator_next hit.typeIs F.entry_tuple_iterator_next ?_ (F.args_tuple_iterator_next_1 _)))
  show wpAny _ _ (field (.ref it) 0 >>= _) _ _ s
  refine wpAny_bind (wpAny_field ho hd (x := .ref l) rfl ?_)
  show wpAny _ _ (if (Value.ref l == Value.none) = true then _ else _) _ _ s
  rw [if_neg (show ¬ ((Value.ref l == Value.none) = true) from Bool.false_ne_true)]
  refine wpAny_bind (m := field (.ref it) 1) (wpAny_field ho hd (x := .int i 0) rfl ?_)
  refine wpAny_bind (m := seqItems? (.ref l)) (wpAny_seqItems hol hdl ?_)
  simp only [Int.toNat_natCast, hx]
  refine wpAny_bind (wpAny_rule (wpAny_bind (wpAny_setField ho hd (by simp) ?_)))
  show wpAny _ _ (newExc (.type "StopIteration") [] >>= _) _ _ _
  refine wpAny_bind ?_
  simp only [newExc, newTuple]
  refine wpAny_bind (wpAny_newObj_type ?_ (by size_fits))
  refine wpAny_bind (m := firstArgMember _ _) (wpAny_of_eq (a := Value.none) (by first | rfl | (simp only [firstArgMember]; rfl)) ?_)
  refine wpAny_newObj_type ?_ (by size_fits)
  simp only [raiseNew]
  refine wpAny_bind (wpAny_handled ?_)
  first | rw [show A.in1.handled = none from hh] | rw [hh]
  refine wpAny_bind (wpAny_pure (wpAny_throw ?_))
  exact hE _ _ (((Heap.SameBut.update ..).extBut.push _).push _) ⟨_, Heap.get?_push_size _ rfl, rfl⟩
/-- what a turn of the enumerate leaves -/
structure EnumStep (h h' : Heap) (e it l : Addr) (i : Nat) (x : Value) (tk : Tok) : Prop where
  en : IsEnumOut h' e it ((i : Int) + 1) x h.objs.size
  iter : h'.IsTupleIter it l (i + 1)
  pair : h'.get? h.objs.size = some { cls := .type "tuple", data := .seq #[.int i tk, x] }
  keep : ∀ b o, b ≠ e → b ≠ it → h.get? b = some o → h'.get? b = some o
theorem enum_next {e it l : Addr} {i : Nat} {items : Array Value} {x old : Value} {Q : Value → Shared → Prop} (he : IsEnum s.heap e it i old) (hit : s.heap.IsTupleIter it l i) (hl : s.heap.IsTuple l items) (hx : items[i]? = some x) (hne : e ≠ it)
    (hQ : ∀ h', EnumStep s.heap h' e it l i x s.toks → Q (.ref s.heap.objs.size) { s with heap := h', toks := s.toks + 1 }) :
    wpAny (model prog w) A (Builtin.«enumerate.__next__» ⟨[.ref e], []⟩) (fun fin s' => ∃ v, fin = .done (.ret v) ∧ Q v s') E s := by
  obtain ⟨hp, g, d, tk, os⟩ := s
  refine wpAny_bind (m := field (.ref e) 2) (wpAny_field he rfl (x := .ref it) rfl ?_)
  refine wpAny_bind (nextOf_tup hit hl hx fun h₁ hit₁ hs₁ => ?_)
  replace hs₁ : Heap.SameBut it hp h₁ := hs₁
  have he₁ : IsEnum h₁ e it i old := (hs₁.2 e hne).trans he
  refine wpAny_bind (m := field (.ref e) 3) (wpAny_field (s := ⟨h₁, g, d, tk, os⟩) he₁ rfl (x := rawInt i) rfl ?_)
  refine wpAny_bind (m := field (.ref e) 4) (wpAny_field (s := ⟨h₁, g, d, tk, os⟩) he₁ rfl (x := .none) rfl ?_)
  refine wpAny_bind (m := mkInt i) (wpAny_mkInt ?_)
  show wpAny _ _ (setField (.ref e) 3 (rawInt ((i : Int) + 1)) >>= _) _ _ ⟨h₁, g, d, tk + 1, os⟩
  refine wpAny_bind (wpAny_setField_rec he₁ (by simp) fun h₂ he₂ hs₂ => ?_)
  replace hs₂ : Heap.SameBut e h₁ h₂ := hs₂
  replace he₂ : IsEnum h₂ e it ((i : Int) + 1) old := he₂
  show wpAny _ _ (setField (.ref e) 4 .none >>= _) _ _ ⟨h₂, g, d, tk + 1, os⟩
  refine wpAny_bind (wpAny_setField_rec he₂ (by simp) fun h₃ he₃ hs₃ => ?_)
  replace hs₃ : Heap.SameBut e h₂ h₃ := hs₃
  replace he₃ : IsEnum h₃ e it ((i : Int) + 1) old := he₃
  show wpAny _ _ (newTuple [.int i tk, x] >>= _) _ _ ⟨h₃, g, d, tk + 1, os⟩
  refine wpAny_bind (wpAny_newTuple ?_)
  have he₄ : IsEnum (h₃.push { cls := .type "tuple", data := .seq #[.int i tk, x] }) e it ((i : Int) + 1) old := Heap.get?_push_of_some _ he₃
  generalize hh₄ : h₃.push { cls := .type "tuple", data := .seq #[.int i tk, x] } = h₄ at he₄
  have hsz : h₃.objs.size = hp.objs.size := by rw [hs₃.1, hs₂.1, hs₁.1]
  have hel : e ≠ hp.objs.size := Nat.ne_of_lt (Heap.lt_size he)
  have ht₄ : h₄.get? hp.objs.size = some { cls := .type "tuple", data := .seq #[.int i tk, x] } := by rw [← hh₄, ← hsz]; exact Heap.get?_push_size _ rfl
  have hk₄ : ∀ b o, b ≠ e → b ≠ it → hp.get? b = some o → h₄.get? b = some o := fun b o hbe hbi hb => by
    rw [← hh₄]; exact Heap.get?_push_of_some _ (hs₃.extBut b o hbe (hs₂.extBut b o hbe (hs₁.extBut b o hbi hb)))
  have hit₄ : h₄.IsTupleIter it l (i + 1) := by
    rw [← hh₄]; obtain ⟨o, ho, r⟩ := (hit₁.extBut hs₂.extBut (Ne.symm hne)).extBut hs₃.extBut (Ne.symm hne); exact ⟨o, Heap.get?_push_of_some _ ho, r⟩
  show wpAny _ _ (Builtin.SmallTypes.ownedTupleIsFree (.ref e) >>= _) _ _ ⟨h₄, g, d, tk + 1, os⟩
  rw [hsz]
  clear hh₄ he₃ hs₃ he₂ hs₂ he₁ hs₁ hit₁ hsz h₃ h₂ h₁
  refine wpAny_bind ?_
  unfold Builtin.SmallTypes.ownedTupleIsFree
  refine wpAny_bind (wpAny_field he₄ rfl (x := .none) rfl (wpAny_pure ?_))
  simp only [if_true]
  refine wpAny_bind (wpAny_rule ?_)
  refine wpAny_bind (wpAny_field he₄ rfl (x := old) rfl ?_)
  refine wpAny_bind (wpAny_setField_rec he₄ (by simp) fun h₅ he₅ hs₅ => ?_)
  replace hs₅ : Heap.SameBut e h₄ h₅ := hs₅
  replace he₅ : IsEnum h₅ e it ((i : Int) + 1) x := he₅
  show wpAny _ _ (Builtin.SmallTypes.ownedTupleHandOut (.ref e) (.ref hp.objs.size) >>= _) _ _ ⟨h₅, g, d, tk + 1, os⟩
  refine wpAny_bind ?_
  unfold Builtin.SmallTypes.ownedTupleHandOut
  refine wpAny_bind (wpAny_setField_rec he₅ (by simp) fun h₆ he₆ hs₆ => ?_)
  replace hs₆ : Heap.SameBut e h₅ h₆ := hs₆
  replace he₆ : IsEnumOut h₆ e it ((i : Int) + 1) x hp.objs.size := he₆
  refine wpAny_setField_rec he₆ (by simp) fun h₇ he₇ hs₇ => ?_
  replace hs₇ : Heap.SameBut e h₆ h₇ := hs₇
  replace he₇ : IsEnumOut h₇ e it ((i : Int) + 1) x hp.objs.size := he₇
  refine wpAny_bind (wpAny_letGo (wpAny_pure ⟨_, rfl, hQ h₇ ⟨he₇, ?_, ?_, ?_⟩⟩))
  · exact ((hit₄.extBut hs₅.extBut (Ne.symm hne)).extBut hs₆.extBut (Ne.symm hne)).extBut hs₇.extBut (Ne.symm hne)
  · exact hs₇.extBut _ _ (Ne.symm hel) (hs₆.extBut _ _ (Ne.symm hel) (hs₅.extBut _ _ (Ne.symm hel) ht₄))
  · exact fun b o hbe hbi hb => hs₇.extBut b o hbe (hs₆.extBut b o hbe (hs₅.extBut b o hbe (hk₄ b o hbe hbi hb)))
theorem pyNext_enum {e it l : Addr} {i : Nat} {items : Array Value} {x old : Value} {Q : Option Value → Shared → Prop} (he : IsEnum s.heap e it i old) (hit : s.heap.IsTupleIter it l i) (hl : s.heap.IsTuple l items) (hx : items[i]? = some x) (hne : e ≠ it)
    (hQ : ∀ h', EnumStep s.heap h' e it l i x s.toks → Q (some (.ref s.heap.objs.size)) { s with heap := h', toks := s.toks + 1 }) : wpAny (model prog w) A (pyNext (.ref e)) Q E s := by
  have hT : s.TypeIs (.ref e) "enumerate" := ⟨_, he, rfl⟩
  unfold pyNext
  exact wpAny_bind (wpAny_attempt (wpAny_callSpecial?_slot (name := Str.ofString "__next__") hT F.slot_enumerate_next (wpAny_call_entry F.slot_enumerate_next hT F.entry_enumerate_next (enum_next he hit hl hx hne fun h' a => wpAny_pure (hQ h' a)) (F.args_enumerate_next_1 _))))
theorem pyNext_enum_end {e it l : Addr} {i : Nat} {items : Array Value} {old : Value} {Q : Option Value → Shared → Prop} (hh : A.handled = none) (he : IsEnum s.heap e it i old) (hit : s.heap.IsTupleIter it l i) (hl : s.heap.IsTuple l items) (hx : items[i]? = none)
    (hQ : ∀ h', Heap.ExtBut it s.heap h' → Q none { s with heap := h' }) : wpAny (model prog w) A (pyNext (.ref e)) Q E s := by
  have hT : s.TypeIs (.ref e) "enumerate" := ⟨_, he, rfl⟩
  unfold pyNext
  refine wpAny_bind (wpAny_attempt (wpAny_callSpecial?_slot (name := Str.ofString "__next__") hT F.slot_enumerate_next (wpAny_call_entry F.slot_enumerate_next hT F.entry_enumerate_next ?_ (F.args_enumerate_next_1 _))))
  refine wpAny_bind (m := field (.ref e) 2) (wpAny_field he rfl (x := .ref it) rfl ?_)
  refine wpAny_bind (nextOf_tup_end hh hit hl hx fun h' x he' hx' => ?_)
  obtain ⟨o, ho, hc⟩ := hx'
  refine wpAny_bind (wpAny_isInstance (T := "StopIteration") (b := true) ⟨o, ho, hc⟩ isSubtype_stop ?_)
  exact wpAny_pure (hQ _ he')
end
end Mine
set_option maxHeartbeats 4000000
namespace Mine
section
variable {C : Cx} {pro : Pro} {σ : AS} {α : List Addr} {s : Shared}
theorem Rel.untr_hid {a : Addr} {o : Obj} (r : Rel C (hid pro a o) σ α s) (hB : C.bpro a = none) (hp : pro a = none) : Untr C pro α a where
  al := fun h => (hid_key (o' := o) (r.free a h)).1 rfl
  pr := hp
  fz := r.pf a o hid_self
  bp := hB
  lo := Ne.symm (hid_key (o' := o) r.pL.1).1
  tp := Ne.symm (hid_key (o' := o) r.tab.2.2.1.1).1
  ce := fun x c e => Ne.symm (hid_key (o' := o) (r.cel x c e).2.2.2.1.1).1
theorem Rel.unhideB {a : Addr} {o : Obj} (r : Rel C (hid pro a o) σ α s) (hB : C.bpro a = none) (hp : pro a = none) : Rel C pro σ α s :=
  r.unhide (fun b ob e => by have := r.sub b ob e; rw [hid_ne (ne_of_none hB e)] at this; exact this) hp
theorem Rel.grow2 (r : Rel C pro σ α s) {h' : Heap} {tk : Tok} {a b : Addr} (ua : Untr C pro α a) (ub : Untr C pro α b) (hk : ∀ c o, c ≠ a → c ≠ b → s.heap.get? c = some o → h'.get? c = some o) (htk : s.toks ≤ tk) : Rel C pro σ α { s with heap := h', toks := tk } := by
  have key : ∀ c o, (c ≠ a ∧ c ≠ b) → s.heap.get? c = some o → h'.get? c = some o := fun c o q e => hk c o q.1 q.2 e
  refine ⟨Nat.lt_of_lt_of_le r.tk htk, r.sub, by rw [r.sh], fun c o e => key c o ⟨ne_of_none ua.pr e, ne_of_none ub.pr e⟩ (r.keep c o e), r.stat, r.len, r.nodup, fun c hc => let ⟨o, e⟩ := r.live c hc; ⟨o, key c o ⟨fun q => ua.al (q ▸ hc), fun q => ub.al (q ▸ hc)⟩ e⟩,
    fun c o e => key c o ⟨ne_of_none ua.fz e, ne_of_none ub.fz e⟩ (r.keepF c o e), r.pf, r.free, r.freeF, r.nL, r.pL, ?_, fun i o c e1 e2 => (r.objs i o c e1 e2).mono (List.prefix_refl _) fun o e => key c o ⟨fun q => ua.al (q ▸ List.mem_of_getElem? e2), fun q => ub.al (q ▸ List.mem_of_getElem? e2)⟩ e, fun x c e => ?_, r.cinj, ?_⟩
  · obtain ⟨m, ⟨o, es, ep, h1, h2⟩, hm⟩ := r.ns
    exact ⟨m, ⟨o, es, ep, key _ _ ⟨Ne.symm ua.lo, Ne.symm ub.lo⟩ h1, h2⟩, hm⟩
  · obtain ⟨a1, a2, a3, a4, v, ⟨o, ho, hd⟩, q⟩ := r.cel x c e
    exact ⟨a1, a2, a3, a4, v, ⟨o, key c o ⟨Ne.symm (ua.ce x c e), Ne.symm (ub.ce x c e)⟩ ho, hd⟩, q⟩
  · obtain ⟨a1, a2, a3, ps, e, t⟩ := r.tab
    exact ⟨a1, a2, a3, ps, key _ _ ⟨Ne.symm ua.tp, Ne.symm ub.tp⟩ e, t⟩
end
/-- for over enumerate of a tuple -/
noncomputable def FoE (C : Cx) (elts : List Expr) (k : Nat) (tp : Pos) (i j : Nat) (body orelse : List Stmt) (σ : AS) (Q : AF → AS → Prop) : Prop := ∀ pro α s e it l old, Untr C pro α e → Untr C pro α it → e ≠ it → α[i]? = some l → Rel C pro σ α s → IsEnum s.heap e it j old → s.heap.IsTupleIter it l j → ∀ R : Result → Shared → Prop,
  (∀ f σ' α' s' fl, Q f σ' → α <+: α' → Rel C pro σ' α' s' → FRel C.mg α' f fl → R (.ok fl) s') → codeAny (model C.prog C.w) C.A (.forLoop (.Tuple elts k tp) (.ref e) body orelse C.env) R s
section
variable {C : Cx} {σ : AS} {pos tp : Pos} {k : Nat} {elts : List Expr} {body orelse : List Stmt} {i j : Nat}
theorem FoE.fin {f : Bool} {xs : List PV} {Q} (hi : σ.hp[i]? = some (.tup f xs)) (hj : xs.length ≤ j) (h : Xs C orelse σ Q) : FoE C elts k tp i j body orelse σ Q := by
  intro pro α s e it l old ue ui hne hl r he hit R kk
  obtain ⟨vs, hL, hV⟩ := r.objs i _ l hi hl
  have hle := hV.length
  refine codeAny_of_tree ?_
  show wpAny _ C.A ((forTurn (.Tuple elts k tp) (.ref e) body orelse C.env).onRaise (fun x => do noteFrame x C.env; theTreesLotGoes x)) _ _ s
  refine wpAny_noted ?_
  simp only [forTurn]
  refine wpAny_bind (wpAny_standAt (wpAny_bind (wpAny_onRaise (pyNext_enum_end C.hd he hit hL (by simp; omega) fun h' hk => ?_))))
  have r' := r.grow2 (h' := h') (tk := s.toks) ui ui (fun c o q _ e => hk c o q e) (Nat.le_refl _)
  exact wpAny_pure ⟨rfl, codeAny_block (h pro α _ r' _ _ fun f σ' α' s' fl hq p3 r3 hf => kk _ _ _ _ _ hq p3 r3 hf)⟩
theorem FoE.step {f : Bool} {xs : List PV} {p : PV} {Q} (hi : σ.hp[i]? = some (.tup f xs)) (hx : xs[j]? = some p)
    (h : Asn C (.Tuple elts k tp) (.ref σ.hp.length) { σ with hp := σ.hp ++ [.tup false [.int j, p]] } fun σ1 => Xs C body σ1 (loopEnd (fun σ2 => FoE C elts k tp i (j + 1) body orelse σ2 Q) Q)) : FoE C elts k tp i j body orelse σ Q := by
  intro pro α s e it l old ue ui hne hl r he hit R kk
  obtain ⟨vs, hL, hV⟩ := r.objs i _ l hi hl
  obtain ⟨v, hv, hR⟩ := hV.get hx
  refine codeAny_of_tree ?_
  show wpAny _ C.A ((forTurn (.Tuple elts k tp) (.ref e) body orelse C.env).onRaise (fun x => do noteFrame x C.env; theTreesLotGoes x)) _ _ s
  refine wpAny_noted ?_
  simp only [forTurn]
  refine wpAny_bind (wpAny_standAt (wpAny_bind (wpAny_onRaise (pyNext_enum he hit hL (by simpa using hv) hne fun h' st => ?_))))
  refine wpAny_bind (wpAny_letOwnedTupleGo_enum st.en fun h'' he2 hs2 => ?_)
  replace hs2 : Heap.SameBut e h' h'' := hs2
  have r1 := r.grow2 (h' := h'') (tk := s.toks + 1) ue ui (fun c o q q' ec => hs2.extBut c o q (st.keep c o q q' ec)) (Nat.le_succ _)
  have hTe : s.heap.objs.size ≠ e := fun q => by have := get_size_none (h := s.heap); rw [q, he] at this; cases this
  have hTi : s.heap.objs.size ≠ it := fun q => by obtain ⟨oi, hoi, _⟩ := hit; have := get_size_none (h := s.heap); rw [q, hoi] at this; cases this
  have hT : h''.get? s.heap.objs.size = some { cls := .type "tuple", data := .seq #[.int j s.toks, v] } := hs2.extBut _ _ hTe st.pair
  have uT : Untr C pro α s.heap.objs.size := r.untr_new get_size_none
  have hpre : α <+: α ++ [s.heap.objs.size] := List.prefix_append _ _
  have r2 := r1.adopt (o := .tup false [.int j, p]) uT ⟨_, hT⟩ ⟨[.int j s.toks, v], ⟨_, hT, rfl, _, rfl⟩, .cons ⟨_, rfl⟩ (.cons (hR.mono hpre) .nil)⟩
  obtain ⟨oi, hoi, hoi'⟩ := st.iter
  have hoi2 : h''.get? it = some oi := hs2.extBut it oi (Ne.symm hne) hoi
  have notin : ∀ b, b ∉ α → s.heap.objs.size ≠ b → b ∉ α ++ [s.heap.objs.size] := fun b h1 h2 q => by
    rcases List.mem_append.mp q with q | q
    · exact h1 q
    · simp at q; exact h2 q.symm
  have r3 := r2.guard (a := it) (o := oi) ⟨notin it ui.al hTi, ui.pr, ui.fz, ui.bp, ui.lo, ui.tp, ui.ce⟩ hoi2
  have r4 := r3.guard (a := e) ⟨notin e ue.al hTe, by rw [hid_ne hne]; exact ue.pr, ue.fz, ue.bp, ue.lo, ue.tp, ue.ce⟩ he2
  refine wpAny_bind (h _ _ _ (.ref s.heap.objs.size) r4 (vref_new r.len) _ _ fun _ σ1 α1 s1 _ h1 p1 r5 _ => ?_)
  refine wpAny_bind (h1 _ α1 s1 r5 _ _ fun fl σ2 α2 s2 fv h2 p2 r6 v2 => ?_)
  have pe : hid pro it oi e = none := by rw [hid_ne hne]; exact ue.pr
  have uE := r6.untr_hid ue.bp pe
  have r7 := r6.unhideB ue.bp pe
  have uI := r7.untr_hid ui.bp ui.pr
  have r8 := r7.unhideB ui.bp ui.pr
  have pp := (hpre.trans p1).trans p2
  have e2 : IsEnum s2.heap e it ((j + 1 : Nat) : Int) v := r6.keep e _ hid_self
  have again : FoE C elts k tp i (j + 1) body orelse σ2 Q → codeAny (model C.prog C.w) C.A (.forLoop (.Tuple elts k tp) (.ref e) body orelse C.env) R s2 := fun hF =>
    hF pro α2 s2 e it l v ⟨uE.al, ue.pr, uE.fz, uE.bp, uE.lo, uE.tp, uE.ce⟩ uI hne (pre_get pp hl) r8 e2 ⟨oi, r7.keep it oi hid_self, hoi'⟩ R fun f σ' α' s' fl hq p3 r3 hf => kk _ _ _ _ _ hq (pp.trans p3) r3 hf
  cases fl with
  | next => cases v2; exact wpAny_pure ⟨rfl, again h2⟩
  | cont => cases v2; exact wpAny_pure ⟨rfl, again h2⟩
  | brk => cases v2; exact wpAny_pure (kk .next _ _ _ _ h2 pp r8 rfl)
  | ret p => obtain ⟨u, rfl, hu⟩ := v2; exact wpAny_pure (kk (.ret p) _ _ _ _ h2 pp r8 ⟨u, rfl, hu⟩)
theorem X1.forE {np cp : Pos} {arg : Expr} {Q} (h : Ev C (.Name "enumerate" np) σ fun f σ1 => f = .raw (.type "enumerate") ∧ Ev C arg σ1 fun a σ2 => ∃ i fz xs, a = .ref i ∧ σ2.hp[i]? = some (.tup fz xs) ∧ FoE C elts k tp i 0 body orelse σ2 Q)
    (he : starEach [arg] C.env = [(false, eval arg C.env)]) (hs : ∀ x, foldedSetIterable (.Call (.Name "enumerate" np) [arg] [] cp) C.env x = pure x := by intro _; rfl) :
    X1 C (.For (.Tuple elts k tp) (.Call (.Name "enumerate" np) [arg] [] cp) body orelse pos) σ Q := by
  intro pro α s r Q' E kk
  refine wpAny_For (wpAny_Call_NameR (h pro α s r _ _ fun p σ1 α1 s1 v h1 p1 r1 v1 => ?_)) hs
  obtain ⟨rfl, h1⟩ := h1
  cases v1
  rw [he]
  refine callWith_of (P := fun hh => ∃ k, (k = Keeper.frame ∨ k = Keeper.machine ∨ k = Keeper.boundFrame) ∧ Looks (model C.prog C.w) hh (keeperOf (.type "enumerate")) k) rfl (fun _ p => p) ?_
  refine Calls.evalArgs_plain (Calls.spliced_cons (rest := []) (h1 pro α1 s1 r1 _ _ fun a σ2 α2 s2 u h2 p2 r2 v2 => Calls.spliced_nil ⟨⟨_, .inr (.inl rfl), .of_pure rfl⟩, ?_⟩))
  obtain ⟨i, fz, xs, rfl, hi, hF⟩ := h2
  obtain ⟨l, el, rfl⟩ := v2
  obtain ⟨vs, hL, hV⟩ := r2.objs i _ l hi el
  refine call_enum_tup hL fun h' he' hit hk => ?_
  have r3 := r2.grow (h' := h') (tk := s2.toks) hk (Nat.le_refl _)
  have n1 : s2.heap.get? (s2.heap.objs.size + 1) = none := by
    cases q : s2.heap.get? (s2.heap.objs.size + 1) with
    | none => rfl
    | some o => exact absurd (Nat.lt_trans (Nat.lt_succ_self _) (Heap.lt_size q)) (Nat.lt_irrefl _)
  refine wpAny_pyIter_enum he' ?_
  exact hF pro α2 _ _ _ l _ (r2.untr_new n1) (r2.untr_new get_size_none) (Nat.succ_ne_self _) el r3 he' hit _ fun f σ' α' s' fl hq p3 r3 hf => kk _ _ _ _ _ hq ((p1.trans p2).trans p3) r3 hf
end
end Mine
set_option maxHeartbeats 4000000
namespace Mine
section
variable {C : Cx} {σ : AS} {pos : Pos} {k : Nat}
theorem Ev.and2 {x y : Expr} {Q} (h : Ev C x σ fun a σ1 => Tru C a σ1 fun c σ2 => (c = true → Ev C y σ2 Q) ∧ (c = false → Q a σ2)) : Ev C (.BoolOp .And [x, y] pos) σ Q := by
  intro pro α s r Q' E kk
  refine wpAny_And2 (h pro α s r _ _ fun a σ1 α1 s1 v h1 p1 r1 v1 => ?_)
  refine h1 pro α1 s1 v r1 v1 _ _ fun c σ2 α2 s2 b h2 p2 r2 e => ?_
  subst e
  cases b with
  | true => exact h2.1 rfl pro α2 s2 r2 _ _ fun g σ' α' s' b hq p3 r3 v3 => kk g σ' α' s' b hq ((p1.trans p2).trans p3) r3 v3
  | false => exact kk _ _ _ _ _ (h2.2 rfl) (p1.trans p2) r2 (v1.mono p2)
theorem Ev.or2 {x y : Expr} {Q} (h : Ev C x σ fun a σ1 => Tru C a σ1 fun c σ2 => (c = true → Q a σ2) ∧ (c = false → Ev C y σ2 Q)) : Ev C (.BoolOp .Or [x, y] pos) σ Q := by
  intro pro α s r Q' E kk
  refine wpAny_Or2 (h pro α s r _ _ fun a σ1 α1 s1 v h1 p1 r1 v1 => ?_)
  refine h1 pro α1 s1 v r1 v1 _ _ fun c σ2 α2 s2 b h2 p2 r2 e => ?_
  subst e
  cases b with
  | true => exact kk _ _ _ _ _ (h2.1 rfl) (p1.trans p2) r2 (v1.mono p2)
  | false => exact h2.2 rfl pro α2 s2 r2 _ _ fun g σ' α' s' b hq p3 r3 v3 => kk g σ' α' s' b hq ((p1.trans p2).trans p3) r3 v3
/-- f-strings -/
noncomputable def JS (C : Cx) (out : Str) (es : List Expr) (σ : AS) (Q : PV → AS → Prop) : Prop := Run C (VRel C.mg) (joinParts out (evalEach es C.env)) σ Q
theorem JS.nil {out : Str} {Q} (hl : out.length < 1000000) (h : Q (.str out) σ) : JS C out [] σ Q := fun _ _ _ r => At.done r h fun _ _ kk => joinParts_nil (kk _ _ _ (fun _ _ e => e) ⟨_, rfl⟩) (by rw [sizeLine_eq]; lia)
theorem JS.cons {out : Str} {e : Expr} {es : List Expr} {Q} (h : Ev C e σ fun p σ1 => ∃ y, p = .str y ∧ (out ++ y).length < 1000000 ∧ JS C (out ++ y) es σ1 Q) (he : evalEach (e :: es) C.env = eval e C.env :: evalEach es C.env := by rfl) : JS C out (e :: es) σ Q := by
  intro pro α s r Q' E kk
  rw [he]
  refine joinParts_cons (h pro α s r _ _ fun p σ1 α1 s1 v h1 p1 r1 v1 => ?_)
  obtain ⟨y, rfl, hl, hj⟩ := h1
  obtain ⟨t, rfl⟩ := v1
  exact ⟨by rw [sizeLine_eq]; lia, hj pro α1 s1 r1 _ _ fun g σ' α' s' b hq p3 r3 v3 => kk g σ' α' s' b hq (p1.trans p3) r3 v3⟩
theorem Ev.fstr {v1 v2 : Expr} {rest : List Expr} {Q} (h : JS C Str.empty (v1 :: v2 :: rest) σ Q) : Ev C (.JoinedStr (v1 :: v2 :: rest) pos) σ Q := by
  intro pro α s r Q' E kk
  exact JoinedStr_many (h pro α s r _ _ kk)
theorem Ev.fval {e : Expr} {Q} (h : Ev C e σ fun p σ1 => ∃ y, p = .str y ∧ y.length < 1000000 ∧ Q (.str y) σ1) : Ev C (.FormattedValue e (-1) none pos) σ Q := by
  intro pro α s r Q' E kk
  refine FormattedValue_plain (h pro α s r _ _ fun p σ1 α1 s1 v h1 p1 r1 v1 => ?_)
  obtain ⟨y, rfl, hl, hq⟩ := h1
  obtain ⟨t, rfl⟩ := v1
  exact wpAny_formatField_str (kk _ _ _ _ _ hq p1 r1 ⟨_, rfl⟩) (kk _ _ _ _ _ hq p1 (r1.tok (Nat.le_succ _)) ⟨_, rfl⟩) (by rw [sizeLine_eq]; lia)
/-- += of lists -/
theorem wp_iadd {prog : Program} {w : World} {A : Around} {E : Value → Shared → Prop} {s : Shared} {a b : Addr} {xs ys : Array Value} {n : Nat} {Q : Value → Shared → Prop} (ha : s.heap.get? a = some { cls := .type "list", data := .seq xs n }) (hb : s.heap.IsList b ys)
    (hsz : xs.size + ys.size < 1000000) (h : Q (.ref a) { s with heap := s.heap.update a (Obj.mapSeq (· ++ ys)) }) : wpAny (model prog w) A (inplaceOp .Add (.ref a) (.ref b)) Q E s := by
  have hTa : s.TypeIs (.ref a) "list" := ⟨_, ha, rfl⟩
  have hTb : s.TypeIs (.ref b) "list" := hb.typeIs
  obtain ⟨ob, hob, hcb, nb, hdb⟩ := hb
  have hsq : isSeqSlot (some (.builtin "list.__iadd__")) = true := by decide +kernel
  unfold inplaceOp
  refine wpAny_holding ?_
  have hfi : fillsInplaceSlot (.type "list") "add" (Operator.Add == .Add) = pure false := by
    unfold fillsInplaceSlot
    show (typeLookup (.type "list") (dunderI "add") >>= fun fi => pure (fi.isSome && !isSeqSlot fi)) = pure false
    rw [F.slot_list_iadd.lookup, pure_bind, hsq]; rfl
  have hsi : seqSlot? (.type "list") (dunderI "add") = pure (some (.builtin "list.__iadd__")) := PySem.seqSlot_of F.slot_list_iadd.lookup hsq
  refine wpAny_bind (wpAny_typeOf hTa (wpAny_bind (wpAny_of_eq hfi ?_)))
  show wpAny _ A (if false = true then _ else _) Q E s
  rw [if_neg Bool.false_ne_true]
  refine wpAny_bind (wpAny_binaryOp1_none (nm := "add") hTa hTb noFill_list_add ?_)
  refine wpAny_bind (wpAny_of_eq hsi ?_)
  refine wpAny_bind (wpAny_rule ?_)
  refine wpAny_call_entry F.slot_list_iadd hTa F.entry_list_iadd ?_ (F.args_list_iadd_2 _ _)
  show wpAny _ _ (Builtin.List.listExtendWith (.ref a) (.ref b) (.ref a)) _ _ s
  unfold Builtin.List.listExtendWith
  refine wpAny_bind (wpAny_typeOf hTb ?_)
  have h1 : (Builtin.List.listSameRef (.ref a) (.ref b) || Value.type "list" == Value.type "list" || Value.type "list" == Value.type "tuple") = true := by simp
  simp only [h1, if_true]
  refine wpAny_bind ?_
  unfold Builtin.List.listItems
  refine wpAny_bind (wpAny_seqItems hob hdb (wpAny_pure ?_))
  refine wpAny_bind ?_
  refine wpAny_bind (wpAny_seqItems ha rfl (wpAny_pure ?_))
  have hlong : Builtin.List.listTooLong (xs.size + ys.size) = false := by have := sizeLine_eq; unfold Builtin.List.listTooLong; simp; omega
  rw [hlong, Bool.and_false]
  show wpAny _ _ (updateSeq a (· ++ ys) >>= fun _ => ret (.ref a)) _ _ s
  exact wpAny_bind (wpAny_updateSeq ha rfl (wpAny_pure ⟨_, rfl, h⟩))
theorem Ibin.addL {i j : Nat} {f : Bool} {xs ys : List PV} {Q} (hi : σ.hp[i]? = some (.list false xs)) (hj : σ.hp[j]? = some (.list f ys)) (hl : xs.length + ys.length < 1000000) (h : Q (.ref i) { σ with hp := σ.hp.set i (.list false (xs ++ ys)) }) : Ibin C .Add (.ref i) (.ref j) σ Q := by
  rintro pro α s v u r ⟨a, ea, rfl⟩ ⟨b, eb, rfl⟩ Q' E kk
  obtain ⟨vs, hL, hV, hP⟩ := r.objs i _ a hi ea
  obtain ⟨ws, hM, hW, _⟩ := r.objs j _ b hj eb
  have h1 := hV.length
  have h2 := hW.length
  obtain ⟨n, ho⟩ := hP rfl
  refine wp_iadd ho hM (by simp; lia) ?_
  obtain ⟨n', e'⟩ := mapSeq_plain (n := n) (xs := vs.toArray) (f := (· ++ ws.toArray))
  have e3 : (s.heap.update a (Obj.mapSeq (· ++ ws.toArray))).get? a = some { cls := .type "list", data := .seq (vs ++ ws).toArray n' } := by
    rw [Heap.get?_update_self _ ho (by rw [e']; rfl), e']; simp
  exact kk _ _ α _ _ h (List.prefix_refl _) (r.put (tk := s.toks) ea hi rfl (Heap.SameBut.update ..).extBut ⟨_, e3⟩ (OAt.newList e3 (hV.append hW)) (Nat.le_refl _)) ⟨a, ea, rfl⟩
theorem ints_of {mg α} : ∀ (l : List Value), (∀ v ∈ l, ∃ i t, v = Value.int i t) → ∃ ms : List Int, VsRel mg α (ms.map PV.int) l
  | [], _ => ⟨[], .nil⟩
  | v :: l, h => by
    obtain ⟨i, t, rfl⟩ := h v List.mem_cons_self
    obtain ⟨ms, hm⟩ := ints_of (mg := mg) (α := α) l fun v hv => h v (List.mem_cons_of_mem _ hv)
    exact ⟨i :: ms, .cons ⟨t, rfl⟩ hm⟩
theorem ints_all {mg α} : ∀ {ns : List Int} {vs : List Value}, VsRel mg α (ns.map PV.int) vs → ∀ v ∈ vs, ∃ i t, v = Value.int i t
  | [], _, h => by obtain rfl := h.nil_inv; intro v hv; cases hv
  | n :: ns, _, h => by
    obtain ⟨v, r, rfl, ⟨t, rfl⟩, b⟩ := h.cons_inv
    intro u hu
    rcases List.mem_cons.mp hu with rfl | hu
    · exact ⟨n, t, rfl⟩
    · exact ints_all b u hu
/-- a slice by steps of a list of ints: some ints -/
theorem Ev.slc3 {x : Str} {np p : Pos} {lo hi : Option Expr} {st : Expr} {Q}
    (h : Ev C (.Name x np) σ fun a σ1 => EvO C lo σ1 fun pl σ2 => EvO C hi σ2 fun ph σ3 => EvO C (some st) σ3 fun pt σ4 => ∃ (i : Nat) (f : Bool) (ns : List Int) (l u t : Option Int), a = .ref i ∧ σ4.hp[i]? = some (.list f (ns.map PV.int)) ∧ ns.length < 1000000 ∧ optI pl = some l ∧ optI ph = some u ∧ optI pt = some t ∧ t ≠ some 0 ∧
      ∀ ms : List Int, Q (.ref σ4.hp.length) { σ4 with hp := σ4.hp ++ [.list false (ms.map PV.int)] }) : Ev C (.Subscript (.Name x np) (.Slice lo hi (some st) p) pos) σ Q := by
  intro pro α s rr Q' E kk
  refine wpAny_Subscript_Slice_step (T := "list") list_getitem_lookup (h pro α s rr _ _ fun a σ1 α1 s1 v h1 p1 r1 v1 => wpAny_Slice ?_)
  refine h1 pro α1 s1 r1 _ _ fun pl σ2 α2 s2 vl h2 p2 r2 v2 => ?_
  refine h2 pro α2 s2 r2 _ _ fun ph σ3 α3 s3 vu h3 p3 r3 v3 => ?_
  refine h3 pro α3 s3 r3 _ _ fun pt σ4 α4 s4 vt h4 p4 r4 v4 => ?_
  obtain ⟨i, f, ns, l, u, t, rfl, hi, hsz, hl, hu, ht, h0, hq⟩ := h4
  obtain ⟨a, ea, rfl⟩ := ((v1.mono p2).mono p3).mono p4
  obtain ⟨vs, hL, hV, hP⟩ := r4.objs i _ a hi ea
  have hle := hV.length
  rw [List.length_map] at hle
  have hs : vs.toArray.size ≤ sizeLine := by rw [sizeLine_eq, List.size_toArray]; lia
  refine ⟨(hL.push _).typeIs, wpAny_getItem_list_slice (hL.push _) (Heap.IsSliceOf.new ..) (part_of hl ((v2.mono p3).mono p4)) (part_of hu (v3.mono p4)) (part_of ht v4) h0 ?_ hs⟩
  rw [Heap.size_push]
  have hmem : ∀ v ∈ (slicePick vs.toArray l u t).toList, v ∈ vs := fun v hv => by
    unfold slicePick at hv
    simp only [List.mem_filterMap] at hv
    obtain ⟨n, _, e⟩ := hv
    simp only [List.getElem?_toArray] at e
    exact List.mem_of_getElem? e
  obtain ⟨ms, hms⟩ := ints_of (mg := C.mg) (α := α4) _ fun v hv => ints_all hV v (hmem v hv)
  have hlen : (s4.heap.push { cls := .type "slice", data := .fields #[vl, vu, vt] }).objs.size = s4.heap.objs.size + 1 := by rw [Heap.size_push]
  refine kk _ _ (α4 ++ [s4.heap.objs.size + 1]) _ _ (hq ms) ((((p1.trans p2).trans p3).trans p4).trans (List.prefix_append _ _)) (r4.add (tk := s4.toks) (fun b o e => push_keep _ _ (push_keep _ _ e)) ?_ ?_ ?_ (Nat.le_refl _)) (vref_new r4.len)
  · rw [← hlen]
    cases e : s4.heap.get? (s4.heap.push { cls := .type "slice", data := .fields #[vl, vu, vt] }).objs.size with
    | none => rfl
    | some o => exfalso; have := Heap.lt_size e; rw [hlen] at this; exact Nat.lt_irrefl _ (Nat.lt_trans (Nat.lt_succ_self _) this)
  · rw [← hlen]; exact ⟨_, Heap.get?_push_size _ rfl⟩
  · exact OAt.newList (vs := (slicePick vs.toArray l u t).toList) (n := 0) (by rw [← hlen]; exact Heap.get?_push_size _ rfl) (VsRel.mono (List.prefix_append _ _) hms)
end
end Mine
set_option maxHeartbeats 4000000
namespace Mine
section
variable {prog : Program} {w : World} {A : Around} {E : Value → Shared → Prop} {s : Shared}
theorem sub_key_lookup : isSubtype (.type "KeyError") (.type "LookupError") = pure true := by rw [isSubtype_type]; kernel_rfl
theorem look_miss {d : Addr} {f : Int → Option Value} {c : Nat} {Q : Builtin.Str.Mapped → Shared → Prop} (hm : s.heap.MapOf (intKind prog w) d f) (hd : (d == sysModules) = false) (hf : f c = none) (hh : A.handled = none)
    (h : ∀ h' tk, (∀ b o, s.heap.get? b = some o → h'.get? b = some o) → s.toks ≤ tk → Q .keep { s with heap := h', toks := tk }) : wpAny (model prog w) A (Builtin.Str.tableLookup (.ref d) c) Q E s := by
  unfold Builtin.Str.tableLookup
  refine wpAny_bind (wpAny_attempt (wpAny_bind (wpAny_mkInt ?_)))
  refine wpAny_getItem_slot (s := { s with toks := s.toks + 1 }) (Heap.MapOf.typeIs hm) (by decide) slot_dict_getitem ?_
  refine call_meetsIn slot_dict_getitem (Heap.MapOf.typeIs hm) entry_dict_getitem (args_dict_getitem _ _) (meets_dict_getitem_missing (k := (c : Int)) (intKind prog w) d (by simp [intKind, Value.isInt]) hd) ?_
  refine ⟨hh, f, hm, hf, fun h' e he => ?_⟩
  obtain ⟨ob, t, ho, hc, hd'⟩ := he.there
  show wpAny _ _ (do let __do_lift ← isInstance (.ref e) (Value.type "LookupError"); if __do_lift = true then do { rule "str.translate.not-in-table"; pure Builtin.Str.Mapped.keep } else throw (.ref e)) Q E _
  refine wpAny_bind (wpAny_isInstance (T := "KeyError") ⟨ob, ho, hc⟩ sub_key_lookup ?_)
  exact wpAny_bind (wpAny_rule (wpAny_pure (h h' (s.toks + 1 + 1) he.keeps (by lia))))
theorem look_hit {d : Addr} {f : Int → Option Value} {c : Nat} {y : Str} {t : Tok} {Q : Builtin.Str.Mapped → Shared → Prop} (hm : s.heap.MapOf (intKind prog w) d f) (hf : f c = some (.str y t))
    (h : ∀ tk, s.toks ≤ tk → Q (.text y) { s with toks := tk }) : wpAny (model prog w) A (Builtin.Str.tableLookup (.ref d) c) Q E s := by
  unfold Builtin.Str.tableLookup
  refine wpAny_bind (wpAny_attempt (wpAny_bind (wpAny_mkInt ?_)))
  refine wpAny_getItem_slot (s := { s with toks := s.toks + 1 }) (Heap.MapOf.typeIs hm) (by decide) slot_dict_getitem ?_
  refine call_meetsIn slot_dict_getitem (Heap.MapOf.typeIs hm) entry_dict_getitem (args_dict_getitem _ _) (meets_dict_getitem (k := (c : Int)) (knd := intKind prog w) (d := d) (by simp [intKind, Value.isInt])) ?_
  refine ⟨f, _, hm, hf, ?_⟩
  refine wpAny_bind (m := asInt? (.str y t)) (wpAny_pure ?_)
  refine wpAny_bind (m := asStr? (.str y t)) (wpAny_pure ?_)
  exact wpAny_pure (h (s.toks + 1 + 1) (by lia))
theorem tr_keep {d : Addr} {f : Int → Option Value} {c : Nat} {u : Tok} {P : Fin → Shared → Prop} (hm : s.heap.MapOf (intKind prog w) d f) (hd : (d == sysModules) = false) (hf : f c = none) (hc : c < 128) (hh : A.handled = none)
    (h : ∀ h' tk t, (∀ b o, s.heap.get? b = some o → h'.get? b = some o) → s.toks ≤ tk → P (.done (.ret (.str ⟨#[c]⟩ t))) { s with heap := h', toks := tk }) : wpAny (model prog w) A (Builtin.«str.translate» ⟨[.str ⟨#[c]⟩ u, .ref d], []⟩) P E s := by
  unfold Builtin.«str.translate»
  refine wpAny_bind (wpAny_of_eq (a := (.str ⟨#[c]⟩ u, ⟨#[c]⟩, .ref d)) (by first | rfl | kernel_rfl) ?_)
  have e0 : ((⟨#[c]⟩ : Str).length == 0) = false := by rfl
  have e1 : ((⟨#[c]⟩ : Str).cps.all fun x => decide (x < 128)) = true := by simp [hc]
  have e2 : Builtin.Str.tooLong 0 = false := by decide
  have e3 : Builtin.Str.tooLong (0 + 1) = false := by decide
  simp only [e0, e1, Bool.false_eq_true, if_false, ← Array.forIn_toList, List.forIn_cons, List.forIn_nil, e2, List.lookup_nil, if_true]
  refine wpAny_bind (wpAny_bind (wpAny_bind (look_miss hm hd hf hh fun h' tk hk htk => ?_)))
  simp only [pure_bind]
  refine wpAny_pure (wpAny_pure ?_)
  rw [if_neg (by rw [e3]; exact Bool.false_ne_true)]
  refine wpAny_bind (wpAny_mkStr ?_ (by rw [sizeLine_eq]; show ([c].length ≤ _); simp))
  exact wpAny_pure (h h' (tk + 1) tk hk (by lia))
theorem tr_text {d : Addr} {f : Int → Option Value} {c : Nat} {y : Str} {u t0 : Tok} {P : Fin → Shared → Prop} (hm : s.heap.MapOf (intKind prog w) d f) (hd : (d == sysModules) = false) (hf : f c = some (.str y t0)) (hc : c < 128) (hy : (y.length == 1) = false) (hy2 : y.length < 1000) (hh : A.handled = none)
    (h : ∀ tk t, s.toks ≤ tk → P (.done (.ret (.str y t))) { s with toks := tk }) : wpAny (model prog w) A (Builtin.«str.translate» ⟨[.str ⟨#[c]⟩ u, .ref d], []⟩) P E s := by
  unfold Builtin.«str.translate»
  refine wpAny_bind (wpAny_of_eq (a := (.str ⟨#[c]⟩ u, ⟨#[c]⟩, .ref d)) (by first | rfl | kernel_rfl) ?_)
  have e0 : ((⟨#[c]⟩ : Str).length == 0) = false := by rfl
  have e1 : ((⟨#[c]⟩ : Str).cps.all fun x => decide (x < 128)) = true := by simp [hc]
  have e2 : Builtin.Str.tooLong 0 = false := by decide
  simp only [e0, e1, Bool.false_eq_true, if_false, ← Array.forIn_toList, List.forIn_cons, List.forIn_nil, e2, List.lookup_nil, if_true]
  refine wpAny_bind (wpAny_bind (wpAny_bind (look_hit hm hf fun tk htk => ?_)))
  simp only [hy, Bool.false_and, Bool.false_eq_true, if_false, pure_bind]
  refine wpAny_bind (wpAny_rule (wpAny_bind (look_hit (s := { s with toks := tk }) hm hf fun tk2 htk2 => ?_)))
  have e3 : Builtin.Str.tooLong (0 + y.length) = false := by
    have := sizeLine_eq
    unfold Builtin.Str.tooLong
    simp; lia
  refine wpAny_pure (wpAny_pure ?_)
  rw [if_neg (by rw [e3]; exact Bool.false_ne_true)]
  have e4 : (⟨List.foldl (fun (acc : Array Nat) (p : Str) => acc ++ p.cps) #[] ([y] : List Str).reverse⟩ : Str) = y := by simp
  rw [e4]
  refine wpAny_bind (wpAny_mkStr ?_ (by rw [sizeLine_eq]; lia))
  exact wpAny_pure (h (tk2 + 1) tk2 (by have : tk ≤ tk2 := htk2; lia))
end
/-- the table of special signs, as the calls need it -/
structure EscOk (S : Sx) (d : Addr) (f : Int → Option Value) : Prop where
  mg : S.mg "_special_chars_map" = some (.ref d)
  sys : (d == sysModules) = false
  stands : ∀ h : Heap, (∀ b o, S.bpro b = some o → h.get? b = some o) → h.MapOf (intKind S.prog S.w) d f
  hyphen : ∃ t, f 45 = some (.str "\\-" t)
  other : ∀ c : Nat, c ∈ [60, 62, 114, 119, 120, 115, 83, 116, 84] → f c = none
noncomputable def escTxt (c : Nat) : Str := if c = 45 then "\\-" else ⟨#[c]⟩
section
variable {C : Cx} {σ : AS} {pos : Pos} {k : Nat}
theorem Cal.translate {d : Addr} {f : Int → Option Value} {c : Nat} {Q} (hE : EscOk C.toSx d f) (hc : c = 45 ∨ c ∈ [60, 62, 114, 119, 120, 115, 83, 116, 84]) (h : Q (.str (escTxt c)) σ) : Cal C (.raw (.builtin "str.translate")) [.str ⟨#[c]⟩, .raw (.ref d)] σ Q := by
  intro pro α s v vs r hv hvs
  cases hv
  obtain ⟨_, _, rfl, ⟨t, rfl⟩, e⟩ := hvs.two
  cases e
  have hm := hE.stands s.heap fun b o e => r.keep b o (r.sub b o e)
  refine At.done r h fun Q' E kk => ?_
  refine wpAny_call_entry F.slot_str_translate (typeIs_str _ _ _) F.entry_str_translate ?_ (F.args_str_translate_2 _ _)
  rcases hc with rfl | hc
  · obtain ⟨t0, h45⟩ := hE.hyphen
    exact tr_text hm hE.sys h45 (by decide) (by decide) (by decide) C.hd fun tk t htk => ⟨_, rfl, kk _ s.heap tk (fun _ _ e => e) ⟨t, rfl⟩⟩
  · have hne : c ≠ 45 := by rintro rfl; revert hc; decide
    have hlt : c < 128 := by simp at hc; lia
    exact tr_keep hm hE.sys (hE.other c hc) hlt C.hd fun h' tk t hk htk => ⟨_, rfl, kk _ h' tk hk ⟨t, by unfold escTxt; rw [if_neg hne]⟩⟩
theorem Cal.isStr {x : Str} {Q} (h : Q (.bool true) σ) : Cal C (.raw (.builtin "isinstance")) [.str x, .raw (.type "str")] σ Q := by
  intro pro α s v vs r hv hvs
  cases hv
  obtain ⟨_, _, rfl, ⟨t, rfl⟩, e⟩ := hvs.two
  cases e
  exact At.done r h fun Q' E kk => IsiPair.str_str (kk _ s.heap s.toks (fun _ _ e => e) rfl)
theorem GM.tr {M : Model} {A : Around} {E : Value → Shared → Prop} {s : Shared} {x : Str} {t : Tok} {pl : Sem Bool} {Q : Value × List Value → Shared → Prop} (h : Q (.builtin "str.translate", [.str x t]) s) : wpAny M A (getMethod (.str x t) "translate" pl) Q E s :=
  getMethod_builtin (typeIs_str _ _ _) F.plainAttrs_str F.slot_str_translate F.type_str_translate (fun a e => nomatch e) h
end
end Mine
set_option maxHeartbeats 4000000
namespace Mine
open PySem.Builtin.Re
noncomputable def twinWords : Array Value := #[.int 14 0, .int 14 0, .int 4 0, .int 1 0, .int 1 0, .int 9 0, .int 0 0, .int 64 0, .int 0 0, .int 1342177280 0, .int 0 0, .int 0 0, .int 0 0, .int 0 0, .int 0 0, .int 17 0, .int 0 0, .int 13 0, .int 11 0, .int 9 0, .int 0 0, .int 64 0, .int 0 0, .int 1342177280 0, .int 0 0, .int 0 0, .int 0 0, .int 0 0, .int 0 0, .int 17 0, .int 1 0, .int 1 0]
noncomputable def twinCode : Array Nat := (twinWords.map reRawOf).map (·.toNat)
structure TwinAt (h : Heap) (a : Addr) : Prop where
  at' : ∃ b t1 t2 o n, h.get? a = some { cls := .type "re.Pattern", data := .fields #[.str "([&~|])" t1, .int 32 t2, .int 1 0, .none, .none, .ref b, .int 0 0] } ∧ h.get? b = some o ∧ o.data = .seq twinWords n
section
variable {prog : Program} {w : World} {A : Around} {E : Value → Shared → Prop} {s : Shared}
theorem rules_pass {β : Type} {l : List Nat} {p : Nat → Bool} {q : Nat → String} : ∀ {Q : Unit → Shared → Prop}, Q () s → wpAny (model prog w) A (forIn l () fun i _ => if p i = true then (do rule (q i); pure (ForInStep.yield ())) else pure (ForInStep.yield ())) Q E s := by
  induction l with
  | nil => intro Q h; rw [List.forIn_nil]; exact wpAny_pure h
  | cons i l ih =>
    intro Q h
    rw [List.forIn_cons]
    by_cases hp : p i = true
    · rw [if_pos hp]; exact wpAny_bind (wpAny_bind (wpAny_rule (wpAny_pure (ih h))))
    · rw [if_neg hp]; exact wpAny_bind (wpAny_pure (ih h))
theorem run_failed {m : Sre.M} {Q : Option Sre.M → Shared → Prop} (hm : (m.runFor reTurnSteps).outcome = some .failed) (h : Q none s) : wpAny (model prog w) A (reRunToEnd m) Q E s := by
  unfold reRunToEnd
  refine wpAny_bind ?_
  rw [show (2 ^ 64 : Nat) = (2 ^ 64 - 1) + 1 from by decide]
  unfold reDrive
  dsimp only
  rw [if_pos (by rw [hm]; rfl)]
  refine wpAny_pure ?_
  refine wpAny_bind (rules_pass (β := Unit) ?_)
  rw [hm]
  exact wpAny_pure h
theorem no_match_s : ((Sre.forSearch twinCode #[115, 83] 1 0 2 false).runFor reTurnSteps).outcome = some .failed := by kernel_rfl
theorem no_match_t : ((Sre.forSearch twinCode #[116, 84] 1 0 2 false).runFor reTurnSteps).outcome = some .failed := by kernel_rfl
noncomputable def isTwin (x : Str) : Prop := x = ⟨#[115, 83]⟩ ∨ x = ⟨#[116, 84]⟩
noncomputable def tgtOf (a : Addr) (x : Str) (t : Tok) : ReTarget := { pattern := .ref a, string := .str x t, code := twinCode, text := x.cps, kind := 0, groups := 1, pos := 0, lim := x.cps.size }
theorem target {a : Addr} {x : Str} {t : Tok} {Q : ReTarget → Shared → Prop} (hT : TwinAt s.heap a) (h : Q (tgtOf a x t) s) : wpAny (model prog w) A (reWholeTarget (.ref a) (.str x t)) Q E s := by
  obtain ⟨b, t1, t2, o, n, ho, hb, hd⟩ := hT.at'
  unfold reWholeTarget
  refine wpAny_bind (wpAny_fieldsOf ho rfl ?_)
  refine wpAny_bind (m := reTextOf (.str x t)) (wpAny_of_eq (a := (x.cps, 0)) rfl ?_)
  dsimp only
  rw [if_neg (by simp), if_neg (by exact Bool.false_ne_true)]
  refine wpAny_bind (m := reNoCollectionInside (.str x t) 0) (wpAny_of_eq (a := ()) rfl ?_)
  refine wpAny_bind (m := reRawItems (.ref b)) (wpAny_bind (m := seqItems? (.ref b)) (wpAny_seqItems hb hd (wpAny_pure ?_)))
  exact wpAny_pure h
theorem next_none {a : Addr} {x : Str} {t : Tok} {Q : Option Sre.M → Shared → Prop} (hx : isTwin x) (h : Q none s) : wpAny (model prog w) A (reNextFound (tgtOf a x t) 0 false) Q E s := by
  rcases hx with rfl | rfl
  · exact run_failed no_match_s h
  · exact run_failed no_match_t h
theorem join_one (x : Str) (hx : isTwin x) : Txt.join ⟨#[]⟩ [x] = x ∧ JoinOk ⟨#[]⟩ [x] = true := by
  rcases hx with rfl | rfl <;> exact ⟨by rfl, by rfl⟩
theorem loop_sub {a F L : Addr} {x : Str} {t : Tok} {P : Fin → Shared → Prop} (hT : TwinAt s.heap a) (hx : isTwin x) (hL : s.heap.get? L = some { cls := .type "list", data := .seq #[] })
    (h : ∀ h' tk t', Heap.ExtBut L s.heap h' → P (.done (.ret (.str x t'))) { s with heap := h', toks := tk }) :
    wpAny (model prog w) A (Builtin.«re.Pattern.sub.loop» ⟨[.ref a, .str x t, .ref F, rawInt 1, rawInt 0, rawInt 0, rawInt 0, rawInt 0, .bool false, .ref L, .bool false], []⟩) P E s := by
  unfold Builtin.«re.Pattern.sub.loop»
  refine wpAny_bind (target hT ?_)
  simp only [rawInt]
  rw [if_neg (by decide)]
  refine wpAny_bind ?_
  rw [if_neg (by decide)]
  refine next_none (a := a) (t := t) hx ?_
  dsimp only
  have hlen : 0 < x.cps.size := by rcases hx with rfl | rfl <;> decide
  rw [if_pos (show Int.toNat 0 < (tgtOf a x t).lim from hlen)]
  have e1 : (⟨(tgtOf a x t).text.extract (Int.toNat 0) (tgtOf a x t).lim⟩ : Str) = x := by
    show (⟨x.cps.extract 0 x.cps.size⟩ : Str) = x
    rw [Array.extract_size]
  have e2 : (⟨(tgtOf a x t).text.extract 0 0⟩ : Str) = ⟨#[]⟩ := by
    show (⟨x.cps.extract 0 0⟩ : Str) = ⟨#[]⟩
    simp
  have hxl : x.length ≤ sizeLine := by rw [sizeLine_eq]; rcases hx with rfl | rfl <;> decide
  refine wpAny_bind (m := mkStr _) (wpAny_mkStr ?_ (by rw [e1]; exact hxl))
  rw [e1]
  refine wpAny_bind (wpAny_updateSeq (s := { s with toks := s.toks + 1 }) hL rfl ?_)
  refine wpAny_bind (m := mkStr _) (wpAny_mkStr ?_ (by rw [e2, sizeLine_eq]; decide))
  rw [e2]
  dsimp only
  obtain ⟨n', e'⟩ := mapSeq_plain (n := 0) (xs := (#[] : Array Value)) (f := (·.push (.str x s.toks)))
  have e3 : (s.heap.update L (Obj.mapSeq (·.push (.str x s.toks)))).get? L = some { cls := .type "list", data := .seq #[.str x s.toks] n' } := by
    rw [Heap.get?_update_self _ hL (by rw [e']; rfl), e']; simp
  refine wpAny_bind (m := seqItems? (.ref L)) (wpAny_seqItems e3 rfl ?_)
  rw [if_neg (by simp)]
  obtain ⟨j1, j2⟩ := join_one x hx
  have e4 : (#[Value.str x s.toks] : Array Value) = (strValues [(x, s.toks)]).toArray := by rfl
  rw [e4] at e3
  refine wpAny_bind (SC.join (l := [(x, s.toks)]) (texts := [x]) ⟨_, e3, rfl, n', rfl⟩ rfl j2 fun t' tk => ?_)
  rw [j1]
  rw [if_neg (by decide)]
  exact wpAny_pure (h _ _ _ (Heap.SameBut.update ..).extBut)
theorem lk_fn_call : typeLookup (.type "function") "__call__" = pure (some (.builtin "function.__call__")) := by rw [typeLookup_type, builtinLookup_eq_fast]; kernel_rfl
theorem run_sub {a F : Addr} {x : Str} {t : Tok} {P : Fin → Shared → Prop} (hT : TwinAt s.heap a) (hF : s.TypeIs (.ref F) "function")
    (h : P (.again (.builtin "re.Pattern.sub.loop" ⟨[.ref a, .str x t, .ref F, rawInt 1, rawInt 0, rawInt 0, rawInt 0, rawInt 0, .bool false, .ref s.heap.objs.size, .bool false], []⟩)) { s with heap := s.heap.push { cls := .type "list", data := .seq #[] } }) :
    wpAny (model prog w) A (Builtin.«re.Pattern.sub» ⟨[.ref a, .ref F, .str x t], []⟩) P E s := by
  unfold Builtin.«re.Pattern.sub» reSubstitute
  dsimp only
  refine wpAny_bind (wpAny_of_eq (a := [some (.ref F), some (.str x t), none]) (by first | rfl | kernel_rfl) ?_)
  dsimp only
  refine wpAny_bind (wpAny_pure ?_)
  refine wpAny_bind (wpAny_specialOf hF lk_fn_call ?_)
  rw [if_pos (by rfl)]
  refine wpAny_bind (wpAny_pure ?_)
  rw [if_pos (by rfl)]
  refine wpAny_bind (wpAny_pure ?_)
  refine wpAny_bind (wpAny_holding (target hT ?_))
  rw [if_pos (by rfl)]
  refine wpAny_bind (m := reNotHeld "re.Pattern.sub" (.str x t)) ?_
  unfold reNotHeld
  refine wpAny_bind (wpAny_isInstance (T := "str") (b := false) (typeIs_str _ _ _) (by rw [isSubtype_type]; kernel_rfl) ?_)
  rw [if_neg (by decide)]
  refine wpAny_pure ?_
  refine wpAny_bind (m := newList []) (wpAny_newObj_type ?_ (by size_fits))
  exact wpAny_pure h
theorem slot_re_sub : Slot "re.Pattern" "sub" "re.Pattern.sub" :=
  .of (owner := "re.Pattern") (n := "sub") (by rw [typeLookup_type, builtinLookup_eq_fast]; kernel_rfl) (by decide +kernel) (by decide +kernel) (by decide +kernel)
    (by first | exact .inl (by decide +kernel) | exact .inr (by decide +kernel)) (by rw [isSubtype_type]; kernel_rfl)
theorem type_re_sub : typeOf (.builtin "re.Pattern.sub") = pure (.type "method_descriptor") := by show builtinType _ = _; rw [builtinType_eq_fast]; kernel_rfl
theorem entry_re_sub : entryFor table "re.Pattern.sub" = some Builtin.«re.Pattern.sub» := entryFor_of_tree (by kernel_rfl)
theorem entry_re_loop : entryFor table "re.Pattern.sub.loop" = some Builtin.«re.Pattern.sub.loop» := entryFor_of_tree (by kernel_rfl)
theorem args_re_sub (a b c : Value) : argsOk "re.Pattern.sub" ⟨[a, b, c], []⟩ := by unfold argsOk; kernel_rfl
theorem plainAttrs_re : PlainAttrs "re.Pattern" :=
  ⟨⟨"object.__getattribute__", by rw [typeLookup_type, builtinLookup_eq_fast]; kernel_rfl, by decide +kernel⟩, by rw [typeLookup_type, builtinLookup_eq_fast]; kernel_rfl⟩
theorem call_sub {a F : Addr} {x : Str} {t : Tok} {Q : Value → Shared → Prop} (hT : TwinAt s.heap a) (hx : isTwin x) (hF : s.TypeIs (.ref F) "function")
    (h : ∀ h' tk t', (∀ b o, s.heap.get? b = some o → h'.get? b = some o) → Q (.str x t') { s with heap := h', toks := tk }) : wpAny (model prog w) A (call (.builtin "re.Pattern.sub") [.ref a, .ref F, .str x t]) Q E s := by
  have hTa : s.TypeIs (.ref a) "re.Pattern" := by obtain ⟨b, t1, t2, o, n, ho, _⟩ := hT.at'; exact ⟨_, ho, rfl⟩
  refine wpAny_call (codeAny_call_builtin slot_re_sub.plain entry_re_sub (slot_re_sub.check _ _ _ _ _ _ _ _ hTa (args_re_sub _ _ _) (run_sub hT hF ?_)))
  refine ⟨Code.quiet_builtin _ (by decide +kernel), codeAny_builtin entry_re_loop ?_⟩
  have hT2 : TwinAt (s.heap.push { cls := .type "list", data := .seq #[] }) a := by
    obtain ⟨b, t1, t2, o, n, ho, hb, hd⟩ := hT.at'
    exact ⟨b, t1, t2, o, n, push_keep _ _ ho, push_keep _ _ hb, hd⟩
  refine loop_sub (s := { s with heap := s.heap.push { cls := .type "list", data := .seq #[] } }) hT2 hx (Heap.get?_push_size _ rfl) fun h' tk t' hk => ?_
  exact h h' tk t' fun b o e => hk b o (Nat.ne_of_lt (Heap.lt_size e)) (push_keep _ _ e)
end
end Mine
set_option maxHeartbeats 4000000
namespace Mine
section
variable {C : Cx} {pro : Pro} {σ : AS} {α : List Addr} {s : Shared}
theorem Rel.tabPut (r : Rel C pro σ α s) {h' : Heap} {tk : Tok} {ps : Array Value} (hs : Heap.ExtBut C.tp s.heap h') (e : h'.get? C.tp = some (tabObj ps)) (t : C.TI ps) (htk : s.toks ≤ tk) : Rel C pro σ α { s with heap := h', toks := tk } := by
  obtain ⟨t1, t2, t3, _⟩ := r.tab
  refine ⟨Nat.lt_of_lt_of_le r.tk htk, r.sub, by rw [r.sh], fun b ob e => hs b ob (ne_of_none t3.1 e) (r.keep b ob e), r.stat, r.len, r.nodup, fun b hb => let ⟨o, e⟩ := r.live b hb; ⟨o, hs b o (fun q => t1 (q ▸ hb)) e⟩, fun b ob e => hs b ob (ne_of_none t3.2 e) (r.keepF b ob e), r.pf, r.free, r.freeF, r.nL, r.pL, ?_,
    fun i o a e1 e2 => (r.objs i o a e1 e2).mono (List.prefix_refl _) fun o e => hs a o (fun q => t1 (q ▸ List.mem_of_getElem? e2)) e, fun x c e => ?_, r.cinj, ⟨t1, t2, t3, ps, e, t⟩⟩
  · obtain ⟨m, hns, hm⟩ := r.ns
    exact ⟨m, hns.extBut hs (Ne.symm t2), hm⟩
  · obtain ⟨a1, a2, a3, a4, v, ⟨o, hv, hd⟩, q⟩ := r.cel x c e
    exact ⟨a1, a2, a3, a4, v, ⟨o, hs c o a3 hv, hd⟩, q⟩
end
/-- the lambda's place -/
noncomputable def LamTI (ps : Array Value) : Prop := ps = #[] ∨ ∃ c', ps = #[rawInt 58, rawInt 39, .ref c']
structure LamOk (S : Sx) (c : Addr) : Prop where
  hd : ∀ h : Heap, (∀ b o, S.bpro b = some o → h.get? b = some o) → CodeHd h c S.tp
  bi : ∀ h : Heap, (∀ b o, S.bpro b = some o → h.get? b = some o) → h.BuiltinsAt S.mg S.tp
  ne : mainGlobals ≠ S.tp
  ti : ∀ ps, S.TI ps ↔ LamTI ps
  code : ∀ code, CodeOf S (recAt 1) code → code = .ref c
structure TwinOk (S : Sx) (a : Addr) : Prop where
  mg : S.mg "_twin_re_1" = some (.ref a)
  stands : ∀ h : Heap, (∀ b o, S.bpro b = some o → h.get? b = some o) → TwinAt h a
section
variable {C : Cx} {σ : AS} {pos lp : Pos} {k : Nat}
theorem lambda_made {pro : Pro} {α : List Addr} {s : Shared} {E : Value → Shared → Prop} {Q : Value → Shared → Prop} {c : Addr} {args : Arguments} {body : Expr} {sc : Scope} (r : Rel C pro σ α s) (hL : LamOk C.toSx c) (hc : C.env.code = .ref c) (hl : lp.line = 58 ∧ lp.col = 39)
    (hfree : ∀ x ∈ sc.names, x.2 ≠ .free) (hd : defaultsOf args C.env = ([], [])) (hk : args.kwonlyargs = [])
    (h : ∀ F h' tk, s.heap.get? F = none → (∃ o, h'.get? F = some o ∧ o.cls = .type "function") → Rel C pro σ α { s with heap := h', toks := tk } → Q (.ref F) { s with heap := h', toks := tk }) :
    wpAny (model C.prog C.w) C.A (eval (.Lambda args body sc lp) C.env) Q E s := by
  have hbp : ∀ b o, C.bpro b = some o → s.heap.get? b = some o := fun b o e => r.keep b o (r.sub b o e)
  obtain ⟨_, _, _, ps, hP, hT⟩ := r.tab
  have CH := hL.hd s.heap hbp
  have hTI := (hL.ti ps).mp hT
  have htr : TriplesOk ps.toList := by
    rcases hTI with rfl | ⟨c', rfl⟩
    · exact trivial
    · exact trivial
  obtain ⟨bm, ob, hbm, hne0, _, hneP, hbo, hcls, hdict, hdata⟩ := hL.bi s.heap hbp
  have hg := r.facts.g
  rw [arm_eval_Lambda, hd]
  refine wpAny_bind (m := evalAll []) (wpAny_pure ?_)
  refine wpAny_bind (wpAny_holding (m := evalAllOpt []) (wpAny_pure ?_))
  rw [makeFunction_eq, hk]
  simp only [List.zip_nil_left, List.filterMap_nil, List.isEmpty_nil, if_true, pure_bind]
  unfold makeTail
  rw [closureFor_none hfree]
  refine wpAny_bind (wpAny_pure ?_)
  simp only [List.isEmpty_nil, if_true]
  refine wpAny_bind (wpAny_pure ?_)
  rw [C.glob]
  refine wpAny_with_toks (Nat.le_refl _) ?_
  have fin : ∀ (h' : Heap) (tk : Tok), Heap.ExtBut C.tp s.heap h' → (∃ ps', h'.get? C.tp = some (tabObj ps') ∧ C.TI ps') → s.heap.objs.size ≤ h'.objs.size → ∀ fd : FuncData, s.toks ≤ tk → Q (.ref h'.objs.size) { s with heap := h'.push { cls := .type "function", data := .func fd }, toks := tk } := fun h' tk hx ⟨ps', e, t⟩ hsz fd htk => by
    refine h _ _ _ ?_ ⟨_, Heap.get?_push_size _ rfl, rfl⟩ (r.tabPut (ps := ps') (fun b ob hb eb => push_keep _ _ (hx b ob hb eb)) (push_keep _ _ e) t htk)
    cases q : s.heap.get? h'.objs.size with
    | none => rfl
    | some o' => exact absurd (Nat.lt_of_lt_of_le (Heap.lt_size q) hsz) (Nat.lt_irrefl _)
  rcases hTI with rfl | ⟨c', rfl⟩
  · refine wpAny_bind (wpAny_functionCodeX hc (CH.code hP htr) (CH.tab hP) rfl fun c' h' tk hx hge hlt _ hrec htb _ => ?_)
    have hg' := hg.extBut hx hL.ne
    refine wpAny_bind (wpAny_builtinsFor hg' hbm hne0 (hx _ _ hneP hbo) hcls hdict hdata ?_)
    refine wpAny_bind (wpAny_nsGet hg' ?_)
    refine wpAny_bind (wpAny_pure (wpAny_newObj_type (fun htk => ?_) (by size_fits)))
    exact fin h' tk hx ⟨_, htb.2, (hL.ti _).mpr (.inr ⟨c', by rw [hl.1, hl.2]; rfl⟩)⟩ (Nat.le_of_lt (Nat.lt_of_le_of_lt hge hlt)) _ htk
  · have hf : codeAmong lp (#[rawInt 58, rawInt 39, .ref c'] : Array Value).toList = some (.ref c') := by
      show (if ((58 : Int) == lp.line && (39 : Int) == lp.col) = true then some (Value.ref c') else _) = _
      rw [hl.1, hl.2]; rfl
    refine wpAny_bind (wpAny_functionCode_hit hc (CH.code hP htr) hf ?_)
    refine wpAny_bind (wpAny_builtinsFor hg hbm hne0 hbo hcls hdict hdata ?_)
    refine wpAny_bind (wpAny_nsGet hg ?_)
    refine wpAny_bind (wpAny_pure (wpAny_newObj_type (fun htk => ?_) (by size_fits)))
    exact fin s.heap s.toks (fun _ _ _ e => e) ⟨_, hP, hT⟩ (Nat.le_refl _) _ htk
theorem Ev.resub {np p2 np3 : Pos} {args : Arguments} {body : Expr} {sc : Scope} {x : Str} {a c : Addr} {scp : Scope} {pl : Sem Bool} {Q} (hw : TwinOk C.toSx a) (hL : LamOk C.toSx c) (hc : C.env.code = .ref c) (hl : lp.line = 58 ∧ lp.col = 39) (hfree : ∀ x ∈ sc.names, x.2 ≠ .free)
    (hd : defaultsOf args C.env = ([], [])) (hk : args.kwonlyargs = []) (hs : C.env.scope = scp) (hk1 : scp.names.lookup ("_twin_re_1" : Str) = some .globalImplicit) (hk2 : scp.names.lookup ("stuff" : Str) = some .local) (hv : σ.loc "stuff" = some (.str x)) (hx : isTwin x) (h : Q (.str x) σ)
    (hm : eval (.Call (.Attribute (.Name "_twin_re_1" np) "sub" p2) [.Lambda args body sc lp, .Name "stuff" np3] [] pos) C.env = (do
      let ov ← eval (.Name "_twin_re_1" np) C.env
      standAt p2.atName
      let (f, first) ← holding [ov] (getMethod ov "sub" pl)
      callWith pos f first (backTo pos (starEach [.Lambda args body sc lp, .Name "stuff" np3] C.env)) [])) :
    Ev C (.Call (.Attribute (.Name "_twin_re_1" np) "sub" p2) [.Lambda args body sc lp, .Name "stuff" np3] [] pos) σ Q := by
  intro pro α s r Q' E kk
  refine MethodCall_ ((Ev.top (p := .raw (.ref a)) (Q := fun p σ1 => p = .raw (.ref a) ∧ σ1 = σ) hs hk1 ⟨_, hw.mg, fun _ _ => rfl⟩ ⟨rfl, rfl⟩) pro α s r _ _ fun p σ1 α1 s1 v h1 p1 r1 v1 => ?_) hm
  obtain ⟨rfl, rfl⟩ := h1
  cases v1
  have hTw := hw.stands s1.heap fun b o e => r1.keep b o (r1.sub b o e)
  have hTa : s1.TypeIs (.ref a) "re.Pattern" := by obtain ⟨b, t1, t2, o, n, ho, _⟩ := hTw.at'; exact ⟨_, ho, rfl⟩
  refine getMethod_builtin hTa plainAttrs_re slot_re_sub type_re_sub (fun b e => ?_) ?_
  · cases e
    obtain ⟨b, t1, t2, o, n, ho, _⟩ := hTw.at'
    exact ⟨_, ho, rfl⟩
  have he : starEach [.Lambda args body sc lp, .Name "stuff" np3] C.env = [(false, eval (.Lambda args body sc lp) C.env), (false, eval (.Name "stuff" np3) C.env)] := rfl
  rw [he]
  refine callWith_of (P := fun hh => ∃ k, (k = Keeper.frame ∨ k = Keeper.machine ∨ k = Keeper.boundFrame) ∧ Looks (model C.prog C.w) hh (keeperOf (.builtin "re.Pattern.sub")) k) rfl (fun _ p => p) ?_
  refine Calls.evalArgs_plain (Calls.spliced_cons (lambda_made r1 hL hc hl hfree hd hk fun F h' tk hF hFo r2 => Calls.spliced_cons ?_))
  obtain ⟨m, hn, hmm⟩ := r2.ns
  obtain ⟨v, e, hr⟩ := hmm "stuff" _ hv
  obtain ⟨t, rfl⟩ := hr
  refine wpAny_Name (wpAny_loadName_local C.kind (by unfold Env.kindOf; rw [hs]; exact hk2) hn e (Calls.spliced_nil ⟨⟨_, .inr (.inl rfl), .of_pure rfl⟩, ?_⟩)) (by decide)
  obtain ⟨oF, hoF, hcF⟩ := hFo
  refine wpAny_with_toks (Nat.le_refl _) ?_
  refine call_sub (hw.stands _ fun b o e => r2.keep b o (r2.sub b o e)) hx ⟨oF, hoF, hcF⟩ fun h'' tk'' t' hk'' htk => ?_
  exact kk _ _ α1 _ _ h p1 (r2.grow hk'' htk) ⟨t', rfl⟩
end
end Mine
set_option maxHeartbeats 4000000
namespace Mine
section
variable {C : Cx} {σ : AS} {pos : Pos} {k : Nat} {o : Expr} {apos : Pos} {e : Expr} {es : List Expr} {pl : Sem Bool} {Q : PV → AS → Prop}
theorem Ev.m_join (h : Ev C o σ fun a σ1 => ∃ x, a = .str x ∧ Evs C pos (e :: es) σ1 fun ps σ2 => Cal C (.raw (.builtin "str.join")) (.str x :: ps) σ2 Q)
    (hc : eval (.Call (.Attribute o "join" apos) (e :: es) [] pos) C.env = (do
      let ov ← eval o C.env
      standAt apos.atName
      let (f, first) ← holding [ov] (getMethod ov "join" pl)
      callWith pos f first (backTo pos (starEach (e :: es) C.env)) [])) (he : starEach (e :: es) C.env = (false, eval e C.env) :: starEach es C.env) (hp : (backTo pos (starEach es C.env)).any (·.1) = false) : Ev C (.Call (.Attribute o "join" apos) (e :: es) [] pos) σ Q :=
  Ev.methS (id := "str.join") (pl := pl) (fun h => GM.join h) h hc he hp
theorem Ev.m_find (h : Ev C o σ fun a σ1 => ∃ x, a = .str x ∧ Evs C pos (e :: es) σ1 fun ps σ2 => Cal C (.raw (.builtin "str.find")) (.str x :: ps) σ2 Q)
    (hc : eval (.Call (.Attribute o "find" apos) (e :: es) [] pos) C.env = (do
      let ov ← eval o C.env
      standAt apos.atName
      let (f, first) ← holding [ov] (getMethod ov "find" pl)
      callWith pos f first (backTo pos (starEach (e :: es) C.env)) [])) (he : starEach (e :: es) C.env = (false, eval e C.env) :: starEach es C.env) (hp : (backTo pos (starEach es C.env)).any (·.1) = false) : Ev C (.Call (.Attribute o "find" apos) (e :: es) [] pos) σ Q :=
  Ev.methS (id := "str.find") (pl := pl) (fun h => GM.find h) h hc he hp
theorem Ev.m_translate (h : Ev C o σ fun a σ1 => ∃ x, a = .str x ∧ Evs C pos (e :: es) σ1 fun ps σ2 => Cal C (.raw (.builtin "str.translate")) (.str x :: ps) σ2 Q)
    (hc : eval (.Call (.Attribute o "translate" apos) (e :: es) [] pos) C.env = (do
      let ov ← eval o C.env
      standAt apos.atName
      let (f, first) ← holding [ov] (getMethod ov "translate" pl)
      callWith pos f first (backTo pos (starEach (e :: es) C.env)) [])) (he : starEach (e :: es) C.env = (false, eval e C.env) :: starEach es C.env) (hp : (backTo pos (starEach es C.env)).any (·.1) = false) : Ev C (.Call (.Attribute o "translate" apos) (e :: es) [] pos) σ Q :=
  Ev.methS (id := "str.translate") (pl := pl) (fun h => GM.tr h) h hc he hp
theorem Ev.n_esc {sc : Scope} {d f} (hE : EscOk C.toSx d f) (hs : C.env.scope = sc) (hk : sc.names.lookup ("_special_chars_map" : Str) = some .globalImplicit) (h : Q (.raw (.ref d)) σ) : Ev C (.Name "_special_chars_map" pos) σ Q :=
  Ev.top (p := .raw (.ref d)) hs hk ⟨_, hE.mg, fun _ _ => rfl⟩ h
end
end Mine
set_option maxHeartbeats 4000000
namespace Mine
local macro_rules | `(tactic| walk_at $s:str) => wAt s.getString
theorem mem0 : recAt 0 ∈ recsOf PySem.Challenge.pw_rt0035_01 := List.mem_of_getElem? (i := 0) (by rfl)
theorem nm0 : (recAt 0).name = Str.ofString "escape" := by rfl
theorem ok0 : DefOk (recAt 0) ["pattern"] := ⟨fun _ _ _ => one_of fun _ => rfl, by decide, by decide, by decide, by decide, by decide, trivial⟩
theorem f_escape {S lv hp c d f K} (hO : Ok S) (hE : EscOk S d f) (hc : c = 45 ∨ c ∈ [60, 62, 114, 119, 120, 115, 83, 116, 84]) (h : K (.str (escTxt c)) []) : Fn S lv (recAt 0) ["pattern"] [.str ⟨#[c]⟩] hp K := by
  intro C hS hsc hlv hcells hcode
  subst hS
  conv => enter [2]; whnf
  rw [← hsc]
  conv at hsc => rhs; whnf
  rw [hsc]
  generalize hσ : (AS.mk _ _ _ : AS) = σ
  have h1 : σ.loc "pattern" = some (.str ⟨#[c]⟩) := by rw [← hσ]; rfl
  have hh : σ.hp = hp := by rw [← hσ]
  clear hσ
  have he : Ext hp σ.hp := by rw [hh]; exact Ext.refl
  repeat' walk_at "s"
  refine ⟨_, rfl, ?_⟩
  repeat' walk_at "s"
  exact h
end Mine
set_option maxHeartbeats 4000000
namespace Mine
/-- the cells that a comprehension reaches -/
noncomputable def frees (env : Env) : List (Str × NameKind) → List (Str × Addr) → List (Str × Addr)
  | [], acc => acc
  | (n, k) :: r, acc => frees env r (if k == .free then (n, (env.cells.lookup n).getD 0) :: acc else acc)
theorem closure_frees {scope : Scope} {env : Env} (h : ∀ y ∈ scope.names, y.2 = .free → ∃ c, env.cells.lookup y.1 = some c) : closureFor scope env = pure (frees env scope.names []) := by
  unfold closureFor
  have key : ∀ (l : List (Str × NameKind)) (acc : List (Str × Addr)), (∀ y ∈ l, y.2 = .free → ∃ c, env.cells.lookup y.1 = some c) →
      (forIn l acc fun (x : Str × NameKind) (cs : List (Str × Addr)) => (match x with | (name, kind) => if (kind == NameKind.free) = true then (do let a ← cellOf env name; pure (ForInStep.yield ((name, a) :: cs))) else pure (ForInStep.yield cs) : Sem (ForInStep (List (Str × Addr))))) = pure (frees env l acc) := by
    intro l
    induction l with
    | nil => intro acc _; rfl
    | cons x l ih =>
      intro acc hl
      obtain ⟨n, k⟩ := x
      rw [List.forIn_cons]
      by_cases hk : k = .free
      · obtain ⟨c, hc⟩ := hl (n, k) List.mem_cons_self hk
        subst hk
        have e : cellOf env n = pure c := by unfold cellOf; rw [hc]
        simp only [beq_self_eq_true, if_true, e, pure_bind, frees, hc, Option.getD_some]
        exact ih _ fun y hy => hl y (List.mem_cons_of_mem _ hy)
      · have hb : (k == NameKind.free) = false := by simpa using hk
        simp only [hb, Bool.false_eq_true, if_false, pure_bind, frees]
        exact ih _ fun y hy => hl y (List.mem_cons_of_mem _ hy)
  have := key scope.names [] h
  simp only at this ⊢
  rw [this]
  rfl
theorem frees_mem {env : Env} : ∀ (l : List (Str × NameKind)) (acc : List (Str × Addr)) (y : Str) (c : Addr), (y, c) ∈ frees env l acc → (y, c) ∈ acc ∨ ((y, NameKind.free) ∈ l ∧ c = (env.cells.lookup y).getD 0)
  | [], _, _, _, h => .inl h
  | (n, k) :: r, acc, y, c, h => by
    unfold frees at h
    rcases frees_mem r _ y c h with h | ⟨h, e⟩
    · split at h
      · rename_i hk
        have hk : k = .free := by simpa using hk
        rcases List.mem_cons.mp h with h | h
        · cases h; exact .inr ⟨hk ▸ List.mem_cons_self, rfl⟩
        · exact .inl h
      · exact .inl h
    · exact .inr ⟨List.mem_cons_of_mem _ h, e⟩
theorem frees_fst {env : Env} : ∀ (l : List (Str × NameKind)) (acc : List (Str × Addr)), (frees env l acc).map (·.1) = ((l.filter (·.2 == .free)).map (·.1)).reverse ++ acc.map (·.1)
  | [], _ => by simp [frees]
  | (n, k) :: r, acc => by
    unfold frees
    rw [frees_fst r]
    by_cases hk : k = .free
    · subst hk; simp
    · have hb : (k == NameKind.free) = false := by simpa using hk
      simp [hb]
noncomputable def relab (scope sc : Scope) : Scope := { scope with names := scope.names.map fun (n, k) => if (k == .free && sc.kind == .function && sc.names.lookup n == some .cell) then (n, .cell) else (n, k) }
section
variable {C : Cx} {σ : AS} {pos : Pos} {k : Nat} {elt iter : Expr} {x : Str} {px : Pos} {scope sc : Scope} {ifs : List Expr} {cs : List Str}
/-- the body of a comprehension, as it is written by hand -/
noncomputable def Cbx (C : Cx) (sc : Scope) (elt : Expr) (x : Str) (px : Pos) (iter : Expr) (ifs : List Expr) (scope : Scope) (pos : Pos) (it : It) (σ : AS) (Q : List AO → Prop) : Prop :=
  ∀ Cc : Cx, Cc.toSx = C.toSx → Cc.env.scope = relab scope sc → (∀ y, (y, NameKind.free) ∈ scope.names → ∃ c, Cc.env.cells.lookup y = some c) → Cc.lv = C.lv →
    Lc Cc elt x px iter ifs scope pos σ.hp.length it ⟨fun _ => none, σ.cel, σ.hp ++ [.list false []]⟩ fun σ2 => σ2.cel = σ.cel ∧ Q σ2.hp
structure CompOk (C : Cx) (sc scope : Scope) (cs : List Str) : Prop where
  hs : C.env.scope = sc
  hcm : cs = C.env.cells.map (·.1)
  hf : ∀ y ∈ scope.names, y.2 = .free → y.1 ∈ cs
  hnd : ((scope.names.filter (·.2 == .free)).map (·.1)).reverse.Nodup
  hcell : ∀ y ∈ scope.names, y.2 ≠ .cell
  hkind : scope.kind = .function
  hnames : ∀ y ∈ scope.names, y.2 = .local → scope.names.lookup y.1 = some .local
theorem CompOk.cell (K : CompOk C sc scope cs) {y : Str} (h : (y, NameKind.free) ∈ scope.names) : ∃ c, C.env.cells.lookup y = some c :=
  lookup_some_of_mem (by rw [← K.hcm]; exact K.hf _ h rfl)
theorem CompOk.nd (K : CompOk C sc scope cs) : ((frees C.env scope.names []).map (·.1)).Nodup := by
  rw [frees_fst]
  have := K.hnd
  simpa using this
theorem CompOk.cl (K : CompOk C sc scope cs) (y : Str) (c : Addr) (h : (y, c) ∈ frees C.env scope.names []) : (frees C.env scope.names []).lookup y = some c ∧ C.env.cells.lookup y = some c := by
  refine ⟨nodup_lookup K.nd h, ?_⟩
  rcases frees_mem _ _ _ _ h with h | ⟨h, e⟩
  · cases h
  · obtain ⟨c', hc⟩ := K.cell h
    rw [hc] at e ⊢
    exact congrArg some e.symm
theorem CompOk.inner (K : CompOk C sc scope cs) {y : Str} (h : (y, NameKind.free) ∈ scope.names) : ∃ c, (frees C.env scope.names []).lookup y = some c := by
  refine lookup_some_of_mem ?_
  rw [frees_fst]
  simp only [List.map_nil, List.append_nil, List.mem_reverse, List.mem_map, List.mem_filter]
  exact ⟨_, ⟨h, by rfl⟩, rfl⟩
theorem CompOk.cbx (K : CompOk C sc scope cs) {it : It} {Q : List AO → Prop} (h : Cbx C sc elt x px iter ifs scope pos it σ Q) : Cb C elt x px iter ifs scope pos (frees C.env scope.names []) it σ Q := fun Cc h1 _ h3 h4 h5 =>
  h Cc h1 (by rw [h3]; unfold relabel relab Env.kindOf; rw [K.hs]) (fun y hy => by rw [h4]; exact K.inner hy) h5
theorem Ev.compX {Q : PV → AS → Prop} (K : CompOk C sc scope cs) (h : Ev C iter σ fun p σ1 => ∃ it, It.of σ1 p it ∧ Cbx C sc elt x px iter ifs scope pos it σ1 fun hp' => Q (.ref σ1.hp.length) { σ1 with hp := hp' }) (hs : ∀ x, foldedSetIterable iter C.env x = pure x := by intro _; rfl) :
    Ev C (.ListComp elt [⟨.Name x px, iter, ifs, 0⟩] scope pos) σ Q :=
  Ev.comp (closure_frees fun y hy e => K.cell (e ▸ hy)) K.cl K.hcell K.hkind K.hnames (Ev.mono h fun _ _ ⟨it, hi, hb⟩ => ⟨it, hi, K.cbx hb⟩) hs
theorem X1.compX {y : Str} {py spos : Pos} {Q : AF → AS → Prop} (K : CompOk C sc scope cs) (hsw : swapsWith (.ListComp elt [⟨.Name x px, iter, ifs, 0⟩] scope pos) (some (.Name y py)) spos.line C.env = pure true)
    (h : Ev C iter σ fun p σ1 => ∃ it, It.of σ1 p it ∧ Cbx C sc elt x px iter ifs scope pos it σ1 fun hp' => Sto C y (.ref σ1.hp.length) { σ1 with hp := hp' } fun σ2 => Q .next σ2) (hs : ∀ x, foldedSetIterable iter C.env x = pure x := by intro _; rfl) :
    X1 C (.Assign [.Name y py] (.ListComp elt [⟨.Name x px, iter, ifs, 0⟩] scope pos) spos) σ Q :=
  X1.comp hsw (closure_frees fun y hy e => K.cell (e ▸ hy)) K.cl K.hcell K.hkind K.hnames (Ev.mono h fun _ _ ⟨it, hi, hb⟩ => ⟨it, hi, K.cbx hb⟩) hs
/-- all but one object stand -/
noncomputable def Keep (acc : Nat) (a b : List AO) : Prop := ∀ (i : Nat) (o : AO), i ≠ acc → a[i]? = some o → b[i]? = some o
/-- how far a comprehension's list is filled: by what G says of each -/
structure LcI (cel : Str → Option PV) (hp1 : List AO) (G : Nat → PV → List AO → Prop) (j : Nat) (σ : AS) : Prop where
  cel : σ.cel = cel
  ext : Ext hp1 σ.hp
  acc : ∃ xs, σ.hp[hp1.length]? = some (.list false xs) ∧ xs.length = j ∧ ∀ (m : Nat) (q : PV), xs[m]? = some q → G m q σ.hp
theorem LcI.start {cel : Str → Option PV} {hp1 : List AO} {G : Nat → PV → List AO → Prop} {loc : Str → Option PV} : LcI cel hp1 G 0 ⟨loc, cel, hp1 ++ [.list false []]⟩ :=
  ⟨rfl, Ext.refl.app, [], getNew, rfl, fun m q h => by simp at h⟩
theorem LcI.push {cel : Str → Option PV} {hp1 : List AO} {G : Nat → PV → List AO → Prop} {j : Nat} {σ σ2 : AS} {q : PV} (I : LcI cel hp1 G j σ) (mono : ∀ m q a b, Keep hp1.length a b → G m q a → G m q b) (hc : σ2.cel = cel) (hk : ∀ (i : Nat) (o : AO), σ.hp[i]? = some o → σ2.hp[i]? = some o) (he : Ext hp1 σ2.hp) (hq : G j q σ2.hp) (hj : j < 1000000) :
    ∃ xs, σ2.hp[hp1.length]? = some (.list false xs) ∧ xs.length < 1000000 ∧ LcI cel hp1 G (j + 1) { σ2 with hp := σ2.hp.set hp1.length (.list false (xs ++ [q])) } := by
  obtain ⟨xs, h1, h2, h3⟩ := I.acc
  have h1' := hk _ _ h1
  have kp : Keep hp1.length σ2.hp (σ2.hp.set hp1.length (.list false (xs ++ [q]))) := fun i o hi e => getSetNe e hi
  refine ⟨xs, h1', by omega, hc, he.set (Nat.le_refl _), xs ++ [q], getSet h1', by simp [h2], fun m p hm => ?_⟩
  by_cases hlt : m < xs.length
  · rw [List.getElem?_append_left hlt] at hm
    exact mono _ _ _ _ (fun i o hi e => kp i o hi (hk i o e)) (h3 m p hm)
  · rw [List.getElem?_append_right (Nat.le_of_not_lt hlt)] at hm
    have : m = j := by
      have := get_lt hm
      simp at this; omega
    subst this
    rw [← h2] at hm
    simp at hm; subst hm
    exact mono _ _ _ _ kp hq
theorem Lc.rng {cel : Str → Option PV} {hp1 : List AO} {G : Nat → PV → List AO → Prop} {n : Nat} {Q : AS → Prop} (hn : n < 1000000) (mono : ∀ m q a b, Keep hp1.length a b → G m q a → G m q b)
    (step : ∀ j σ, j < n → LcI cel hp1 G j σ → Sto C x (.int j) σ fun σ1 => Ev C elt σ1 fun q σ2 => σ2.cel = cel ∧ (∀ (i : Nat) (o : AO), σ.hp[i]? = some o → σ2.hp[i]? = some o) ∧ Ext hp1 σ2.hp ∧ G j q σ2.hp) (fin : ∀ σ, LcI cel hp1 G n σ → Q σ) :
    ∀ (m na : Nat) (σ : AS), n - na = m → na ≤ n → LcI cel hp1 G na σ → Lc C elt x px iter [] scope pos hp1.length (.rng na m 1) σ Q
  | 0, na, σ, e, hle, hi => Lc.fin (Int.le_refl 0) (fin σ ((by omega : na = n) ▸ hi))
  | m + 1, na, σ, e, hle, hi => by
    refine Lc.step0 (p := .int na) ⟨rfl, by omega, rfl⟩ fun pro α s v r hv => (step na σ (by omega) hi pro α s v r hv).mono fun _ σ1 h1 => Ev.mono h1 fun q σ2 ⟨h2, h3, h4, h5⟩ => ?_
    obtain ⟨xs, a1, a2, a3⟩ := hi.push mono h2 h3 h4 h5 (by omega)
    refine ⟨xs, a1, a2, ?_⟩
    have := Lc.rng hn mono step fin m (na + 1) _ (by omega) (by omega) a3
    rw [show ((m + 1 : Nat) : Int) - 1 = (m : Int) from by omega]
    exact this
theorem Lc.lst {cel : Str → Option PV} {hp1 : List AO} {G : Nat → PV → List AO → Prop} {i : Nat} {ys : List PV} {Q : AS → Prop} (hn : ys.length < 1000000) (mono : ∀ m q a b, Keep hp1.length a b → G m q a → G m q b) (hi1 : ∃ f, hp1[i]? = some (.list f ys))
    (step : ∀ j p σ, ys[j]? = some p → LcI cel hp1 G j σ → Sto C x p σ fun σ1 => Ev C elt σ1 fun q σ2 => σ2.cel = cel ∧ (∀ (i : Nat) (o : AO), σ.hp[i]? = some o → σ2.hp[i]? = some o) ∧ Ext hp1 σ2.hp ∧ G j q σ2.hp) (fin : ∀ σ, LcI cel hp1 G ys.length σ → Q σ) :
    ∀ (m na : Nat) (σ : AS), ys.length - na = m → na ≤ ys.length → LcI cel hp1 G na σ → Lc C elt x px iter [] scope pos hp1.length (.list i na) σ Q
  | 0, na, σ, e, hle, hi => by
    obtain ⟨f, hf⟩ := hi1
    exact Lc.fin ⟨f, ys, hi.ext.get hf, by omega⟩ (fin σ ((by omega : na = ys.length) ▸ hi))
  | m + 1, na, σ, e, hle, hi => by
    have hlt : na < ys.length := by omega
    obtain ⟨f, hf⟩ := id hi1
    refine Lc.step0 (p := ys[na]) ⟨rfl, f, ys, hi.ext.get hf, List.getElem?_eq_getElem hlt⟩ fun pro α s v r hv => (step na _ σ (List.getElem?_eq_getElem hlt) hi pro α s v r hv).mono fun _ σ1 h1 => Ev.mono h1 fun q σ2 ⟨h2, h3, h4, h5⟩ => ?_
    obtain ⟨xs, a1, a2, a3⟩ := hi.push mono h2 h3 h4 h5 (by omega)
    exact ⟨xs, a1, a2, Lc.lst hn mono hi1 step fin m (na + 1) _ (by omega) (by omega) a3⟩
end
end Mine
set_option maxHeartbeats 4000000
namespace Mine
local macro_rules | `(tactic| walk_at $s:str) => wAt s.getString
local macro_rules | `(tactic| walk_at $s:str) => wMore s.getString ["3"] [("3", "f_imode _")] ""
noncomputable def fig (m : Int) (k : Nat) : Int := (((Builtin.bitAnd m 4095).fdiv (8 ^ (2 - k))).fmod 8) + ((Builtin.bitAnd m 4095).fdiv (2 ^ (11 - k))).fmod 2 * 8
theorem eq_mk {xs : List PV} {n : Nat} {g : Nat → PV} (hl : xs.length = n) (h : ∀ (m : Nat) (q : PV), xs[m]? = some q → q = g m) : xs = mk n g := by
  refine List.ext_getElem? fun m => ?_
  by_cases hm : m < n
  · rw [mk_get hm, List.getElem?_eq_getElem (by lia)]
    exact congrArg some (h m _ (List.getElem?_eq_getElem (by lia)))
  · rw [List.getElem?_eq_none (by lia), List.getElem?_eq_none (by rw [mk_length]; lia)]
theorem f_figures {S lv hp a K} (hO : Ok S) (h : K (.ref hp.length) [.list false [.int (fig a 0), .int (fig a 1), .int (fig a 2)]]) : Fn S (lv + 1) (recAt 8) ["mode"] [.int a] hp K := by
  intro C hS hsc hlv hcells hcode
  subst hS
  conv => enter [2]; whnf
  rw [← hsc]
  conv at hsc => rhs; whnf
  rw [hsc]
  generalize hσ : (AS.mk _ _ _ : AS) = σ
  have h1 : σ.loc "mode" = some (.int a) := by rw [← hσ]; rfl
  have hcm : (["rights"] : List Str) = C.env.cells.map (·.1) := by have := hcells 0; exact this
  have hc_rights : ∃ c, C.env.cells.lookup ("rights" : Str) = some c := lookup_some_of_mem (by rw [← hcm]; decide)
  have hh : σ.hp = hp := by rw [← hσ]
  clear hσ
  have he : Ext hp σ.hp := by rw [hh]; exact Ext.refl
  repeat' walk_at "s"
  refine Ev.compX (cs := ["rights"]) ⟨hsc, hcm, by decide, by decide, by decide, by decide, by decide⟩ ?_
  repeat' walk_at "s"
  refine ⟨_, .inr (.inr ⟨_, _, _, getNew, by decide, rfl⟩), ?_⟩
  intro Cc h1 h2 h3 h4
  have hO' : Ok Cc.toSx := h1 ▸ hO
  have hc1 := h3 "rights" (by decide)
  refine Lc.rng (G := fun j q _ => q = .int (fig a j)) (n := 3) (by decide) (fun _ _ _ _ _ h => h) ?_ ?_ 3 0 _ rfl (by decide) LcI.start
  · intro j σ2 hj I
    obtain ⟨i1, i2, i3⟩ := I
    have hr : σ2.cel "rights" = some (.int (Builtin.bitAnd a 4095)) := by rw [i1]; rfl
    obtain rfl | rfl | rfl : j = 0 ∨ j = 1 ∨ j = 2 := by lia
    · repeat' walk_at "s"
      exact ⟨i1, fun _ _ e => e, i2, by unfold fig; rfl⟩
    · repeat' walk_at "s"
      exact ⟨i1, fun _ _ e => e, i2, by unfold fig; rfl⟩
    · repeat' walk_at "s"
      exact ⟨i1, fun _ _ e => e, i2, by unfold fig; rfl⟩
  · intro σ2 I
    obtain ⟨i1, i2, xs, i3, i4, i5⟩ := I
    refine ⟨i1, ?_⟩
    repeat' walk_at "s"
    obtain rfl := eq_mk i4 i5
    have e2 : Ext hp σ2.hp := (he.apps.app).trans i2
    refine fin_new e2 i3 ((he.apps.app).len) ?_ h
    rfl
end Mine
set_option maxHeartbeats 4000000
namespace Mine
section
variable {C : Cx} {σ : AS} {pos tp : Pos} {k : Nat} {elts : List Expr} {body orelse : List Stmt} {i : Nat}
theorem AsnL.cons {t : Expr} {ts : List Expr} {p : PV} {ps : List PV} {Q : AS → Prop} (h : Asn C t p σ fun σ1 => AsnL C ts ps σ1 Q) : AsnL C (t :: ts) (p :: ps) σ Q := h
theorem AsnL.nil {Q : AS → Prop} (h : Q σ) : AsnL C [] [] σ Q := h
theorem StoL.cons {t : Str} {ts : List Str} {p : PV} {ps : List PV} {Q : AS → Prop} (h : Sto C t p σ fun σ1 => StoL C ts ps σ1 Q) : StoL C (t :: ts) (p :: ps) σ Q := h
theorem StoL.nil {Q : AS → Prop} (h : Q σ) : StoL C [] [] σ Q := h
theorem len_ok {ps : List PV} {P : Prop} (h : ps.length < 1000000) (hp : P) : ps.length < 1000000 ∧ P := ⟨h, hp⟩
theorem FoE.all {xs : List PV} {I : Nat → AS → Prop} {Q} (hst : ∀ j σ, I j σ → ∃ f, σ.hp[i]? = some (.tup f xs))
    (hstep : ∀ j p σ, xs[j]? = some p → I j σ → Asn C (.Tuple elts k tp) (.ref σ.hp.length) { σ with hp := σ.hp ++ [.tup false [.int j, p]] } fun σ1 => Xs C body σ1 (loopEnd (I (j + 1)) Q)) (hend : ∀ σ, I xs.length σ → Xs C orelse σ Q) :
    ∀ (m na : Nat) (σ : AS), xs.length - na = m → na ≤ xs.length → I na σ → FoE C elts k tp i na body orelse σ Q
  | 0, na, σ, e, hle, hi => by
    obtain ⟨f, hf⟩ := hst _ _ hi
    exact FoE.fin hf (by lia) (hend σ ((by lia : na = xs.length) ▸ hi))
  | m + 1, na, σ, e, hle, hi => by
    obtain ⟨f, hf⟩ := hst _ _ hi
    have hlt : na < xs.length := by lia
    refine FoE.step hf (List.getElem?_eq_getElem hlt) (Asn.mono (hstep na _ σ (List.getElem?_eq_getElem hlt) hi) fun σ1 h1 => Xs.loop h1 fun σ2 h2 => ?_)
    exact FoE.all hst hstep hend m (na + 1) σ2 (by lia) (by lia) h2
end
section
variable {C : Cx} {σ : AS} {pos : Pos} {k : Nat} {x : Str} {np p : Pos} {lo hi : Option Expr} {sc : Scope}
theorem Ev.slcSn {y : Str} {Q} (hs : C.env.scope = sc) (hk : sc.names.lookup x = some .local) (hv : σ.loc x = some (.str y)) (hd : (x == ("__debug__" : Str)) = false) (hl : y.length < 1000000)
    (h : EvO C lo σ fun pl σ2 => EvO C hi σ2 fun ph σ3 => ∃ l u, optI pl = some l ∧ optI ph = some u ∧ Q (.str (ssl y l u)) σ3) : Ev C (.Subscript (.Name x np) (.Slice lo hi none p) pos) σ Q :=
  Ev.slcS (Ev.loc hs hk hv (Run.mono h fun pl σ2 h2 => Run.mono h2 fun ph σ3 ⟨l, u, a, b, c⟩ => ⟨y, l, u, rfl, hl, a, b, c⟩) hd)
theorem Ev.slcLn {i : Nat} {Q} (hs : C.env.scope = sc) (hk : sc.names.lookup x = some .local) (hv : σ.loc x = some (.ref i)) (hd : (x == ("__debug__" : Str)) = false)
    (h : EvO C lo σ fun pl σ2 => EvO C hi σ2 fun ph σ3 => ∃ f xs l u, σ3.hp[i]? = some (.list f xs) ∧ xs.length < 1000000 ∧ optI pl = some l ∧ optI ph = some u ∧ Q (.ref σ3.hp.length) { σ3 with hp := σ3.hp ++ [.list false (psl xs l u)] }) : Ev C (.Subscript (.Name x np) (.Slice lo hi none p) pos) σ Q :=
  Ev.slcL (Ev.loc hs hk hv (Run.mono h fun pl σ2 h2 => Run.mono h2 fun ph σ3 ⟨f, xs, l, u, a, b, c, d, e⟩ => ⟨i, f, xs, l, u, rfl, a, b, c, d, e⟩) hd)
theorem Ev.slcLc {i : Nat} {Q} (hs : C.env.scope = sc) (hk : sc.names.lookup x = some .cell) (hc : ∃ c, C.env.cells.lookup x = some c) (hv : σ.cel x = some (.ref i)) (hd : (x == ("__debug__" : Str)) = false)
    (h : EvO C lo σ fun pl σ2 => EvO C hi σ2 fun ph σ3 => ∃ f xs l u, σ3.hp[i]? = some (.list f xs) ∧ xs.length < 1000000 ∧ optI pl = some l ∧ optI ph = some u ∧ Q (.ref σ3.hp.length) { σ3 with hp := σ3.hp ++ [.list false (psl xs l u)] }) : Ev C (.Subscript (.Name x np) (.Slice lo hi none p) pos) σ Q :=
  Ev.slcL (Ev.cel hs hk hc hv (Run.mono h fun pl σ2 h2 => Run.mono h2 fun ph σ3 ⟨f, xs, l, u, a, b, c, d, e⟩ => ⟨i, f, xs, l, u, rfl, a, b, c, d, e⟩) hd)
theorem ex_s {pl ph : PV} {l u : Option Int} {P : Option Int → Option Int → Prop} (h1 : optI pl = some l) (h2 : optI ph = some u) (h : P l u) : ∃ l u, optI pl = some l ∧ optI ph = some u ∧ P l u := ⟨l, u, h1, h2, h⟩
theorem ex_l {A : Option AO} {pl ph : PV} {f : Bool} {xs : List PV} {l u : Option Int} {P : List PV → Option Int → Option Int → Prop} (h0 : A = some (.list f xs)) (h1 : optI pl = some l) (h2 : optI ph = some u) (hl : xs.length < 1000000) (h : P xs l u) :
    ∃ f xs l u, A = some (.list f xs) ∧ xs.length < 1000000 ∧ optI pl = some l ∧ optI ph = some u ∧ P xs l u := ⟨f, xs, l, u, h0, hl, h1, h2, h⟩
end
/-- the table of the modes' signs -/
noncomputable def fmTab : List (List (Int × Str)) := [[(40960, "l"), (49152, "s"), (32768, "-"), (24576, "b"), (16384, "d"), (8192, "c"), (4096, "p")], [(256, "r")], [(128, "w")], [(2112, "s"), (2048, "S"), (64, "x")], [(32, "r")], [(16, "w")], [(1032, "s"), (1024, "S"), (8, "x")], [(4, "r")], [(2, "w")], [(513, "t"), (512, "T"), (1, "x")]]
noncomputable def pairO (p : Int × Str) : AO := .tup true [.int p.1, .str p.2]
noncomputable def refsFrom (n c : Nat) : List PV := (List.range c).map fun i => .ref (n + i)
/-- the objects of the table, as they stand -/
noncomputable def hpT : List AO := fmTab.flatten.map pairO ++
  [.tup true (refsFrom 0 7), .tup true (refsFrom 7 1), .tup true (refsFrom 8 1), .tup true (refsFrom 9 3), .tup true (refsFrom 12 1), .tup true (refsFrom 13 1), .tup true (refsFrom 14 3), .tup true (refsFrom 17 1), .tup true (refsFrom 18 1), .tup true (refsFrom 19 3), .tup true (refsFrom 22 10)]
noncomputable def tabAt (j : Nat) : List (Int × Str) := fmTab.getD j []
theorem tab_at : ∀ j < 10, ∃ n, hpT[22 + j]? = some (.tup true (refsFrom n (tabAt j).length)) ∧ ∀ k < (tabAt j).length, hpT[n + k]? = (tabAt j)[k]?.map pairO :=
  lt10 ⟨0, rfl, lt7 rfl rfl rfl rfl rfl rfl rfl⟩ ⟨7, rfl, lt1 rfl⟩ ⟨8, rfl, lt1 rfl⟩ ⟨9, rfl, lt3 rfl rfl rfl⟩ ⟨12, rfl, lt1 rfl⟩ ⟨13, rfl, lt1 rfl⟩ ⟨14, rfl, lt3 rfl rfl rfl⟩ ⟨17, rfl, lt1 rfl⟩ ⟨18, rfl, lt1 rfl⟩ ⟨19, rfl, lt3 rfl rfl rfl⟩
theorem top_at : hpT[32]? = some (.tup true (refsFrom 22 10)) := rfl
structure FmOk (S : Sx) : Prop where
  mg : ∃ a, S.mg "_filemode_table" = some (.ref a) ∧ S.st[32]? = some a
theorem Ev.n_fmt {C : Cx} {σ : AS} {pos : Pos} {sc : Scope} {Q} (hF : FmOk C.toSx) (hs : C.env.scope = sc) (hk : sc.names.lookup ("_filemode_table" : Str) = some .globalImplicit) (h : Q (.ref 32) σ) : Ev C (.Name "_filemode_table" pos) σ Q := by
  obtain ⟨a, h1, h2⟩ := hF.mg
  exact Ev.top (p := .ref 32) hs hk ⟨_, h1, fun α hα => ⟨a, pre_get hα h2, rfl⟩⟩ h
noncomputable def hits (i : Nat) (m : Int) (p : Int × Str) : Bool := if i = 0 then Builtin.bitAnd m 61440 == p.1 else Builtin.bitAnd m p.1 == p.1
noncomputable def sign (m : Int) (i : Nat) : Str := (((tabAt i).find? (hits i m)).map (·.2)).getD (if i = 0 then "?" else "-")
end Mine
set_option maxHeartbeats 4000000
namespace Mine
local macro_rules | `(tactic| walk_at $s:str) => wAt s.getString
theorem mem5 : recAt 5 ∈ recsOf PySem.Challenge.pw_rt0035_01 := List.mem_of_getElem? (i := 5) (by rfl)
theorem nm5 : (recAt 5).name = Str.ofString "filemode" := by rfl
theorem ok5 : DefOk (recAt 5) ["mode"] := ⟨fun _ _ _ => one_of fun _ => rfl, by decide, by decide, by decide, by decide, by decide, trivial⟩
theorem mem10 : recAt 10 ∈ recsOf PySem.Challenge.pw_rt0035_01 := List.mem_of_getElem? (i := 10) (by rfl)
theorem nm10 : (recAt 10).name = Str.ofString "_law_words" := by rfl
theorem ok10 : DefOk (recAt 10) ["mode"] := ⟨fun _ _ _ => one_of fun _ => rfl, by decide, by decide, by decide, by decide, by decide, trivial⟩
local macro_rules | `(tactic| walk_at $s:str) => wMore s.getString ["8"] [("8", "f_figures a _")] ""
noncomputable def code (a : Int) (k : Nat) : Int := if k = 2 ∧ 7 < fig a 2 then fig a 2 + 16 else fig a k
theorem f_codes {S lv hp a K} (hO : Ok S) (h : K (.ref hp.length) [.list false [.int (code a 0), .int (code a 1), .int (code a 2)]]) : Fn S (lv + 2) (recAt 9) ["mode"] [.int a] hp K := by
  intro C hS hsc hlv hcells hcode
  subst hS
  conv => enter [2]; whnf
  rw [← hsc]
  conv at hsc => rhs; whnf
  rw [hsc]
  generalize hσ : (AS.mk _ _ _ : AS) = σ
  have h1 : σ.loc "mode" = some (.int a) := by rw [← hσ]; rfl
  have hh : σ.hp = hp := by rw [← hσ]
  clear hσ
  have he : Ext hp σ.hp := by rw [hh]; exact Ext.refl
  repeat' walk_at "s"
  · rename_i e
    simp only [decide_eq_true_iff] at e
    refine fin_new he.app.app getNew he.app.len rfl ?_
    have h2 : code a 2 = fig a 2 + 16 := if_pos ⟨rfl, e⟩
    rw [h2] at h; exact h
  · rename_i e
    simp only [decide_eq_false_iff_not] at e
    refine fin_new he.app.app getNew he.app.len rfl ?_
    have h2 : code a 2 = fig a 2 := if_neg fun q => e q.2
    rw [h2] at h; exact h
local macro_rules | `(tactic| walk_at $s:str) => wMore s.getString ["8", "4"] [("8", "f_figures a _"), ("4", "f_ifmt _")] ""
theorem find_hit {A : Type} {f : A → Bool} : ∀ {l : List A} {k : Nat} {p : A}, (∀ q x, q < k → l[q]? = some x → f x = false) → l[k]? = some p → f p = true → l.find? f = some p
  | [], _, _, _, h, _ => by simp at h
  | x :: l, 0, p, _, h, hp => by simp at h; subst h; simp [hp]
  | x :: l, k + 1, p, hq, h, hp => by
    have h0 := hq 0 x (by lia) rfl
    rw [List.find?_cons_of_neg (by rw [h0]; exact Bool.false_ne_true)]
    exact find_hit (fun q y hlt e => hq (q + 1) y (by lia) e) h hp
theorem find_none {A : Type} {f : A → Bool} {l : List A} (h : ∀ q x, q < l.length → l[q]? = some x → f x = false) : l.find? f = none := by
  rw [List.find?_eq_none]
  intro x hx
  obtain ⟨i, e⟩ := List.getElem?_of_mem hx
  rw [h i x (get_lt e) e]; exact Bool.false_ne_true
theorem refs_get {n c j : Nat} {p : PV} (h : (refsFrom n c)[j]? = some p) : j < c ∧ p = .ref (n + j) := by
  have hj := get_lt h
  unfold refsFrom at h hj
  simp at hj
  simp [hj] at h
  exact ⟨hj, h.symm⟩
theorem refs_len {n c : Nat} : (refsFrom n c).length = c := by simp [refsFrom]
/-- what stands while the signs are told -/
structure FmB (hp : List AO) (r : Nat) (m : Int) (xs : List PV) (σ : AS) : Prop where
  perm : σ.loc "perm" = some (.ref r)
  mode : σ.loc "mode" = some (.int m)
  list : σ.hp[r]? = some (.list false xs)
  ext : Ext hp σ.hp
  tab : Ext hpT σ.hp
noncomputable def signs (m : Int) (j : Nat) : List PV := (List.range j).map fun i => .str (sign m i)
theorem signs_len {m : Int} {j : Nat} : (signs m j).length = j := by simp [signs]
theorem signs_succ {m : Int} {j : Nat} : signs m (j + 1) = signs m j ++ [.str (sign m j)] := by simp [signs, List.range_succ]
theorem sign_len (m : Int) (i : Nat) : (sign m i).length ≤ 1 := by
  unfold sign
  cases e : (tabAt i).find? (hits i m) with
  | none => simp only [Option.map_none, Option.getD_none]; split <;> decide
  | some p =>
    have hm := List.mem_of_find?_eq_some e
    have hall : ∀ j < 10, ∀ p ∈ tabAt j, p.2.length ≤ 1 := by decide
    by_cases hi : i < 10
    · exact hall i hi p hm
    · have : tabAt i = [] := by unfold tabAt; rw [List.getD_eq_getElem?_getD, List.getElem?_eq_none (by show 10 ≤ i; lia)]; rfl
      rw [this] at hm; cases hm
theorem sign_join (m : Int) : JoinOk ⟨#[]⟩ ((List.range 10).map (sign m)) = true := by
  refine joinOk_of_weight ?_ (by decide)
  have key : ∀ l : List Nat, ((l.map (sign m)).map (·.length)).sum ≤ l.length := by
    intro l
    induction l with
    | nil => simp
    | cons x l ih => have := sign_len m x; simp only [List.map_cons, List.sum_cons, List.length_cons]; lia
  have := key (List.range 10)
  simp only [List.length_range, List.length_map] at this ⊢
  lia
theorem f_filemode {S lv hp a K} (hO : Ok S) (hF : FmOk S) (hT : Ext hpT hp) (h : K (.str (Txt.join ⟨#[]⟩ ((List.range 10).map (sign a)))) []) : Fn S (lv + 1) (recAt 5) ["mode"] [.int a] hp K := by
  intro C hS hsc hlv hcells hcode
  subst hS
  conv => enter [2]; whnf
  rw [← hsc]
  conv at hsc => rhs; whnf
  rw [hsc]
  generalize hσ : (AS.mk _ _ _ : AS) = σ
  have h1 : σ.loc "mode" = some (.int a) := by rw [← hσ]; rfl
  have hh : σ.hp = hp := by rw [← hσ]
  clear hσ
  have he : Ext hp σ.hp := by rw [hh]; exact Ext.refl
  have hT' : Ext hpT σ.hp := by rw [hh]; exact hT
  have hr : hp.length ≤ σ.hp.length := by rw [hh]; exact Nat.le_refl _
  generalize hrr : σ.hp.length = r at hr
  have hr2 : hpT.length ≤ r := by rw [← hrr]; exact hT'.len
  repeat' walk_at "s"
  refine X1.forE ?_ (by walk_at "u")
  repeat' walk_at "s"
  refine ⟨rfl, ?_⟩
  repeat' walk_at "s"
  refine ⟨32, true, refsFrom 22 10, rfl, hT'.app.get top_at, ?_⟩
  refine FoE.all (xs := refsFrom 22 10) (I := fun j σ => FmB hp r a (signs a j) σ) ?_ ?_ ?_ 10 0 _ rfl (Nat.zero_le _) ⟨by rw [← hrr]; walk_at "lk", by walk_at "lk", by rw [← hrr]; exact getNew, he.app, hT'.app⟩
  · intro j σ ⟨b1, b2, b3, b4, b5⟩
    exact ⟨true, b5.get top_at⟩
  · intro j p σ hx ⟨b1, b2, b3, b4, b5⟩
    obtain ⟨hj, rfl⟩ := refs_get hx
    obtain ⟨n, e1, e2⟩ := tab_at j hj
    repeat' walk_at "s"
    refine X1.for ?_
    repeat' walk_at "s"
    refine ⟨_, .inr (.inl ⟨true, _, (b5.app).get e1, rfl⟩), ?_⟩
    refine Fo.tup (xs := refsFrom n (tabAt j).length) (I := fun k σ => FmB hp r a (signs a j) σ ∧ σ.loc "index" = some (.int j) ∧ ∀ q x, q < k → (tabAt j)[q]? = some x → hits j a x = false) ?_ ?_ ?_ (tabAt j).length 0 _ (by rw [refs_len]; rfl) (Nat.zero_le _)
      ⟨⟨by walk_at "lk", by walk_at "lk", getApp b3, b4.app, b5.app⟩, by walk_at "lk", fun q x hq => absurd hq (Nat.not_lt_zero _)⟩
    · intro k σ ⟨⟨b1, b2, b3, b4, b5⟩, b6, b7⟩
      exact ⟨true, b5.get e1⟩
    · intro k p σ hx ⟨⟨b1, b2, b3, b4, b5⟩, b6, b7⟩
      obtain ⟨hk, rfl⟩ := refs_get hx
      obtain ⟨⟨bit, ch⟩, hpk⟩ : ∃ x, (tabAt j)[k]? = some x := ⟨_, List.getElem?_eq_getElem hk⟩
      have hpair : σ.hp[n + k]? = some (.tup true [.int bit, .str ch]) := by rw [b5.get (o := pairO (bit, ch)) (by rw [e2 k hk, hpk]; rfl)]; rfl
      have hmiss : hits j a (bit, ch) = false → ∀ (q : Nat) (x : Int × Str), q < k + 1 → (tabAt j)[q]? = some x → hits j a x = false := fun hm q x hq e => by
        by_cases hqk : q = k
        · subst hqk; rw [hpk] at e; cases e; exact hm
        · exact b7 q x (by lia) e
      have hhit : hits j a (bit, ch) = true → sign a j = ch := fun hm => by
        unfold sign; rw [find_hit b7 hpk hm]; rfl
      have hlen : (signs a j).length < 1000000 := by rw [signs_len]; lia
      repeat' walk_at "s"
      · rename_i e1' e2'
        refine ⟨r, _, rfl, getApp b3, ?_⟩
        repeat' walk_at "s"
        refine Cal.append (getApp b3) hlen ⟨rfl, ?_⟩
        repeat' walk_at "s"
        have hh2 := hhit (by unfold hits; rw [if_pos (by simpa using e1')]; exact e2')
        exact ⟨by walk_at "lk", by walk_at "lk", by rw [signs_succ, hh2]; exact getSet (getApp b3), b4.apps.set hr, b5.apps.set hr2⟩
      · rename_i e1' e2'
        exact ⟨⟨by walk_at "lk", by walk_at "lk", getApp b3, b4.apps, b5.apps⟩, by walk_at "lk", hmiss (by unfold hits; rw [if_pos (by simpa using e1')]; exact e2')⟩
      · rename_i e1' e2'
        refine ⟨r, _, rfl, b3, ?_⟩
        repeat' walk_at "s"
        refine Cal.append b3 hlen ⟨rfl, ?_⟩
        repeat' walk_at "s"
        have hh2 := hhit (by unfold hits; rw [if_neg (by simpa using e1')]; exact e2')
        exact ⟨by walk_at "lk", by walk_at "lk", by rw [signs_succ, hh2]; exact getSet b3, b4.set hr, b5.set hr2⟩
      · rename_i e1' e2'
        exact ⟨⟨by walk_at "lk", by walk_at "lk", b3, b4, b5⟩, by walk_at "lk", hmiss (by unfold hits; rw [if_neg (by simpa using e1')]; exact e2')⟩
    · intro σ ⟨⟨b1, b2, b3, b4, b5⟩, b6, b7⟩
      rw [refs_len] at b7
      have hs : sign a j = if j = 0 then ("?" : Str) else ("-" : Str) := by unfold sign; rw [find_none b7]; rfl
      have hlen : (signs a j).length < 1000000 := by rw [signs_len]; lia
      repeat' walk_at "s"
      · rename_i e1'
        refine ⟨r, _, rfl, b3, ?_⟩
        repeat' walk_at "s"
        refine Cal.append b3 hlen ⟨rfl, ?_⟩
        repeat' walk_at "s"
        rw [if_pos (by simpa using e1')] at hs
        exact ⟨by walk_at "lk", by walk_at "lk", by rw [signs_succ, hs]; exact getSet b3, b4.set hr, b5.set hr2⟩
      · rename_i e1'
        refine ⟨r, _, rfl, b3, ?_⟩
        repeat' walk_at "s"
        refine Cal.append b3 hlen ⟨rfl, ?_⟩
        repeat' walk_at "s"
        rw [if_neg (by simpa using e1')] at hs
        exact ⟨by walk_at "lk", by walk_at "lk", by rw [signs_succ, hs]; exact getSet b3, b4.set hr, b5.set hr2⟩
  · intro σ ⟨b1, b2, b3, b4, b5⟩
    repeat' walk_at "s"
    refine ⟨_, rfl, ?_⟩
    repeat' walk_at "s"
    have e : signs a (refsFrom 22 10).length = ((List.range 10).map (sign a)).map PV.str := by rw [refs_len]; unfold signs; rw [List.map_map]; rfl
    rw [e] at b3
    refine Cal.join b3 (sign_join a) ?_
    repeat' walk_at "s"
    exact h
end Mine
set_option maxHeartbeats 4000000
namespace Mine
local macro_rules | `(tactic| walk_at $s:str) => wAt s.getString
local macro_rules | `(tactic| walk_at $s:str) => wMore s.getString ["5"] [("5", "f_filemode a a a _")] ""
noncomputable def L (x : Str) : List Nat := x.cps.toList
theorem L_ext {x y : Str} (h : L x = L y) : x = y := by
  cases x; cases y; unfold L at h; congr 1; exact Array.toList_inj.mp h
theorem L_app {x y : Str} : L (x ++ y) = L x ++ L y := by
  show (x.cps ++ y.cps).toList = _
  simp [L]
theorem L_len {x : Str} : x.length = (L x).length := by show x.cps.size = _; simp [L]
theorem L_join : ∀ l : List Str, L (Str.join ⟨#[]⟩ l) = (l.map L).flatten
  | [] => rfl
  | [x] => by simp [Str.join]
  | x :: y :: r => by
    show L (x ++ ⟨#[]⟩ ++ Str.join ⟨#[]⟩ (y :: r)) = _
    rw [L_app, L_app, L_join (y :: r)]
    simp [L]
theorem join_eq (sep : Str) (l : List Str) : Txt.join sep l = Str.join sep l := by simpa using join_plain_closes sep l
theorem L_join' (l : List Str) : L (Txt.join ⟨#[]⟩ l) = (l.map L).flatten := by rw [join_eq, L_join]
theorem L_ssl {x : Str} {lo hi : Option Int} : L (ssl x lo hi) = psl (L x) lo hi := by unfold ssl L; simp
noncomputable def mrow (a : Int) : Str := Txt.join ⟨#[]⟩ ((List.range 10).map (sign a))
noncomputable def word (a : Int) (k : Nat) : Str := ssl (mrow a) (some (1 + 3 * k : Nat)) (some (4 + 3 * k : Nat))
theorem mrow_len (a : Int) : (mrow a).length ≤ 10 := by
  unfold mrow
  rw [L_len, L_join']
  have key : ∀ l : List Nat, (((l.map (sign a)).map L).flatten).length ≤ l.length := by
    intro l
    induction l with
    | nil => simp
    | cons x l ih =>
      have := sign_len a x
      rw [L_len] at this
      simp only [List.map_cons, List.flatten_cons, List.length_append, List.length_cons]; omega
  have := key (List.range 10)
  simpa using this
theorem f_words {S lv hp a K} (hO : Ok S) (hF : FmOk S) (hT : Ext hpT hp) (h : K (.ref hp.length) [.list false [.str (word a 0), .str (word a 1), .str (word a 2)]]) : Fn S (lv + 2) (recAt 10) ["mode"] [.int a] hp K := by
  intro C hS hsc hlv hcells hcode
  subst hS
  conv => enter [2]; whnf
  rw [← hsc]
  conv at hsc => rhs; whnf
  rw [hsc]
  generalize hσ : (AS.mk _ _ _ : AS) = σ
  have h1 : σ.loc "mode" = some (.int a) := by rw [← hσ]; rfl
  have hh : σ.hp = hp := by rw [← hσ]
  clear hσ
  have he : Ext hp σ.hp := by rw [hh]; exact Ext.refl
  have hT' : Ext hpT σ.hp := by rw [hh]; exact hT
  have hml : (mrow a).length < 1000000 := Nat.lt_of_le_of_lt (mrow_len a) (by decide)
  repeat' walk_at "s"
  · exact hml
  · exact hml
  · exact hml
  refine fin_new he.apps.app getNew he.apps.len rfl ?_
  exact h
end Mine
set_option maxHeartbeats 4000000
namespace Mine
local macro_rules | `(tactic| walk_at $s:str) => wAt s.getString
noncomputable def fitSet (c : Str) : Str := if (c == "1") = true then "sS" else if (c == "2") = true then "tT" else c
noncomputable def has (x y : Str) : Bool := !(Builtin.Str.occurrences x y 0 x.length 1).isEmpty
noncomputable def fitAt (run piece : Str) (k : Nat) : Bool := (Txt.item run k == "0") || has (fitSet (Txt.item run k)) (Txt.item piece k)
noncomputable def fits (run piece : Str) : Bool := (List.range run.length).all (fitAt run piece)
theorem f_fits {S lv hp run piece K} (hO : Ok S) (hr : run.length < 1000) (hp1 : run.length ≤ piece.length) (hp2 : piece.length < 1000) (h : K (.bool (fits run piece)) []) : Fn S lv (recAt 13) ["run", "piece"] [.str run, .str piece] hp K := by
  intro C hS hsc hlv hcells hcode
  subst hS
  conv => enter [2]; whnf
  rw [← hsc]
  conv at hsc => rhs; whnf
  rw [hsc]
  generalize hσ : (AS.mk _ _ _ : AS) = σ
  have h1 : σ.loc "run" = some (.str run) := by rw [← hσ]; rfl
  have h2 : σ.loc "piece" = some (.str piece) := by rw [← hσ]; rfl
  have hh : σ.hp = hp := by rw [← hσ]
  clear hσ
  have he : Ext hp σ.hp := by rw [hh]; exact Ext.refl
  repeat' walk_at "s"
  refine X1.forR (fun j σ => σ.loc "run" = some (.str run) ∧ σ.loc "piece" = some (.str piece) ∧ Ext hp σ.hp ∧ ∀ q < j, fitAt run piece q = true) 0 run.length (Nat.zero_le _) (by lia) ?_ ?_ ?_
  · repeat' walk_at "s"
    · lia
    · exact ⟨_, rfl, getNew, by walk_at "lk", by walk_at "lk", he.app, fun q hq => absurd hq (Nat.not_lt_zero _)⟩
  · intro j σ _ hj ⟨b1, b2, b3, b4⟩
    have hin : inB (j : Int) run.length := ⟨by lia, by lia⟩
    have hin2 : inB (j : Int) piece.length := ⟨by lia, by lia⟩
    have hnext : fitAt run piece j = true → ∀ q < j + 1, fitAt run piece q = true := fun e q hq => by
      by_cases hqj : q = j
      · subst hqj; exact e
      · exact b4 q (by lia)
    have hbad : fitAt run piece j = false → K (.bool false) [] := fun e => by
      rw [show fits run piece = false from by unfold fits; rw [List.all_eq_false]; exact ⟨j, List.mem_range.mpr hj, by rw [e]; exact Bool.false_ne_true⟩] at h
      exact h
    have hjj : -1000000 < (j : Int) ∧ (j : Int) < 1000000 := by lia
    repeat' walk_at "s"
    all_goals first | exact hin | exact hin2 | exact hjj | skip
    all_goals first
      | (refine ⟨by walk_at "lk", by walk_at "lk", b3, hnext ?_⟩; unfold fitAt fitSet has; simp_all; done)
      | (refine hbad ?_; unfold fitAt fitSet has; simp_all; done)
  · intro σ ⟨b1, b2, b3, b4⟩
    repeat' walk_at "s"
    rw [show fits run piece = true from List.all_eq_true.mpr fun q hq => b4 q (List.mem_range.mp hq)] at h
    exact h
end Mine
set_option maxHeartbeats 4000000
namespace Mine
section
variable {C : Cx} {σ : AS} {pos : Pos} {k : Nat}
theorem Tru.str {x : Str} {Q} (hl : x.length < 1000000) (h : Q ((x.length : Int) != 0) σ) : Tru C (.str x) σ Q := by
  intro pro α s v r e
  obtain ⟨t, rfl⟩ := e
  exact At.done r h fun _ _ kk => PySem.P.truthy_str (by lia) (kk _ _ _ (fun _ _ e => e) rfl)
theorem Cmp.inT {i : Nat} {f : Bool} {xs : List Str} {y : Str} {Q} (hi : σ.hp[i]? = some (.tup f (xs.map PV.str))) (h : Q (.bool (xs.any (· == y))) σ) : Cmp C .In (.str y) (.ref i) σ Q := by
  rintro pro α s v u r ⟨t, rfl⟩ ⟨a, ea, rfl⟩
  obtain ⟨vs, hL, hV⟩ := r.objs i _ a hi ea
  obtain ⟨l, rfl, rfl⟩ := strs_inv hV
  refine At.done r h fun Q' E kk => PySem.SeqAt.in_tupleAt (fun v => match v with | .str z _ => z == y | _ => false) hL (fun v hv => ?_) (kk _ s.heap s.toks (fun _ _ e => e) ?_)
  · rw [List.mem_toArray] at hv
    unfold strValues at hv
    obtain ⟨⟨z, u⟩, hz, rfl⟩ := List.mem_map.mp hv
    intro prog w E Q h
    exact wpAny_eqBool_str h
  · show Value.bool _ = Value.bool _
    congr 1
    unfold strValues
    simp [List.any_map, Function.comp_def]
theorem Ev.negc {i : Int} {p : Pos} {Q} (h : Q (.int (-i)) σ) : Ev C (.UnaryOp .USub (.Constant (.int i) k p) pos) σ Q := Ev.neg (Ev.cInt ⟨rfl, h⟩)
theorem and_rfl {A : Type} {a : A} {P : Prop} (p : P) : a = a ∧ P := ⟨rfl, p⟩
theorem br_dt {b : Bool} {P Q : Prop} (h : b = true) (p : P) : (b = true → P) ∧ (b = false → Q) := ⟨fun _ => p, fun e => by rw [h] at e; cases e⟩
theorem br_df {b : Bool} {P Q : Prop} (h : b = false) (q : Q) : (b = true → P) ∧ (b = false → Q) := ⟨fun e => (by rw [h] at e; cases e), fun _ => q⟩
theorem br_dt' {b : Bool} {P Q : Prop} (h : b = true) (p : P) : (b = false → Q) ∧ (b = true → P) := ⟨fun e => (by rw [h] at e; cases e), fun _ => p⟩
theorem br_df' {b : Bool} {P Q : Prop} (h : b = false) (q : Q) : (b = false → Q) ∧ (b = true → P) := ⟨fun _ => q, fun e => by rw [h] at e; cases e⟩
theorem item_at {x : Str} {k : Nat} {c : Nat} (h : x.cps.toList[k]? = some c) : Txt.item x (k : Int) = ⟨#[c]⟩ := by
  have hk := get_lt h
  have e : Txt.item x (k : Int) = ⟨#[(x.cps[k]?).getD 0]⟩ := by
    have e0 : seqIndex? (k : Int) x.length = some k := by
      have hk2 : k < x.length := by show k < x.cps.size; simpa using hk
      unfold seqIndex?
      rw [if_neg (by omega : ¬ (k : Int) < 0)]
      have h1 : (0 ≤ (k : Int) && (k : Int) < (x.length : Int)) = true := by simp; omega
      simp only [h1, if_true]
      simp
    unfold Txt.item Txt.charAt
    rw [e0]; rfl
  rw [e, ← Array.getElem?_toList, h]; rfl
theorem Sub.strI {x : Str} {np : Pos} {slice : Expr} {y : Str} {j : Int} {c : Nat} {Q} (hx : y.cps.toList[j.toNat]? = some c) (h0 : 0 ≤ j) (hl : y.length < 1000000) (h : Q (.str ⟨#[c]⟩) σ)
    (hs : ∀ t k u, subscripted slice false (.str y t) (.int k u) = operate [.str y t, .int k u] (getItem (.str y t) (.int k u))) : Sub C (.Name x np) slice (.str y) (.int j) σ Q := by
  have hlt := get_lt hx
  have e1 : y.cps.toList.length = y.length := by show _ = y.cps.size; simp
  have e2 : ((j.toNat : Nat) : Int) = j := by lia
  refine Sub.str (by lia) ⟨by lia, by lia⟩ ?_ hs
  rw [← e2, item_at hx]; exact h
theorem Sub.last {x : Str} {np : Pos} {slice : Expr} {i : Nat} {f : Bool} {xs : List PV} {p : PV} {Q} (hi : σ.hp[i]? = some (.list f xs)) (hx : xs.getLast? = some p) (hl : xs.length < 1000000) (h : Q p σ)
    (hs : ∀ l k u, subscripted slice false (.ref l) (.int k u) = operate [.ref l, .int k u] (getItem (.ref l) (.int k u))) : Sub C (.Name x np) slice (.ref i) (.int (-1)) σ Q := by
  have hne : xs.length ≠ 0 := fun e => by rw [List.length_eq_zero_iff.mp e] at hx; cases hx
  refine Sub.list hi (by lia) ⟨by lia, by lia⟩ ?_ h hs
  unfold idx
  rw [if_neg (by lia)]
  rw [List.getLast?_eq_getElem?] at hx
  rw [← hx]; congr 1; lia
theorem Sub.listJ {x : Str} {np : Pos} {slice : Expr} {i : Nat} {f : Bool} {xs : List PV} {j : Int} {p : PV} {Q} (hi : σ.hp[i]? = some (.list f xs)) (hx : xs[j.toNat]? = some p) (h0 : 0 ≤ j) (hl : xs.length < 1000000) (h : Q p σ)
    (hs : ∀ l k u, subscripted slice false (.ref l) (.int k u) = operate [.ref l, .int k u] (getItem (.ref l) (.int k u))) : Sub C (.Name x np) slice (.ref i) (.int j) σ Q := by
  have hlt := get_lt hx
  exact Sub.list hi (by lia) ⟨by lia, by lia⟩ (by unfold idx; rw [if_pos h0]; exact hx) h hs
end
end Mine
set_option maxHeartbeats 4000000
namespace Mine
local macro_rules | `(tactic| walk_at $s:str) => wAt s.getString
theorem mem1 : recAt 1 ∈ recsOf PySem.Challenge.pw_rt0035_01 := List.mem_of_getElem? (i := 1) (by rfl)
theorem nm1 : (recAt 1).name = Str.ofString "_translate" := by rfl
theorem ok1 : DefOk (recAt 1) ["pat", "STAR", "QUESTION_MARK"] := ⟨fun _ _ _ => three_of fun _ _ _ => rfl, by decide, by decide, by decide, by decide, by decide, trivial⟩
local macro_rules | `(tactic| walk_at $s:str) => wMore s.getString ["0"] [("0", "f_escape a a a _")] ""
inductive Tk where
  | star | quest
  | chr (c : Nat)
  | set (b : Bool)
noncomputable def Tk.src : Tk → List Nat
  | .star => [42]
  | .quest => [63]
  | .chr c => [c]
  | .set false => [91, 115, 83, 93]
  | .set true => [91, 116, 84, 93]
noncomputable def Tk.part (rs : Nat) (qm : Str) : Tk → PV
  | .star => .ref rs
  | .quest => .str qm
  | .chr c => .str (escTxt c)
  | .set false => .str "[sS]"
  | .set true => .str "[tT]"
noncomputable def srcOf (ts : List Tk) : List Nat := (ts.map Tk.src).flatten
noncomputable def off (ts : List Tk) (m : Nat) : Nat := (srcOf (ts.take m)).length
theorem src_split {ts : List Tk} {m : Nat} {tk : Tk} (h : ts[m]? = some tk) : srcOf ts = srcOf (ts.take m) ++ tk.src ++ srcOf (ts.drop (m + 1)) := by
  have e : ts = ts.take m ++ tk :: ts.drop (m + 1) := by
    obtain ⟨hlt, he⟩ := List.getElem?_eq_some_iff.mp h
    rw [← he, ← List.drop_eq_getElem_cons hlt, List.take_append_drop]
  unfold srcOf
  conv => lhs; rw [e]
  simp
theorem off_succ {ts : List Tk} {m : Nat} {tk : Tk} (h : ts[m]? = some tk) : off ts (m + 1) = off ts m + tk.src.length := by
  unfold off
  rw [List.take_add_one, h]
  simp [srcOf]
theorem src_at {ts : List Tk} {m q : Nat} {tk : Tk} (h : ts[m]? = some tk) (hq : q < tk.src.length) : (srcOf ts)[off ts m + q]? = tk.src[q]? := by
  rw [src_split h]
  unfold off
  rw [List.append_assoc, List.getElem?_append_right (by omega), List.getElem?_append_left (by omega)]
  congr 1; omega
theorem off_le {ts : List Tk} {m : Nat} {tk : Tk} (h : ts[m]? = some tk) : off ts m + tk.src.length ≤ (srcOf ts).length := by
  rw [src_split h]; unfold off; simp
theorem off_end {ts : List Tk} : off ts ts.length = (srcOf ts).length := by unfold off; rw [List.take_length]
theorem src_len : ∀ ts : List Tk, ts.length ≤ (srcOf ts).length
  | [] => Nat.le_refl _
  | tk :: ts => by
    have := src_len ts
    have h : 0 < tk.src.length := by cases tk with | set b => cases b <;> decide | _ => exact Nat.one_pos
    have e : srcOf (tk :: ts) = tk.src ++ srcOf ts := by simp [srcOf]
    rw [e]; simp; lia
theorem part_str {rs : Nat} {qm : Str} {tk : Tk} (h : tk ≠ .star) : ∃ y, tk.part rs qm = .str y := by
  cases tk with
  | star => exact absurd rfl h
  | set b => cases b <;> exact ⟨_, rfl⟩
  | _ => exact ⟨_, rfl⟩
theorem plain_c {c : Nat} (h : c = 45 ∨ c ∈ [60, 62, 114, 119, 120, 115, 83, 116, 84]) : ((⟨#[c]⟩ : Str) == "*") = false ∧ ((⟨#[c]⟩ : Str) == "?") = false ∧ ((⟨#[c]⟩ : Str) == "[") = false := by
  simp at h
  rcases h with rfl | rfl | rfl | rfl | rfl | rfl | rfl | rfl | rfl | rfl <;> decide
theorem ssl_two {l : List Nat} {n x0 x1 : Nat} {i j : Int} (h1 : l[n + 1]? = some x0) (h2 : l[n + 2]? = some x1) (hi : i = (n : Int) + 1) (hj : j = (n : Int) + 1 + 1 + 1) : ssl ⟨l.toArray⟩ (some i) (some j) = ⟨#[x0, x1]⟩ := by
  subst hi hj
  have l1 := get_lt h1
  have l2 := get_lt h2
  unfold ssl psl
  have c1 : clip (some ((n : Int) + 1)) 0 l.length = n + 1 := by unfold clip; simp only; rw [if_neg (by lia)]; lia
  have c2 : clip (some ((n : Int) + 1 + 1 + 1)) l.length l.length = n + 3 := by unfold clip; simp only; rw [if_neg (by lia)]; lia
  simp only [List.toList_toArray, c1, c2]
  have e : (l.drop (n + 1)).take (n + 3 - (n + 1)) = [x0, x1] := by
    rw [show n + 3 - (n + 1) = 2 from by lia]
    rw [List.drop_eq_getElem_cons l1, List.take_succ_cons, List.drop_eq_getElem_cons l2, List.take_succ_cons, List.take_zero]
    rw [List.getElem?_eq_getElem l1] at h1
    rw [List.getElem?_eq_getElem l2] at h2
    cases h1; cases h2; rfl
  rw [e]
theorem set_src {rs : Nat} {qm : Str} (b : Bool) : ∃ x0 x1, (Tk.set b).src = [91, x0, x1, 93] ∧ ((x0 = 115 ∧ x1 = 83) ∨ (x0 = 116 ∧ x1 = 84)) ∧ (Tk.set b).part rs qm = .str ("[" ++ ⟨#[x0, x1]⟩ ++ "]") := by
  cases b
  · exact ⟨115, 83, rfl, .inl ⟨rfl, rfl⟩, rfl⟩
  · exact ⟨116, 84, rfl, .inr ⟨rfl, rfl⟩, rfl⟩
structure TrI (hp : List AO) (ts : List Tk) (rs r : Nat) (qm : Str) (m : Nat) (σ : AS) : Prop where
  pat : σ.loc "pat" = some (.str ⟨(srcOf ts).toArray⟩)
  star : σ.loc "STAR" = some (.ref rs)
  quest : σ.loc "QUESTION_MARK" = some (.str qm)
  res : σ.loc "res" = some (.ref r)
  add : σ.loc "add" = some (.ref (r + 1))
  i : σ.loc "i" = some (.int (off ts m))
  n : σ.loc "n" = some (.int (⟨(srcOf ts).toArray⟩ : Str).length)
  list : σ.hp[r]? = some (.list false ((ts.take m).map (Tk.part rs qm)))
  app : σ.hp[r + 1]? = some (.app r)
  ext : Ext hp σ.hp
  le : m ≤ ts.length
theorem f_translate {S lv hp ts rs qm d f a c K} (hO : Ok S) (hE : EscOk S d f) (hw : TwinOk S a) (hL : LamOk S c) (hlen : (srcOf ts).length < 1000) (hrs : rs < hp.length)
    (hok : ∀ (m c : Nat), ts[m]? = some (.chr c) → c = 45 ∨ c ∈ [60, 62, 114, 119, 120, 115, 83, 116, 84]) (hst : ∀ m, ts[m + 1]? = some .star → ts[m]? ≠ some .star)
    (h : K (.ref hp.length) [.list false (ts.map (Tk.part rs qm))]) : Fn S (lv + 1) (recAt 1) ["pat", "STAR", "QUESTION_MARK"] [.str ⟨(srcOf ts).toArray⟩, .ref rs, .str qm] hp K := by
  intro C hS hsc hlv hcells hcode
  subst hS
  conv => enter [2]; whnf
  rw [← hsc]
  conv at hsc => rhs; whnf
  rw [hsc]
  generalize hσ : (AS.mk _ _ _ : AS) = σ
  have h1 : σ.loc "pat" = some (.str ⟨(srcOf ts).toArray⟩) := by rw [← hσ]; rfl
  have h2 : σ.loc "STAR" = some (.ref rs) := by rw [← hσ]; rfl
  have h3 : σ.loc "QUESTION_MARK" = some (.str qm) := by rw [← hσ]; rfl
  have hh : σ.hp = hp := by rw [← hσ]
  clear hσ
  have he : Ext hp σ.hp := by rw [hh]; exact Ext.refl
  have hcd := hL.code _ hcode
  have hpl : (⟨(srcOf ts).toArray⟩ : Str).length = (srcOf ts).length := by show (srcOf ts).toArray.size = _; simp
  repeat' walk_at "s"
  refine ⟨_, _, rfl, getNew, ?_⟩
  repeat' walk_at "s"
  refine X1.swap (xs := ["i", "n"]) ?_ (by walk_at "u") (by unfold swappedStores Env.blockKind Env.kindOf; rw [hsc]; rfl)
  repeat' walk_at "s"
  · rw [hpl]; lia
  refine ⟨_, false, [.int 0, .int _], rfl, getNew, rfl, ?_⟩
  show StoL C ["n", "i"] [.int _, .int 0] _ _
  repeat' walk_at "s"
  have hr : hp.length ≤ σ.hp.length := by rw [hh]; exact Nat.le_refl _
  generalize hrr : σ.hp.length = r at hr
  refine X1.whileI (TrI hp ts rs r qm) (fun m => ts.length - m) 0 ?_ ?_
  · refine ⟨by walk_at "lk", by walk_at "lk", by walk_at "lk", by rw [← hrr]; walk_at "lk", ?_, by walk_at "lk", by walk_at "lk", ?_, ?_, he.app.app.app, Nat.zero_le _⟩
    · rw [← hrr]
      show some (PV.ref (σ.hp ++ [AO.list false []]).length) = _
      simp
    · rw [← hrr]; exact getApp (getApp getNew)
    · rw [← hrr]
      have := getNew (l := σ.hp ++ [AO.list false []]) (o := AO.app σ.hp.length)
      simp only [List.length_append, List.length_cons, List.length_nil, Nat.zero_add] at this
      exact getApp this
  · intro m σ I
    obtain ⟨t1, t2, t3, t4, t5, t6, t7, t8, t9, t10, t11⟩ := I
    rcases e : ts[m]? with _ | tk
    · have hm : m = ts.length := by have := List.getElem?_eq_none_iff.mp e; lia
      subst hm
      have hf : decide (((off ts ts.length : Nat) : Int) < ((⟨(srcOf ts).toArray⟩ : Str).length : Int)) = false := by rw [off_end, hpl]; simp
      have hee : (((off ts ts.length : Nat) : Int) == ((⟨(srcOf ts).toArray⟩ : Str).length : Int)) = true := by rw [off_end, hpl]; simp
      repeat' walk_at "s"
      refine ⟨hee, ?_⟩
      repeat' walk_at "s"
      rw [List.take_length] at t8
      refine fin_new t10 t8 hr ?_ h
      rw [List.all_eq_true]
      intro p hp
      obtain ⟨tk, _, rfl⟩ := List.mem_map.mp hp
      cases tk with
      | star => exact decide_eq_true hrs
      | set b => cases b <;> rfl
      | _ => rfl
    · have hlt := off_le e
      have hs0 := off_succ e
      have hm := get_lt e
      have hpos : 0 < tk.src.length := by cases tk with | set b => cases b <;> decide | _ => exact Nat.one_pos
      have hf : decide (((off ts m : Nat) : Int) < ((⟨(srcOf ts).toArray⟩ : Str).length : Int)) = true := by rw [hpl]; simp; lia
      have at' : ∀ (q c : Nat) (j : Int), tk.src[q]? = some c → j.toNat = off ts m + q → (⟨(srcOf ts).toArray⟩ : Str).cps.toList[j.toNat]? = some c := fun q c j h1 h2 => by
        rw [h2]
        show (srcOf ts).toArray.toList[off ts m + q]? = some c
        rw [show (srcOf ts).toArray.toList = srcOf ts from rfl, src_at e (get_lt h1)]; exact h1
      have hl8 : ((ts.take m).map (Tk.part rs qm)).length < 1000000 := by
        have := src_len ts
        simp; lia
      have nxt : ∀ σ' : AS, σ'.loc "pat" = σ.loc "pat" → σ'.loc "STAR" = σ.loc "STAR" → σ'.loc "QUESTION_MARK" = σ.loc "QUESTION_MARK" → σ'.loc "res" = σ.loc "res" → σ'.loc "add" = σ.loc "add" → σ'.loc "n" = σ.loc "n" →
          σ'.loc "i" = some (.int (off ts (m + 1) : Nat)) → σ'.hp[r]? = some (.list false ((ts.take m).map (Tk.part rs qm) ++ [tk.part rs qm])) → σ'.hp[r + 1]? = some (.app r) → Ext hp σ'.hp → ∃ a', ts.length - a' < ts.length - m ∧ TrI hp ts rs r qm a' σ' :=
        fun σ' e1 e2 e3 e4 e5 e6 e7 e8 e9 e10 => ⟨m + 1, by lia, e1.trans t1, e2.trans t2, e3.trans t3, e4.trans t4, e5.trans t5, e7, e6.trans t7, by rw [e8, List.take_add_one, e]; simp, e9, e10, by lia⟩
      cases tk with
      | quest =>
        have hx := at' 0 63 (off ts m : Int) rfl (by lia)
        repeat' walk_at "s"
        refine kcal_app t9 (Cal.appR t9 t8 hl8 ⟨rfl, ?_⟩)
        repeat' walk_at "s"
        exact nxt _ rfl rfl rfl rfl rfl rfl (by rw [hs0]; rfl) (getSet t8) (getSetNe t9 (by lia)) (t10.set hr)
      | star =>
        have hx := at' 0 42 (off ts m : Int) rfl (by lia)
        rcases m with _ | m'
        · have he1 : (!!((ts.take 0).map (Tk.part rs qm)).isEmpty) = true := rfl
          repeat' walk_at "s"
          · exact hl8
          refine kcal_app t9 (Cal.appR t9 t8 hl8 ⟨rfl, ?_⟩)
          repeat' walk_at "s"
          exact nxt _ rfl rfl rfl rfl rfl rfl (by rw [hs0]; rfl) (getSet t8) (getSetNe t9 (by lia)) (t10.set hr)
        · obtain ⟨tk', e'⟩ : ∃ tk', ts[m']? = some tk' := ⟨_, List.getElem?_eq_getElem (by lia)⟩
          obtain ⟨y, hy⟩ := part_str (rs := rs) (qm := qm) (fun q => hst m' e (by rw [e', q]) : tk' ≠ .star)
          have hlast : ((ts.take (m' + 1)).map (Tk.part rs qm)).getLast? = some (.str y) := by
            rw [List.take_add_one, e']; simp [hy]
          have he1 : (!!((ts.take (m' + 1)).map (Tk.part rs qm)).isEmpty) = false := by
            rw [List.take_add_one, e']; simp
          repeat' walk_at "s"
          · exact hl8
          refine kcal_app t9 (Cal.appR t9 t8 hl8 ⟨rfl, ?_⟩)
          repeat' walk_at "s"
          exact nxt _ rfl rfl rfl rfl rfl rfl (by rw [hs0]; rfl) (getSet t8) (getSetNe t9 (by lia)) (t10.set hr)
      | chr c =>
        have hcc := hok m c e
        have hx := at' 0 c (off ts m : Int) rfl (by lia)
        obtain ⟨n1, n2, n3⟩ := plain_c hcc
        repeat' walk_at "s"
        refine kcal_app (getApp t9) (Cal.appR (getApp t9) (getApp t8) hl8 ⟨rfl, ?_⟩)
        repeat' walk_at "s"
        exact nxt _ rfl rfl rfl rfl rfl rfl (by rw [hs0]; rfl) (getSet (getApp t8)) (getSetNe (getApp t9) (by lia)) (t10.apps.set hr)
      | set b =>
        obtain ⟨x0, x1, hsrc, htw, hpart⟩ := set_src (rs := rs) (qm := qm) b
        rw [hsrc] at hlt hs0
        simp only [List.length_cons, List.length_nil] at hlt hs0
        have hx := at' 0 91 (off ts m : Int) (by rw [hsrc]; rfl) (by lia)
        have hx1 := at' 1 x0 ((off ts m : Int) + 1) (by rw [hsrc]; rfl) (by lia)
        have hx2 := at' 2 x1 ((off ts m : Int) + 1 + 1) (by rw [hsrc]; rfl) (by lia)
        have hx3 := at' 3 93 ((off ts m : Int) + 1 + 1 + 1) (by rw [hsrc]; rfl) (by lia)
        have hj1 : decide ((off ts m : Int) + 1 < ((⟨(srcOf ts).toArray⟩ : Str).length : Int)) = true := by rw [hpl]; simp; lia
        have hj2 : decide ((off ts m : Int) + 1 + 1 < ((⟨(srcOf ts).toArray⟩ : Str).length : Int)) = true := by rw [hpl]; simp; lia
        have hj3 : decide ((off ts m : Int) + 1 + 1 + 1 < ((⟨(srcOf ts).toArray⟩ : Str).length : Int)) = true := by rw [hpl]; simp; lia
        have hj4 : decide (((⟨(srcOf ts).toArray⟩ : Str).length : Int) ≤ (off ts m : Int) + 1 + 1 + 1) = false := by rw [hpl]; simp; lia
        have n1 : ((⟨#[x0]⟩ : Str) == "!") = false := by rcases htw with ⟨rfl, rfl⟩ | ⟨rfl, rfl⟩ <;> decide
        have n2 : ((⟨#[x0]⟩ : Str) == "]") = false := by rcases htw with ⟨rfl, rfl⟩ | ⟨rfl, rfl⟩ <;> decide
        have n3 : ((⟨#[x0]⟩ : Str) != "]") = true := by rcases htw with ⟨rfl, rfl⟩ | ⟨rfl, rfl⟩ <;> decide
        have n4 : ((⟨#[x1]⟩ : Str) != "]") = true := by rcases htw with ⟨rfl, rfl⟩ | ⟨rfl, rfl⟩ <;> decide
        have hss : ssl ⟨(srcOf ts).toArray⟩ (some ((off ts m : Int) + 1)) (some ((off ts m : Int) + 1 + 1 + 1)) = ⟨#[x0, x1]⟩ := by
          have e1 : (srcOf ts)[off ts m + 1]? = some x0 := by have := src_at e (q := 1) (by rw [hsrc]; exact (by lia : 1 < 4)); rw [hsrc] at this; exact this
          have e2 : (srcOf ts)[off ts m + 2]? = some x1 := by have := src_at e (q := 2) (by rw [hsrc]; exact (by lia : 2 < 4)); rw [hsrc] at this; exact this
          exact ssl_two e1 e2 (by lia) (by lia)
        have hq1 : (!(!(Builtin.Str.occurrences (ssl ⟨(srcOf ts).toArray⟩ (some ((off ts m : Int) + 1)) (some ((off ts m : Int) + 1 + 1 + 1))) "-" 0 (ssl ⟨(srcOf ts).toArray⟩ (some ((off ts m : Int) + 1)) (some ((off ts m : Int) + 1 + 1 + 1))).length 1).isEmpty)) = true := by
          rw [hss]; rcases htw with ⟨rfl, rfl⟩ | ⟨rfl, rfl⟩ <;> decide +kernel
        repeat' walk_at "s"
        refine X1.while (Wh.step ?_)
        repeat' walk_at "s"
        refine Wh.step ?_
        repeat' walk_at "s"
        refine Wh.step ?_
        repeat' walk_at "s"
        · rw [hpl]; lia
        refine Ev.replace ?_ (by decide) (by decide) (by walk_at "u")
        repeat' walk_at "s"
        rw [hss]
        refine ⟨_, rfl, (by decide : (2 : Nat) < 1000), ?_⟩
        have hrep : Txt.replace ⟨#[x0, x1]⟩ "\\" "\\\\" = ⟨#[x0, x1]⟩ := by rcases htw with ⟨rfl, rfl⟩ | ⟨rfl, rfl⟩ <;> decide +kernel
        rw [hrep]
        repeat' walk_at "s"
        refine Ev.resub hw hL hcd ⟨rfl, rfl⟩ (by decide) (by walk_at "u") rfl hsc (by decide) (by decide) (by walk_at "lk") (by rcases htw with ⟨rfl, rfl⟩ | ⟨rfl, rfl⟩; exact .inl rfl; exact .inr rfl) ?_ (by walk_at "u")
        have h2l : (⟨#[x0, x1]⟩ : Str).length = 2 := rfl
        have hz : (⟨#[x0, x1]⟩ : Str).cps.toList[(0 : Int).toNat]? = some x0 := rfl
        have n5 : (["^", "["] : List Str).any (· == (⟨#[x0]⟩ : Str)) = false := by rcases htw with ⟨rfl, rfl⟩ | ⟨rfl, rfl⟩ <;> decide
        have n6 : ((⟨#[x0, x1]⟩ : Str) == "!") = false := by rcases htw with ⟨rfl, rfl⟩ | ⟨rfl, rfl⟩ <;> decide
        repeat' walk_at "s"
        · rw [h2l]; lia
        refine Cmp.inT (xs := ["^", "["]) getNew ?_
        repeat' walk_at "s"
        have hj : (Str.empty ++ "[" ++ ⟨#[x0, x1]⟩ ++ "]" : Str) = "[" ++ ⟨#[x0, x1]⟩ ++ "]" := by rcases htw with ⟨rfl, rfl⟩ | ⟨rfl, rfl⟩ <;> decide
        have hl1 : (Str.empty ++ "[" : Str).length < 1000000 := by decide
        have hl2 : (Str.empty ++ "[" ++ ⟨#[x0, x1]⟩ : Str).length < 1000000 := by rcases htw with ⟨rfl, rfl⟩ | ⟨rfl, rfl⟩ <;> decide
        have hl3 : (Str.empty ++ "[" ++ ⟨#[x0, x1]⟩ ++ "]" : Str).length < 1000000 := by rcases htw with ⟨rfl, rfl⟩ | ⟨rfl, rfl⟩ <;> decide
        refine ⟨_, rfl, hl1, ?_⟩
        repeat' walk_at "s"
        refine ⟨_, rfl, (by rw [h2l]; lia), _, rfl, hl2, ?_⟩
        repeat' walk_at "s"
        refine ⟨_, rfl, hl3, ?_⟩
        repeat' walk_at "s"
        · exact hl3
        refine kcal_app (getApp t9) (Cal.appR (getApp t9) (getApp t8) hl8 ⟨rfl, ?_⟩)
        repeat' walk_at "s"
        exact nxt _ rfl rfl rfl rfl rfl rfl (by rw [hs0]; rfl) (by rw [hpart, ← hj]; exact getSet (getApp t8)) (getSetNe (getApp t9) (by lia)) (t10.app.set hr)
end Mine
set_option maxHeartbeats 4000000
namespace Mine
local macro_rules | `(tactic| walk_at $s:str) => wAt s.getString
theorem mem2 : recAt 2 ∈ recsOf PySem.Challenge.pw_rt0035_01 := List.mem_of_getElem? (i := 2) (by rfl)
theorem nm2 : (recAt 2).name = Str.ofString "_join_translated_parts" := by rfl
theorem ok2 : DefOk (recAt 2) ["inp", "STAR"] := ⟨fun _ _ _ => two_of fun _ _ => rfl, by decide, by decide, by decide, by decide, by decide, trivial⟩
/-- a list of parts: each run behind a star, and a star at the end -/
noncomputable def inpOf (rs : Nat) (segs : List (List Str)) : List PV := (segs.map fun s => PV.ref rs :: s.map PV.str).flatten ++ [.ref rs]
noncomputable def ioff (segs : List (List Str)) (m : Nat) : Nat := (segs.take m).flatten.length + m
noncomputable def flatS (rs : Nat) (segs : List (List Str)) : List PV := (segs.map fun s => PV.ref rs :: s.map PV.str).flatten
theorem flatS_len {rs : Nat} : ∀ segs : List (List Str), (flatS rs segs).length = segs.flatten.length + segs.length
  | [] => rfl
  | s :: r => by
    have := flatS_len (rs := rs) r
    have e : flatS rs (s :: r) = (PV.ref rs :: s.map PV.str) ++ flatS rs r := by simp [flatS]
    rw [e]; simp only [List.length_append, List.length_cons, List.length_map, List.flatten_cons, this]; lia
theorem inp_head {rs : Nat} {segs : List (List Str)} : (inpOf rs segs)[0]? = some (.ref rs) := by
  cases segs with
  | nil => rfl
  | cons s r => simp [inpOf]
theorem inp_split {rs m : Nat} {segs : List (List Str)} {s : List Str} (h : segs[m]? = some s) : inpOf rs segs = flatS rs (segs.take m) ++ ((PV.ref rs :: s.map PV.str) ++ inpOf rs (segs.drop (m + 1))) := by
  obtain ⟨hlt, he⟩ := List.getElem?_eq_some_iff.mp h
  have e : segs = segs.take m ++ s :: segs.drop (m + 1) := by rw [← he, ← List.drop_eq_getElem_cons hlt, List.take_append_drop]
  unfold inpOf flatS
  conv => lhs; rw [e]
  simp
theorem ioff_len {rs m : Nat} {segs : List (List Str)} (h : m ≤ segs.length) : (flatS rs (segs.take m)).length = ioff segs m := by
  rw [flatS_len]; unfold ioff; simp; lia
theorem inp_star {rs m : Nat} {segs : List (List Str)} (h : m ≤ segs.length) : (inpOf rs segs)[ioff segs m]? = some (.ref rs) := by
  rcases e : segs[m]? with _ | s
  · have hm : m = segs.length := by have := List.getElem?_eq_none_iff.mp e; lia
    subst hm
    have := ioff_len (rs := rs) h
    rw [List.take_length] at this
    show (flatS rs segs ++ [PV.ref rs])[ioff segs segs.length]? = _
    rw [← this]; simp
  · rw [inp_split e, ← ioff_len (rs := rs) h, List.getElem?_append_right (Nat.le_refl _)]
    simp
theorem inp_at {rs m k : Nat} {segs : List (List Str)} {s : List Str} {y : Str} (h : segs[m]? = some s) (hk : s[k]? = some y) : (inpOf rs segs)[ioff segs m + 1 + k]? = some (.str y) := by
  have hm := get_lt h
  have hk' := get_lt hk
  rw [inp_split h, ← ioff_len (rs := rs) (Nat.le_of_lt hm), List.getElem?_append_right (by lia)]
  rw [show (flatS rs (segs.take m)).length + 1 + k - (flatS rs (segs.take m)).length = k + 1 from by lia]
  rw [List.getElem?_append_left (by simp; lia)]
  simp [hk]
theorem ioff_succ {m : Nat} {segs : List (List Str)} {s : List Str} (h : segs[m]? = some s) : ioff segs (m + 1) = ioff segs m + 1 + s.length := by
  unfold ioff
  rw [List.take_add_one, h]
  simp; lia
theorem ioff_le {m : Nat} {segs : List (List Str)} (h : m ≤ segs.length) : ioff segs m ≤ ioff segs segs.length := by
  unfold ioff
  have e : segs.flatten.length = (segs.take m).flatten.length + (segs.drop m).flatten.length := by
    conv => lhs; rw [← List.take_append_drop m segs]
    rw [List.flatten_append, List.length_append]
  rw [List.take_length, e]; lia
theorem inp_len {rs : Nat} {segs : List (List Str)} : (inpOf rs segs).length = ioff segs segs.length + 1 := by
  have := ioff_len (rs := rs) (segs := segs) (Nat.le_refl _)
  rw [List.take_length] at this
  show (flatS rs segs ++ [PV.ref rs]).length = _
  simp [this]
structure JnI (hp : List AO) (segs : List (List Str)) (ri rs r m i : Nat) (xs : List PV) (σ : AS) : Prop where
  inp : σ.loc "inp" = some (.ref ri)
  star : σ.loc "STAR" = some (.ref rs)
  res : σ.loc "res" = some (.ref r)
  add : σ.loc "add" = some (.ref (r + 1))
  i : σ.loc "i" = some (.int i)
  n : σ.loc "n" = some (.int (inpOf rs segs).length)
  list : σ.hp[r]? = some (.list false xs)
  app : σ.hp[r + 1]? = some (.app r)
  ext : Ext hp σ.hp
noncomputable def grp (s : List Str) : Str := "(?>.*?" ++ Txt.join ⟨#[]⟩ s ++ ")"
noncomputable def joined (segs : List (List Str)) : Str := "(?s:" ++ Txt.join ⟨#[]⟩ (segs.map grp ++ [(".*" : Str)]) ++ ")\\Z"
theorem f_join {S lv hp segs ri rs f K} (hO : Ok S) (hin : hp[ri]? = some (.list f (inpOf rs segs))) (hlen : (inpOf rs segs).length < 1000) (hne : ∀ s ∈ segs, s ≠ []) (hj : ∀ s ∈ segs, JoinOk ⟨#[]⟩ s = true ∧ (Txt.join ⟨#[]⟩ s).length < 1000) (hJ : JoinOk ⟨#[]⟩ (segs.map grp ++ [(".*" : Str)]) = true) (hJl : (Txt.join ⟨#[]⟩ (segs.map grp ++ [(".*" : Str)])).length < 100000) (h : K (.str (joined segs)) []) :
    Fn S lv (recAt 2) ["inp", "STAR"] [.ref ri, .ref rs] hp K := by
  intro C hS hsc hlv hcells hcode
  subst hS
  conv => enter [2]; whnf
  rw [← hsc]
  conv at hsc => rhs; whnf
  rw [hsc]
  generalize hσ : (AS.mk _ _ _ : AS) = σ
  have h1 : σ.loc "inp" = some (.ref ri) := by rw [← hσ]; rfl
  have h2 : σ.loc "STAR" = some (.ref rs) := by rw [← hσ]; rfl
  have hh : σ.hp = hp := by rw [← hσ]
  clear hσ
  have he : Ext hp σ.hp := by rw [hh]; exact Ext.refl
  have hin' : σ.hp[ri]? = some (.list f (inpOf rs segs)) := by rw [hh]; exact hin
  repeat' walk_at "s"
  refine ⟨_, _, rfl, getNew, ?_⟩
  repeat' walk_at "s"
  refine X1.swap (xs := ["i", "n"]) ?_ (by walk_at "u") (by unfold swappedStores Env.blockKind Env.kindOf; rw [hsc]; rfl)
  repeat' walk_at "s"
  · lia
  refine ⟨_, false, [.int 0, .int _], rfl, getNew, rfl, ?_⟩
  show StoL C ["n", "i"] [.int _, .int 0] _ _
  repeat' walk_at "s"
  have hr : hp.length ≤ σ.hp.length := by rw [hh]; exact Nat.le_refl _
  have hri : ri < σ.hp.length := get_lt hin'
  generalize hrr : σ.hp.length = r at hr hri
  have hx0 : (inpOf rs segs)[(0 : Int).toNat]? = some (.ref rs) := inp_head
  have hl0 : decide ((0 : Int) < ((inpOf rs segs).length : Int)) = true := by have := get_lt hx0; simp at this ⊢; lia
  refine X1.while (Wh.step ?_)
  repeat' walk_at "s"
  refine X1.whileI (fun m σ => JnI hp segs ri rs r m (ioff segs m) ((segs.take m).map fun s => .str (grp s)) σ ∧ m ≤ segs.length) (fun m => segs.length - m) 0 ?_ ?_
  · refine ⟨⟨by walk_at "lk", by walk_at "lk", by walk_at "lk", ?_, by walk_at "lk", by walk_at "lk", ?_, ?_, he.app.app.app⟩, Nat.zero_le _⟩
    · show some (PV.ref (σ.hp ++ [AO.list false []]).length) = _
      rw [← hrr]; simp
    · have := getNew (l := σ.hp) (o := AO.list false [])
      rw [hrr] at this
      exact getApp (getApp this)
    · have := getNew (l := σ.hp ++ [AO.list false []]) (o := AO.app r)
      simp only [List.length_append, List.length_cons, List.length_nil, Nat.zero_add, hrr] at this
      exact getApp this
  · intro m σ ⟨⟨t1, t2, t3, t4, t5, t6, t7, t8, t9⟩, tm⟩
    have hin2 : σ.hp[ri]? = some (.list f (inpOf rs segs)) := t9.get hin
    have hil := inp_len (rs := rs) (segs := segs)
    have hlm : ((segs.take m).map fun s => PV.str (grp s)).length < 1000000 := by
      have : segs.length ≤ ioff segs segs.length := by unfold ioff; lia
      simp; lia
    rcases e : segs[m]? with _ | s
    · have hm : m = segs.length := by have := List.getElem?_eq_none_iff.mp e; lia
      have hx1 : (inpOf rs segs)[((ioff segs m : Nat) : Int).toNat]? = some (.ref rs) := inp_star tm
      have c1 : decide (((ioff segs m : Nat) : Int) < ((inpOf rs segs).length : Int)) = true := by rw [hm]; simp; lia
      have c2 : (((ioff segs m : Nat) : Int) + 1 == ((inpOf rs segs).length : Int)) = true := by rw [hm]; simp; lia
      repeat' walk_at "s"
      refine kcal_app t8 (Cal.appR t8 t7 hlm ⟨rfl, ?_⟩)
      repeat' walk_at "s"
      refine ⟨c2, ?_⟩
      repeat' walk_at "s"
      refine ⟨_, rfl, ?_⟩
      repeat' walk_at "s"
      have e4 : ((segs.take m).map fun s => PV.str (grp s)) ++ [PV.str ".*"] = (segs.map grp ++ [(".*" : Str)]).map PV.str := by
        rw [hm, List.take_length]; simp
      refine Cal.join (xs := segs.map grp ++ [(".*" : Str)]) (f := false) (by rw [← e4]; exact getSet t7) hJ ?_
      repeat' walk_at "s"
      have g1 : (Str.empty ++ "(?s:" : Str).length = 4 := by decide
      have g2 : (Str.empty ++ "(?s:" ++ Txt.join ⟨#[]⟩ (segs.map grp ++ [(".*" : Str)]) : Str).length < 1000000 := by rw [strLen_append, g1]; lia
      have g3 : (Str.empty ++ "(?s:" ++ Txt.join ⟨#[]⟩ (segs.map grp ++ [(".*" : Str)]) ++ ")\\Z" : Str).length < 1000000 := by
        have g4 : (")\\Z" : Str).length = 3 := by decide
        rw [strLen_append, strLen_append, g1, g4]; lia
      have hg : (Str.empty ++ "(?s:" ++ Txt.join ⟨#[]⟩ (segs.map grp ++ [(".*" : Str)]) ++ ")\\Z" : Str) = joined segs := by
        unfold joined
        rw [show (Str.empty ++ "(?s:" : Str) = "(?s:" from by decide]
      refine ⟨_, rfl, by rw [g1]; lia, ?_⟩
      repeat' walk_at "s"
      refine ⟨_, rfl, (Nat.lt_trans hJl (by decide)), _, rfl, g2, ?_⟩
      repeat' walk_at "s"
      refine ⟨_, rfl, g3, ?_⟩
      repeat' walk_at "s"
      · exact g3
      refine fin_str (t9.set hr) ?_
      rw [← hg] at h; exact h
    · have hm := get_lt e
      have hsx := ioff_succ e
      have hle : ioff segs (m + 1) ≤ ioff segs segs.length := ioff_le hm
      have hx1 : (inpOf rs segs)[((ioff segs m : Nat) : Int).toNat]? = some (.ref rs) := inp_star (Nat.le_of_lt hm)
      have c1 : decide (((ioff segs m : Nat) : Int) < ((inpOf rs segs).length : Int)) = true := by simp; lia
      have c2 : (((ioff segs m : Nat) : Int) + 1 == ((inpOf rs segs).length : Int)) = false := by
        have : 0 < s.length := List.length_pos_iff.mpr (hne _ (List.mem_of_getElem? e))
        simp; lia
      obtain ⟨y, ys, rfl⟩ : ∃ y ys, s = y :: ys := by
        cases s with
        | nil => exact absurd rfl (hne _ (List.mem_of_getElem? e))
        | cons y ys => exact ⟨y, ys, rfl⟩
      have hx2 : (inpOf rs segs)[(((ioff segs m : Nat) : Int) + 1).toNat]? = some (.str y) := by
        have := inp_at (rs := rs) e (k := 0) rfl
        rw [show (((ioff segs m : Nat) : Int) + 1).toNat = ioff segs m + 1 + 0 from by lia]; exact this
      repeat' walk_at "s"
      generalize hq : σ.hp.length = q
      have hrq : r + 1 < q := by rw [← hq]; exact get_lt t8
      refine X1.whileI (fun k σ => JnI hp segs ri rs r m (ioff segs m + 1 + k) ((segs.take m).map fun s => .str (grp s)) σ ∧ σ.loc "fixed" = some (.ref q) ∧ σ.hp[q]? = some (.list false (((y :: ys).take k).map PV.str)) ∧ k ≤ (y :: ys).length) (fun k => (y :: ys).length - k) 0 ?_ ?_
      · refine ⟨⟨by walk_at "lk", by walk_at "lk", by walk_at "lk", by walk_at "lk", by walk_at "lk", by walk_at "lk", getApp t7, getApp t8, t9.app⟩, by rw [← hq]; walk_at "lk", by rw [← hq]; exact getNew, Nat.zero_le _⟩
      · intro k σ ⟨⟨t1, t2, t3, t4, t5, t6, t7, t8, t9⟩, t10, t11, t12⟩
        have hin2 : σ.hp[ri]? = some (.list f (inpOf rs segs)) := t9.get hin
        have c3 : decide (((ioff segs m + 1 + k : Nat) : Int) < ((inpOf rs segs).length : Int)) = true := by simp; lia
        rcases e2 : (y :: ys)[k]? with _ | z
        · have hk : k = (y :: ys).length := by have := List.getElem?_eq_none_iff.mp e2; lia
          have hx3 : (inpOf rs segs)[((ioff segs m + 1 + k : Nat) : Int).toNat]? = some (.ref rs) := by
            rw [hk, ← hsx]; exact inp_star hm
          have c4 : (((ioff segs m + 1 + k : Nat) : Int) == ((inpOf rs segs).length : Int)) = false := by simp; lia
          repeat' walk_at "s"
          refine ⟨_, rfl, ?_⟩
          repeat' walk_at "s"
          rw [hk, List.take_length] at t11
          obtain ⟨j1, j2⟩ := hj _ (List.mem_of_getElem? e)
          refine Cal.join t11 j1 ?_
          repeat' walk_at "s"
          have hlx : (Txt.join (⟨#[]⟩ : Str) (y :: ys)).length < 1000 := j2
          have f1 : (Str.empty ++ "(?>.*?" : Str).length = 6 := by decide
          have f2 : (Str.empty ++ "(?>.*?" ++ Txt.join ⟨#[]⟩ (y :: ys) : Str).length < 1000000 := by rw [strLen_append, f1]; lia
          have f3 : (Str.empty ++ "(?>.*?" ++ Txt.join ⟨#[]⟩ (y :: ys) ++ ")" : Str).length < 1000000 := by
            have f4 : (")" : Str).length = 1 := by decide
            rw [strLen_append, strLen_append, f1, f4]; lia
          refine ⟨_, rfl, by rw [f1]; lia, ?_⟩
          repeat' walk_at "s"
          refine ⟨_, rfl, (Nat.lt_trans hlx (by decide)), _, rfl, f2, ?_⟩
          repeat' walk_at "s"
          refine ⟨_, rfl, f3, ?_⟩
          repeat' walk_at "s"
          · exact f3
          refine kcal_app t8 (Cal.appR t8 t7 hlm ⟨rfl, ?_⟩)
          repeat' walk_at "s"
          have hg : (Str.empty ++ "(?>.*?" ++ Txt.join ⟨#[]⟩ (y :: ys) ++ ")" : Str) = grp (y :: ys) := by
            unfold grp
            rw [show (Str.empty ++ "(?>.*?" : Str) = "(?>.*?" from by decide]
          refine ⟨m + 1, by lia, ⟨by walk_at "lk", by walk_at "lk", by walk_at "lk", by walk_at "lk", ?_, by walk_at "lk", ?_, getSetNe t8 (by lia), t9.set hr⟩, hm⟩
          · rw [hsx, ← hk]; exact t5
          · have e3 : (segs.take (m + 1)).map (fun s => PV.str (grp s)) = (segs.take m).map (fun s => PV.str (grp s)) ++ [.str (Str.empty ++ "(?>.*?" ++ Txt.join ⟨#[]⟩ (y :: ys) ++ ")")] := by
              rw [List.take_add_one, e, hg]; simp
            rw [e3]; exact getSet t7
        · have hx3 : (inpOf rs segs)[((ioff segs m + 1 + k : Nat) : Int).toNat]? = some (.str z) := inp_at e e2
          have hk2 := get_lt e2
          repeat' walk_at "s"
          refine ⟨q, _, rfl, t11, ?_⟩
          repeat' walk_at "s"
          refine Cal.append t11 ?_ ⟨rfl, ?_⟩
          · simp; lia
          repeat' walk_at "s"
          refine ⟨k + 1, by lia, ⟨⟨by walk_at "lk", by walk_at "lk", by walk_at "lk", by walk_at "lk", by walk_at "lk", by walk_at "lk", getSetNe t7 (by lia), getSetNe t8 (by lia), t9.set (by lia)⟩, by walk_at "lk", ?_, by lia⟩⟩
          have e3 : ((y :: ys).take (k + 1)).map PV.str = ((y :: ys).take k).map PV.str ++ [.str z] := by rw [List.take_add_one, e2]; simp
          rw [e3]; exact getSet t11
end Mine
set_option maxHeartbeats 4000000
namespace Mine
local macro_rules | `(tactic| walk_at $s:str) => wAt s.getString
/-- the text of a token's part -/
noncomputable def sp : Tk → Str
  | .star => ""
  | .quest => "[^>]"
  | .chr c => escTxt c
  | .set false => "[sS]"
  | .set true => "[tT]"
noncomputable def wsrc (w : List Tk) : Str := ⟨(srcOf w).toArray⟩
noncomputable def wtoks (ws : List (List Tk)) : List Tk := (ws.map fun w => Tk.star :: Tk.chr 60 :: w ++ [Tk.chr 62]).flatten ++ [.star]
noncomputable def wsegs (ws : List (List Tk)) : List (List Str) := ws.map fun w => escTxt 60 :: w.map sp ++ [escTxt 62]
theorem part_sp {rs : Nat} {tk : Tk} (h : tk ≠ .star) : tk.part rs "[^>]" = .str (sp tk) := by
  cases tk with
  | star => exact absurd rfl h
  | set b => cases b <;> rfl
  | _ => rfl
theorem parts_inp {rs : Nat} {ws : List (List Tk)} (h : ∀ w ∈ ws, ∀ tk ∈ w, tk ≠ .star) : (wtoks ws).map (Tk.part rs "[^>]") = inpOf rs (wsegs ws) := by
  induction ws with
  | nil => rfl
  | cons w ws ih =>
    have ih := ih fun w hw => h w (List.mem_cons_of_mem _ hw)
    have e1 : wtoks (w :: ws) = (Tk.star :: Tk.chr 60 :: w ++ [Tk.chr 62]) ++ wtoks ws := by simp [wtoks]
    have e2 : inpOf rs (wsegs (w :: ws)) = (PV.ref rs :: (escTxt 60 :: w.map sp ++ [escTxt 62]).map PV.str) ++ inpOf rs (wsegs ws) := by simp [inpOf, wsegs]
    have e3 : w.map (Tk.part rs "[^>]") = (w.map sp).map PV.str := by
      rw [List.map_map]
      exact List.map_congr_left fun tk htk => part_sp (h w List.mem_cons_self tk htk)
    rw [e1, e2, List.map_append, ih]
    simp only [List.map_append, List.map_cons, List.map_nil, e3, List.cons_append]
    rfl
/-! a word's text, and how the law's reader takes it -/
noncomputable def segL (w : List Tk) : List Nat := 60 :: (w.map fun t => L (sp t)).flatten ++ [62]
noncomputable def rcode : Tk → Nat
  | .star => 0
  | .quest => 48
  | .chr c => c
  | .set false => 49
  | .set true => 50
noncomputable def runL (w : List Tk) : List Nat := 60 :: w.map rcode ++ [62]
noncomputable def runOf (w : List Tk) : Str := ⟨(runL w).toArray⟩
noncomputable def plainW : List (List Tk) := [114, 45].flatMap fun r => [119, 45].flatMap fun w => [45, 120, 115, 83, 116, 84].map fun t => [.chr r, .chr w, .chr t]
noncomputable def szT (t : Nat) : Tk := if t = 115 ∨ t = 83 then .set false else if t = 116 ∨ t = 84 then .set true else .chr t
noncomputable def sizedW : List Tk → List Tk
  | [a, b, .chr t] => [a, b, szT t]
  | w => w
noncomputable def q3 : List Tk := [.quest, .quest, .quest]
noncomputable def thirdC : List Tk → Nat
  | [_, _, .chr t] => t
  | _ => 0
noncomputable def isTw (t : Nat) : Bool := t == 115 || t == 83 || t == 116 || t == 84
noncomputable def rp1 (w : List Tk) : Str := Txt.replace ⟨(segL w).toArray⟩ "\\-" "-"
noncomputable def rp2 (w : List Tk) : Str := Txt.replace (rp1 w) "[sS]" "1"
noncomputable def rp3 (w : List Tk) : Str := Txt.replace (rp2 w) "[tT]" "2"
noncomputable def rp4 (w : List Tk) : Str := Txt.replace (rp3 w) "[^>]" "0"
noncomputable def wordOk (w : List Tk) : Bool := (!(segL w).contains 41) && decide ((segL w).length < 20) && decide ((rp1 w).length < 1000) && decide ((rp2 w).length < 1000) && decide ((rp3 w).length < 1000) && (rp4 w == runOf w) && (w.length == 3) && decide ((srcOf w).length < 15)
  && JoinOk ⟨#[]⟩ (escTxt 60 :: w.map sp ++ [escTxt 62])
  && w.all fun t => match t with | .star => false | .chr c => c == 45 || ([60, 62, 114, 119, 120, 115, 83, 116, 84] : List Nat).contains c | _ => true
theorem words_ok : plainW.all (fun w => wordOk w && wordOk (sizedW w)) = true := by decide +kernel
theorem q3_ok : wordOk q3 = true := by decide +kernel
structure WOk (w : List Tk) : Prop where
  par : 41 ∉ segL w
  len : (segL w).length < 20
  l1 : (rp1 w).length < 1000
  l2 : (rp2 w).length < 1000
  l3 : (rp3 w).length < 1000
  run : rp4 w = runOf w
  three : w.length = 3
  src : (srcOf w).length < 15
  join : JoinOk ⟨#[]⟩ (escTxt 60 :: w.map sp ++ [escTxt 62]) = true
  star : ∀ t ∈ w, t ≠ .star
  chr : ∀ c, Tk.chr c ∈ w → c = 45 ∨ c ∈ [60, 62, 114, 119, 120, 115, 83, 116, 84]
theorem wok_of {w : List Tk} (h : wordOk w = true) : WOk w := by
  have := h
  unfold wordOk at this
  simp only [Bool.and_eq_true, decide_eq_true_eq, Bool.not_eq_true', List.all_eq_true, beq_iff_eq] at this
  obtain ⟨⟨⟨⟨⟨⟨⟨⟨⟨a1, a2⟩, a3⟩, a4⟩, a5⟩, a6⟩, a7⟩, a8⟩, a9⟩, a10⟩ := this
  refine ⟨fun h => ?_, a2, a3, a4, a5, a6, a7, a8, a9, fun t ht e => ?_, fun c hc => ?_⟩
  · rw [List.contains_iff_mem.mpr h] at a1; cases a1
  · have := a10 t ht
    rw [e] at this; cases this
  · have := a10 _ hc
    simp only [Bool.or_eq_true, beq_iff_eq, List.contains_iff_mem] at this
    exact this
theorem wok_plain {w : List Tk} (h : w ∈ plainW) : WOk w ∧ WOk (sizedW w) := by
  have := List.all_eq_true.mp words_ok w h
  rw [Bool.and_eq_true] at this
  exact ⟨wok_of this.1, wok_of this.2⟩
noncomputable def sizedOk (w : List Tk) : Bool := ((L (wsrc w))[2]? == some (thirdC w)) && decide ((wsrc w).length = 3) &&
  (if has "sS" ⟨#[thirdC w]⟩ then ssl (wsrc w) none (some 2) ++ "[sS]" == wsrc (sizedW w) else if has "tT" ⟨#[thirdC w]⟩ then ssl (wsrc w) none (some 2) ++ "[tT]" == wsrc (sizedW w) else ssl (wsrc w) none (some 2) ++ ⟨#[thirdC w]⟩ == wsrc (sizedW w)) &&
  ((wsrc (sizedW w) != wsrc w) == isTw (thirdC w))
theorem sized_ok : plainW.all sizedOk = true := by decide +kernel
structure SOk (w : List Tk) : Prop where
  third : (L (wsrc w))[2]? = some (thirdC w)
  len : (wsrc w).length = 3
  s1 : has "sS" ⟨#[thirdC w]⟩ = true → ssl (wsrc w) none (some 2) ++ "[sS]" = wsrc (sizedW w)
  s2 : has "sS" ⟨#[thirdC w]⟩ = false → has "tT" ⟨#[thirdC w]⟩ = true → ssl (wsrc w) none (some 2) ++ "[tT]" = wsrc (sizedW w)
  s3 : has "sS" ⟨#[thirdC w]⟩ = false → has "tT" ⟨#[thirdC w]⟩ = false → ssl (wsrc w) none (some 2) ++ ⟨#[thirdC w]⟩ = wsrc (sizedW w)
  ne : (wsrc (sizedW w) != wsrc w) = isTw (thirdC w)
theorem sok_plain {w : List Tk} (h : w ∈ plainW) : SOk w := by
  have := List.all_eq_true.mp sized_ok w h
  unfold sizedOk at this
  simp only [Bool.and_eq_true, decide_eq_true_eq, beq_iff_eq] at this
  obtain ⟨⟨⟨a1, a2⟩, a3⟩, a4⟩ := this
  refine ⟨a1, a2, fun h => ?_, fun h h' => ?_, fun h h' => ?_, a4⟩
  · rw [if_pos h] at a3; exact beq_iff_eq.mp a3
  · rw [if_neg (by rw [h]; exact Bool.false_ne_true), if_pos h'] at a3; exact beq_iff_eq.mp a3
  · rw [if_neg (by rw [h]; exact Bool.false_ne_true), if_neg (by rw [h']; exact Bool.false_ne_true)] at a3; exact beq_iff_eq.mp a3
theorem psl_to {A : Type} {xs : List A} {k : Nat} : psl xs none (some (k : Int)) = xs.take k := by
  unfold psl clip
  simp only
  rw [List.drop_zero, if_neg (by lia)]
  by_cases h : k ≤ xs.length
  · congr 1; lia
  · rw [List.take_of_length_le (by lia), List.take_of_length_le (by lia)]
theorem psl_mid {A : Type} {xs : List A} {a b : Nat} : psl xs (some (a : Int)) (some (b : Int)) = (xs.drop a).take (b - a) := by
  unfold psl clip
  simp only
  rw [if_neg (by omega), if_neg (by omega)]
  by_cases h : a ≤ xs.length
  · rw [show (max 0 (min (a : Int) (xs.length : Int))).toNat = a from by omega]
    by_cases hb : b ≤ xs.length
    · congr 1; omega
    · rw [List.take_of_length_le (by simp; omega), List.take_of_length_le (by simp; omega)]
  · rw [List.drop_of_length_le (show xs.length ≤ a by omega), List.drop_of_length_le (by omega)]; simp
theorem psl_tail {A : Type} {xs : List A} {a : Nat} : psl xs (some (a : Int)) none = xs.drop a := by
  unfold psl clip
  simp only
  rw [if_neg (by lia)]
  by_cases h : a ≤ xs.length
  · rw [show (max 0 (min (a : Int) (xs.length : Int))).toNat = a from by lia, List.take_of_length_le (by simp)]
  · rw [List.drop_of_length_le (show xs.length ≤ a by lia), List.drop_of_length_le (by lia)]; simp
theorem find_at {x : Str} {p s t : List Nat} {c : Nat} (h : L x = p ++ (s ++ c :: t)) (hs : c ∉ s) : Txt.find3 x ⟨#[c]⟩ (p.length : Int) = ((p.length + s.length : Nat) : Int) := by
  have hlen : x.length = p.length + (s.length + (t.length + 1)) := by rw [L_len, h]; simp
  have hf : fromIndex x.length (p.length : Int) = p.length := by unfold fromIndex; rw [if_neg (by lia)]; lia
  have at' : ∀ v q, (L x)[v]? = some q → x.cps.getD v 0 = q := fun v q e => StrLaws.getD_of_getElem? e
  have hc : x.cps.getD (p.length + s.length) 0 = c := at' _ _ (by rw [h, ← List.append_assoc, List.getElem?_append_right (by simp)]; simp)
  have hb : ∀ v, p.length ≤ v → v < p.length + s.length → x.cps.getD v 0 ≠ c := fun v h1 h2 e => by
    obtain ⟨q, hq⟩ : ∃ q, s[v - p.length]? = some q := ⟨_, List.getElem?_eq_getElem (by lia)⟩
    have e2 := at' v q (by rw [h, List.getElem?_append_right h1, List.getElem?_append_left (get_lt hq)]; exact hq)
    rw [e] at e2
    exact hs (e2 ▸ List.mem_of_getElem? hq)
  rcases StrLaws.find3_spec x c (p.length : Int) with ⟨_, hn⟩ | ⟨k, hk, h1, h2, h3, h4⟩
  · rw [hf] at hn
    exact absurd hc (hn _ (by lia) (by lia))
  · rw [hf] at h1 h4
    rw [hk]
    congr 1
    by_cases h5 : k < p.length + s.length
    · exact absurd h3 (hb k h1 h5)
    · by_cases h6 : p.length + s.length < k
      · exact absurd hc (h4 _ (by lia) h6)
      · lia
/-- no two stars together -/
noncomputable def NoDbl (l : List Tk) : Prop := ∀ m, l[m + 1]? = some .star → l[m]? ≠ some .star
theorem nodbl_app {a b : List Tk} {x : Tk} (hx : x ≠ .star) (ha : NoDbl (a ++ [x])) (hb : NoDbl b) : NoDbl (a ++ [x] ++ b) := by
  intro m h1 h2
  by_cases h : m + 1 < (a ++ [x]).length
  · rw [List.getElem?_append_left h] at h1
    rw [List.getElem?_append_left (by lia)] at h2
    exact ha m h1 h2
  · by_cases h' : m + 1 = (a ++ [x]).length
    · rw [List.getElem?_append_left (by lia)] at h2
      have : m = a.length := by simp at h'; lia
      subst this
      simp at h2
      exact hx h2
    · rw [List.getElem?_append_right (by lia)] at h1 h2
      rw [show m + 1 - (a ++ [x]).length = (m - (a ++ [x]).length) + 1 from by lia] at h1
      exact hb _ h1 h2
theorem nodbl_head {l : List Tk} (h : ∀ t ∈ l, t ≠ .star) : NoDbl (.star :: l) := by
  intro m h1 _
  simp at h1
  exact h _ (List.mem_of_getElem? h1) rfl
theorem nodbl_wtoks : ∀ {ws : List (List Tk)}, (∀ w ∈ ws, ∀ t ∈ w, t ≠ .star) → NoDbl (wtoks ws)
  | [], _ => fun m h1 _ => by simp [wtoks] at h1
  | w :: ws, h => by
    have ih := nodbl_wtoks (ws := ws) fun w hw => h w (List.mem_cons_of_mem _ hw)
    have e : wtoks (w :: ws) = ((.star :: .chr 60 :: w) ++ [.chr 62]) ++ wtoks ws := by simp [wtoks]
    rw [e]
    have hd : NoDbl (Tk.star :: (Tk.chr 60 :: w ++ [Tk.chr 62])) := by
      refine nodbl_head fun t ht => ?_
      simp at ht
      rcases ht with rfl | ht | rfl
      · simp
      · exact h w List.mem_cons_self t ht
      · simp
    exact nodbl_app (by simp) hd ih
theorem chr_wtoks {ws : List (List Tk)} (h : ∀ w ∈ ws, ∀ c, Tk.chr c ∈ w → c = 45 ∨ c ∈ [60, 62, 114, 119, 120, 115, 83, 116, 84]) {c : Nat} (hc : Tk.chr c ∈ wtoks ws) : c = 45 ∨ c ∈ [60, 62, 114, 119, 120, 115, 83, 116, 84] := by
  unfold wtoks at hc
  simp only [List.mem_append, List.mem_flatten, List.mem_map, List.mem_singleton, reduceCtorEq, or_false] at hc
  obtain ⟨l, ⟨w, hw, rfl⟩, hc⟩ := hc
  simp at hc
  rcases hc with rfl | hc | rfl
  · exact .inr (by decide)
  · exact h w hw c hc
  · exact .inr (by decide)
/-- the whole text -/
noncomputable def gL (w : List Tk) : List Nat := [40, 63, 62, 46, 42, 63] ++ (segL w ++ [41])
theorem L_seg (w : List Tk) : L (Txt.join ⟨#[]⟩ (escTxt 60 :: w.map sp ++ [escTxt 62])) = segL w := by
  rw [L_join']
  unfold segL
  simp only [List.cons_append, List.map_cons, List.map_append, List.map_map, List.map_nil, List.flatten_cons, List.flatten_append, List.flatten_nil, List.append_nil]
  rfl
theorem L_grp (w : List Tk) : L (grp (escTxt 60 :: w.map sp ++ [escTxt 62])) = gL w := by
  unfold grp gL
  rw [L_app, L_app, L_seg, List.append_assoc]
  rfl
theorem L_joined (ws : List (List Tk)) : L (joined (wsegs ws)) = [40, 63, 115, 58] ++ ((ws.map gL).flatten ++ [46, 42, 41, 92, 90]) := by
  unfold joined
  rw [L_app, L_app, L_join', List.append_assoc]
  have e : ((wsegs ws).map grp ++ [(".*" : Str)]).map L = ws.map gL ++ [[46, 42]] := by
    rw [List.map_append, wsegs, List.map_map, List.map_map]
    congr 1
    exact List.map_congr_left fun w _ => L_grp w
  rw [e, List.flatten_append, List.append_assoc]
  rfl
theorem src_words (w0 w1 w2 : List Tk) : ("*<" ++ Txt.join ">*<" ([w0, w1, w2].map wsrc) ++ ">*" : Str) = ⟨(srcOf (wtoks [w0, w1, w2])).toArray⟩ := by
  refine L_ext ?_
  rw [L_app, L_app, join_eq]
  show L "*<" ++ L (wsrc w0 ++ ">*<" ++ (wsrc w1 ++ ">*<" ++ wsrc w2)) ++ L ">*" = srcOf (wtoks [w0, w1, w2])
  rw [L_app, L_app, L_app, L_app]
  have e : ∀ w, L (wsrc w) = srcOf w := fun w => rfl
  rw [e, e, e]
  unfold srcOf wtoks
  have a1 : L "*<" = [42, 60] := by decide
  have a2 : L ">*<" = [62, 42, 60] := by decide
  have a3 : L ">*" = [62, 42] := by decide
  rw [a1, a2, a3]
  simp [Tk.src, List.append_assoc]
end Mine
namespace Mine
/-- a choice of places, in order, and what it costs -/
inductive Mch (c : Nat → Nat → Int) : Nat → Nat → Int → Prop
  | nil (m : Nat) : Mch c m 0 0
  | skip {m k : Nat} {v : Int} : Mch c m k v → Mch c (m + 1) k v
  | take {m k : Nat} {v : Int} : Mch c m k v → Mch c (m + 1) (k + 1) (v + c m k)
theorem Mch.le {c m k v} (h : Mch c m k v) : k ≤ m := by
  induction h with
  | nil => exact Nat.zero_le _
  | skip _ ih => lia
  | take _ ih => lia
theorem Mch.nonneg {c m k v} (hc : ∀ i j, 0 ≤ c i j) (h : Mch c m k v) : 0 ≤ v := by
  induction h with
  | nil => lia
  | skip _ ih => exact ih
  | take _ ih => rename_i m k _ _; have := hc m k; lia
theorem Mch.cast {c m k v m' k' v'} (h : Mch c m k v) (h1 : m = m') (h2 : k = k') (h3 : v = v') : Mch c m' k' v' := by subst h1 h2 h3; exact h
theorem Mch.congr {c c' : Nat → Nat → Int} {m k v} (h : Mch c m k v) : (∀ i j, i < m → j < k → c i j = c' i j) → Mch c' m k v := by
  induction h with
  | nil m => exact fun _ => .nil m
  | skip _ ih => exact fun hc => .skip (ih fun i j hi hj => hc i j (by lia) hj)
  | take _ ih =>
    intro hc
    rw [hc _ _ (by lia) (by lia)]
    exact .take (ih fun i j hi hj => hc i j (by lia) (by lia))
/-- the tables of the distance -/
noncomputable def Dn (prev cm : Nat → Int) (m : Nat) : Nat → Int
  | 0 => 2 * m + 2
  | k + 1 => min (min (if k = 0 then 2 * (m : Int) else Dn prev cm m k) (prev (k + 1)) + 2) (prev k + cm k)
noncomputable def DD (c : Nat → Nat → Int) : Nat → Nat → Int
  | 0 => fun k => 2 * k
  | m + 1 => Dn (DD c m) (c m) m
noncomputable def mnm (c : Nat → Nat → Int) (m : Nat) : Nat → Int
  | 0 => 9223372036854775807
  | j + 1 => if DD c (m + 1) (j + 1) < mnm c m j then DD c (m + 1) (j + 1) else mnm c m j
noncomputable def levB (c : Nat → Nat → Int) (n M : Nat) (mc : Int) : Int := if (List.range M).any fun m => decide (mc < mnm c m n) then mc + 1 else DD c M n
theorem DD_succ {c m k} : DD c (m + 1) (k + 1) = min (min (if k = 0 then 2 * (m : Int) else DD c (m + 1) k) (DD c m (k + 1)) + 2) (DD c m k + c m k) := rfl
theorem DD_zero {c} : ∀ m, DD c m 0 = 2 * (m : Int)
  | 0 => rfl
  | m + 1 => by show (2 * (m : Int) + 2) = _; lia
theorem DD_upper {c m k v} (h : Mch c m k v) : DD c m k ≤ 2 * ((m : Int) - k) + v := by
  induction h with
  | nil m => rw [DD_zero]; lia
  | skip h ih =>
    rename_i m k v
    cases k with
    | zero => rw [DD_zero] at ih ⊢; lia
    | succ k => rw [DD_succ]; lia
  | take h ih => rw [DD_succ]; lia
theorem DD_lower {c : Nat → Nat → Int} (hc : ∀ i j, 0 ≤ c i j ∧ c i j ≤ 2) : ∀ m k, (∃ v, Mch c m k v ∧ 2 * ((m : Int) - k) + v ≤ DD c m k) ∨ 2 * ((m : Int) - k) + 4 ≤ DD c m k
  | 0, 0 => .inl ⟨0, .nil 0, by rw [DD_zero]; lia⟩
  | 0, k + 1 => .inr (by show _ ≤ 2 * ((k + 1 : Nat) : Int); lia)
  | m + 1, 0 => .inl ⟨0, .nil _, by rw [DD_zero]; lia⟩
  | m + 1, k + 1 => by
    have h1 := DD_lower hc m (k + 1)
    have h2 := DD_lower hc m k
    have hc0 := hc m k
    rw [DD_succ]
    by_cases h3 : DD c m k + c m k ≤ min (if k = 0 then 2 * (m : Int) else DD c (m + 1) k) (DD c m (k + 1)) + 2
    · rw [Int.min_eq_right h3]
      rcases h2 with ⟨v, hv, hl⟩ | hl
      · exact .inl ⟨_, .take hv, by lia⟩
      · exact .inr (by lia)
    · rw [Int.min_eq_left (by lia)]
      by_cases h4 : DD c m (k + 1) ≤ (if k = 0 then 2 * (m : Int) else DD c (m + 1) k)
      · rw [Int.min_eq_right h4]
        rcases h1 with ⟨v, hv, hl⟩ | hl
        · exact .inl ⟨_, .skip hv, by lia⟩
        · exact .inr (by lia)
      · rw [Int.min_eq_left (by lia)]
        by_cases hk : k = 0
        · subst hk
          rw [if_pos rfl]
          exact .inl ⟨_, .take (.nil m), by lia⟩
        · rw [if_neg hk]
          rcases DD_lower hc (m + 1) k with ⟨v, hv, hl⟩ | hl
          · have := hv.nonneg fun i j => (hc i j).1
            exact .inr (by lia)
          · exact .inr (by lia)
/-- on the way of a choice the table stays low -/
theorem Mch.way {c : Nat → Nat → Int} (hc : ∀ i j, 0 ≤ c i j) {M n v} (h : Mch c M n v) : ∀ m, m ≤ M → ∃ k v', k ≤ n ∧ m + n ≤ k + M ∧ v' ≤ v ∧ Mch c m k v' := by
  induction h with
  | nil M => exact fun m hm => ⟨0, 0, Nat.le_refl _, by lia, Int.le_refl _, .nil m⟩
  | skip h ih =>
    rename_i M n v
    intro m hm
    by_cases e : m = M + 1
    · subst e; exact ⟨n, v, Nat.le_refl _, by lia, Int.le_refl _, .skip h⟩
    · obtain ⟨k, v', a, b, d, e⟩ := ih m (by lia)
      exact ⟨k, v', a, by lia, d, e⟩
  | take h ih =>
    rename_i M n v
    have h0 := hc M n
    intro m hm
    by_cases e : m = M + 1
    · subst e; exact ⟨n + 1, _, Nat.le_refl _, by lia, Int.le_refl _, .take h⟩
    · obtain ⟨k, v', a, b, d, e⟩ := ih m (by lia)
      exact ⟨k, v', by lia, by lia, by lia, e⟩
theorem mnm_le {c m} : ∀ {n k : Nat}, k < n → mnm c m n ≤ DD c (m + 1) (k + 1)
  | n + 1, k, h => by
    unfold mnm
    by_cases e : k = n
    · subst e; split <;> lia
    · have := mnm_le (c := c) (m := m) (n := n) (k := k) (by lia)
      split <;> lia
theorem mnm_low {c : Nat → Nat → Int} (hc : ∀ i j, 0 ≤ c i j ∧ c i j ≤ 2) {M n v m} (h : Mch c M n v) (hn : 0 < n) (hM : M = n + 3) (hm : m < M) (hv : 0 ≤ v) : mnm c m n ≤ 6 + v := by
  obtain ⟨k, v', a, b, d, e⟩ := h.way (fun i j => (hc i j).1) (m + 1) (by lia)
  cases k with
  | zero =>
    have h1 := mnm_le (c := c) (m := m) hn
    have h2 := DD_upper (Mch.take (Mch.nil (c := c) m))
    have h3 := hc m 0
    rw [Nat.zero_add] at h1 h2
    by_cases hm2 : m ≤ 2
    · by_cases h4 : m ≤ 1
      · lia
      · have h5 : m = 2 := by lia
        subst h5
        lia
    · lia
  | succ k =>
    have h1 := mnm_le (c := c) (m := m) (show k < n by lia)
    have h2 := DD_upper e
    lia
theorem levB_8 {c : Nat → Nat → Int} (hc : ∀ i j, 0 ≤ c i j ∧ c i j ≤ 2) {M n : Nat} (hn : 0 < n) (hM : M = n + 3) : 6 ≤ levB c n M 8 ∧ ∀ t : Int, t ≤ 2 → (levB c n M 8 ≤ 6 + t ↔ ∃ w, w ≤ t ∧ Mch c M n w) := by
  unfold levB
  split
  · rename_i h
    obtain ⟨m, hm, hb⟩ := List.any_eq_true.mp h
    rw [List.mem_range] at hm
    refine ⟨by decide, fun t ht => ⟨fun h => by lia, fun ⟨w, hw, hmw⟩ => ?_⟩⟩
    have hw0 := hmw.nonneg fun i j => (hc i j).1
    have := mnm_low hc hmw hn hM hm hw0
    have hb := of_decide_eq_true hb
    lia
  · have hl := DD_lower hc M n
    refine ⟨?_, fun t ht => ⟨fun h => ?_, fun ⟨w, hw, hmw⟩ => ?_⟩⟩
    · rcases hl with ⟨v, hv, hl⟩ | hl
      · have := hv.nonneg fun i j => (hc i j).1
        lia
      · lia
    · rcases hl with ⟨v, hv, hl⟩ | hl
      · exact ⟨v, by lia, hv⟩
      · lia
    · have := DD_upper hmw
      lia
theorem levB_6 {c : Nat → Nat → Int} (hc : ∀ i j, 0 ≤ c i j ∧ c i j ≤ 2) {M n : Nat} (hn : 0 < n) (hM : M = n + 3) : 6 ≤ levB c n M 6 ∧ (levB c n M 6 = 6 ↔ ∃ w, w ≤ 0 ∧ Mch c M n w) := by
  unfold levB
  split
  · rename_i h
    obtain ⟨m, hm, hb⟩ := List.any_eq_true.mp h
    rw [List.mem_range] at hm
    refine ⟨by decide, ⟨fun h => by lia, fun ⟨w, hw, hmw⟩ => ?_⟩⟩
    have hw0 := hmw.nonneg fun i j => (hc i j).1
    have := mnm_low hc hmw hn hM hm hw0
    have hb := of_decide_eq_true hb
    lia
  · have hl := DD_lower hc M n
    have h6 : 6 ≤ DD c M n := by
      rcases hl with ⟨v, hv, hl⟩ | hl
      · have := hv.nonneg fun i j => (hc i j).1
        lia
      · lia
    refine ⟨h6, ⟨fun h => ?_, fun ⟨w, hw, hmw⟩ => ?_⟩⟩
    · rcases hl with ⟨v, hv, hl⟩ | hl
      · exact ⟨v, by lia, hv⟩
      · lia
    · have := DD_upper hmw
      lia
/-- equal ends may be cut off -/
theorem Mch.suf1 {c : Nat → Nat → Int} (hc : ∀ i j, 0 ≤ c i j) {m k v} (h : Mch c m k v) : 0 < k → ∃ v', v' ≤ v ∧ Mch c (m - 1) (k - 1) v' := by
  induction h with
  | nil => exact fun h => absurd h (Nat.lt_irrefl _)
  | skip h ih =>
    rename_i m k v
    intro hk
    obtain ⟨v', a, b⟩ := ih hk
    have := h.le
    exact ⟨v', a, b.skip.cast (by lia) rfl rfl⟩
  | take h ih =>
    rename_i m k v
    intro _
    have := hc m k
    exact ⟨v, by lia, h⟩
theorem Mch.suf {c : Nat → Nat → Int} (hc : ∀ i j, 0 ≤ c i j) : ∀ (q : Nat) {m k v}, Mch c (m + q) (k + q) v → ∃ v', v' ≤ v ∧ Mch c m k v'
  | 0, _, _, v, h => ⟨v, Int.le_refl _, h⟩
  | q + 1, m, k, v, h => by
    obtain ⟨v1, a, b⟩ := h.suf1 hc (by lia)
    obtain ⟨v2, a2, b2⟩ := Mch.suf hc q (b.cast (m' := m + q) (k' := k + q) (by lia) (by lia) rfl)
    exact ⟨v2, by lia, b2⟩
theorem Mch.sufR {c : Nat → Nat → Int} {m k v} (h : Mch c m k v) : ∀ (q : Nat), (∀ i, i < q → c (m + i) (k + i) = 0) → Mch c (m + q) (k + q) v
  | 0, _ => h
  | q + 1, hq => (Mch.sufR h q fun i hi => hq i (by lia)).take.cast rfl rfl (by rw [hq q (by lia)]; lia)
noncomputable def shift (c : Nat → Nat → Int) (p : Nat) : Nat → Nat → Int := fun i j => c (i + p) (j + p)
theorem Mch.pre1 {c : Nat → Nat → Int} (hc : ∀ i j, 0 ≤ c i j) {m k v} (h : Mch c m k v) : 0 < k → ∃ v', v' ≤ v ∧ Mch (shift c 1) (m - 1) (k - 1) v' := by
  induction h with
  | nil => exact fun h => absurd h (Nat.lt_irrefl _)
  | skip h ih =>
    rename_i m k v
    intro hk
    obtain ⟨v', a, b⟩ := ih hk
    have := h.le
    exact ⟨v', a, b.skip.cast (by lia) rfl rfl⟩
  | take h ih =>
    rename_i m k v
    intro _
    have h0 := hc m k
    cases k with
    | zero =>
      have := h.nonneg hc
      exact ⟨0, by lia, .nil _⟩
    | succ k =>
      obtain ⟨v', a, b⟩ := ih (by lia)
      have hl := h.le
      obtain ⟨m, rfl⟩ : ∃ m', m = m' + 1 := ⟨m - 1, by lia⟩
      exact ⟨v' + c (m + 1) (k + 1), by lia, b.take.cast rfl rfl rfl⟩
theorem Mch.pre1R {c : Nat → Nat → Int} (h0 : c 0 0 = 0) {m k v} (h : Mch (shift c 1) m k v) : Mch c (m + 1) (k + 1) v := by
  induction h with
  | nil m =>
    have key : ∀ m, Mch c (m + 1) 1 0 := by
      intro m
      induction m with
      | zero => exact (Mch.take (Mch.nil 0)).cast rfl rfl (by rw [h0]; lia)
      | succ m ih => exact ih.skip
    exact key m
  | skip h ih => exact ih.skip
  | take h ih => exact ih.take
theorem shift_shift {c p} : shift (shift c 1) p = shift c (p + 1) := by
  funext i j
  show c (i + p + 1) (j + p + 1) = c (i + (p + 1)) (j + (p + 1))
  rw [Nat.add_assoc, Nat.add_assoc]
theorem Mch.pre : ∀ (p : Nat) {c : Nat → Nat → Int} {m k v}, (∀ i j, 0 ≤ c i j) → Mch c (m + p) (k + p) v → ∃ v', v' ≤ v ∧ Mch (shift c p) m k v'
  | 0, _, _, _, v, _, h => ⟨v, Int.le_refl _, h⟩
  | p + 1, c, m, k, v, hc, h => by
    obtain ⟨v1, a, b⟩ := h.pre1 hc (by lia)
    obtain ⟨v2, a2, b2⟩ := Mch.pre p (c := shift c 1) (fun i j => hc _ _) (b.cast (m' := m + p) (k' := k + p) (by lia) (by lia) rfl)
    rw [shift_shift] at b2
    exact ⟨v2, by lia, b2⟩
theorem Mch.preR : ∀ (p : Nat) {c : Nat → Nat → Int} {m k v}, (∀ i, i < p → c i i = 0) → Mch (shift c p) m k v → Mch c (m + p) (k + p) v
  | 0, _, _, _, _, _, h => h
  | p + 1, c, m, k, v, hc, h => by
    rw [← shift_shift] at h
    have := Mch.preR p (c := shift c 1) (fun i hi => hc (i + 1) (by lia)) h
    exact (this.pre1R (hc 0 (by lia))).cast (by lia) (by lia) rfl
/-- both ends -/
theorem Mch.cut {c : Nat → Nat → Int} (hc : ∀ i j, 0 ≤ c i j) {p q m k : Nat} {t : Int} (hp : ∀ i, i < p → c i i = 0) (hq : ∀ i, i < q → c (p + m + i) (p + k + i) = 0) :
    (∃ w, w ≤ t ∧ Mch c (p + m + q) (p + k + q) w) ↔ ∃ w, w ≤ t ∧ Mch (shift c p) m k w := by
  constructor
  · rintro ⟨w, hw, h⟩
    obtain ⟨v1, a1, b1⟩ := Mch.suf hc q h
    obtain ⟨v2, a2, b2⟩ := Mch.pre p hc (b1.cast (m' := m + p) (k' := k + p) (by lia) (by lia) rfl)
    exact ⟨v2, by lia, b2⟩
  · rintro ⟨w, hw, h⟩
    have h1 := Mch.preR p hp h
    have h2 := (h1.cast (m' := p + m) (k' := p + k) (by lia) (by lia) rfl).sufR q hq
    exact ⟨w, hw, h2⟩
/-- three places -/
theorem Mch.one {c m v} (h : Mch c m 1 v) : ∃ i, i < m ∧ v = c i 0 := by
  generalize hk : 1 = k at h
  induction h with
  | nil => cases hk
  | skip h ih => obtain ⟨i, a, b⟩ := ih hk; exact ⟨i, by lia, b⟩
  | take h ih =>
    rename_i m k v
    have : k = 0 := by lia
    subst this
    have hv : v = 0 := by
      clear ih hk
      generalize hk : 0 = k at h
      induction h with
      | nil => rfl
      | skip h ih => exact ih hk
      | take => cases hk
    exact ⟨m, by lia, by rw [hv]; lia⟩
theorem Mch.two {c m v} (h : Mch c m 2 v) : ∃ i j, i < j ∧ j < m ∧ v = c i 0 + c j 1 := by
  generalize hk : 2 = k at h
  induction h with
  | nil => cases hk
  | skip h ih => obtain ⟨i, j, a, b, d⟩ := ih hk; exact ⟨i, j, a, by lia, d⟩
  | take h ih =>
    rename_i m k v
    have : k = 1 := by lia
    subst this
    obtain ⟨i, a, b⟩ := h.one
    exact ⟨i, m, a, by lia, by rw [b]⟩
theorem Mch.three {c m v} (h : Mch c m 3 v) : ∃ i j k, i < j ∧ j < k ∧ k < m ∧ v = c i 0 + c j 1 + c k 2 := by
  generalize hk : 3 = k at h
  induction h with
  | nil => cases hk
  | skip h ih => obtain ⟨i, j, k, a, b, d, e⟩ := ih hk; exact ⟨i, j, k, a, b, by lia, e⟩
  | take h ih =>
    rename_i m k v
    have : k = 2 := by lia
    subst this
    obtain ⟨i, j, a, b, d⟩ := h.two
    exact ⟨i, j, m, a, b, by lia, by rw [d]⟩
theorem Mch.up {c m k v} (h : Mch c m k v) : ∀ m', m ≤ m' → Mch c m' k v := by
  intro m' hm
  obtain ⟨d, rfl⟩ : ∃ d, m' = m + d := ⟨m' - m, by lia⟩
  clear hm
  induction d with
  | zero => exact h
  | succ d ih => exact ih.skip
theorem Mch.of3 {c : Nat → Nat → Int} {m i j k : Nat} (h1 : i < j) (h2 : j < k) (h3 : k < m) : Mch c m 3 (c i 0 + c j 1 + c k 2) := by
  have a := ((Mch.nil (c := c) i).take).up j h1
  have b := a.take.up k h2
  have d := b.take.up m h3
  exact d.cast rfl rfl (by simp only [Nat.zero_add, Nat.reduceAdd]; lia)
theorem Mch.iff3 {c : Nat → Nat → Int} {m : Nat} {t : Int} : (∃ w, w ≤ t ∧ Mch c m 3 w) ↔ ∃ i j k, i < j ∧ j < k ∧ k < m ∧ c i 0 + c j 1 + c k 2 ≤ t := by
  constructor
  · rintro ⟨w, hw, h⟩
    obtain ⟨i, j, k, a, b, d, e⟩ := h.three
    exact ⟨i, j, k, a, b, d, by lia⟩
  · rintro ⟨i, j, k, a, b, d, e⟩
    exact ⟨_, e, Mch.of3 a b d⟩
end Mine
set_option maxHeartbeats 4000000
namespace Mine
local macro_rules | `(tactic| walk_at $s:str) => wAt s.getString
theorem mem7 : recAt 7 ∈ recsOf PySem.Challenge.pw_rt0035_01 := List.mem_of_getElem? (i := 7) (by rfl)
theorem nm7 : (recAt 7).name = Str.ofString "_levenshtein_distance" := by rfl
theorem ok7 : DefOk (recAt 7) ["a", "b", "max_cost"] := ⟨fun _ _ _ => three_of fun _ _ _ => rfl, by decide, by decide, by decide, by decide, by decide, trivial⟩
local macro_rules | `(tactic| walk_at $s:str) => wMore s.getString ["6"] [("6", "f_sub a _ _ _")] ""
noncomputable def lcost (long short : List Str) : Nat → Nat → Int := fun m k => wcost (long.getD m "") (short.getD k "")
noncomputable def core (long short : List Str) (mc : Int) : Int := if mc < ((long.length : Int) - short.length) * 2 then mc + 1 else levB (lcost long short) short.length long.length mc
/-- what the distance may hand back: some equal ends cut off, the rest by the tables -/
noncomputable def LevS (xs ys : List Str) (mc v : Int) : Prop := ∃ P xs2 ys2 S : List Str, xs = P ++ xs2 ++ S ∧ ys = P ++ ys2 ++ S ∧
  (((xs2 = [] ∨ ys2 = []) ∧ v = 2 * ((xs2.length : Int) + ys2.length)) ∨ (xs2 ≠ [] ∧ ys2 ≠ [] ∧ v = if ys2.length < xs2.length then core xs2 ys2 mc else core ys2 xs2 mc))
theorem psl_map {A B : Type} {f : A → B} {xs : List A} {lo hi : Option Int} : psl (xs.map f) lo hi = (psl xs lo hi).map f := by
  unfold psl; simp
theorem psl_from {A : Type} {xs : List A} {p : Nat} : psl xs (some (p : Int)) none = xs.drop p := by
  unfold psl clip
  simp only
  have e : (max 0 (min (if (p : Int) < 0 then (p : Int) + xs.length else p) (xs.length : Int))).toNat = min p xs.length := by rw [if_neg (by omega)]; omega
  rw [e, List.take_of_length_le (by simp)]
  by_cases h : p ≤ xs.length
  · rw [Nat.min_eq_left h]
  · rw [Nat.min_eq_right (by omega), List.drop_of_length_le (Nat.le_refl _), List.drop_of_length_le (by omega)]
theorem psl_none {A : Type} {xs : List A} : psl xs none none = xs := by
  unfold psl clip
  simp
theorem psl_less {A : Type} {xs : List A} {q : Nat} (hq : 0 < q) : psl xs none (some (-(q : Int))) = xs.take (xs.length - q) := by
  unfold psl clip
  simp only
  rw [if_pos (by lia), List.drop_zero]
  congr 1
  lia
/-- post or None -/
noncomputable def pon (q : Nat) : Option Int := if q = 0 then none else some (-(q : Int))
theorem psl_pon {A : Type} {xs : List A} {q : Nat} : psl xs none (pon q) = xs.take (xs.length - q) := by
  unfold pon
  split
  · rename_i h; subst h; rw [psl_none]; simp
  · exact psl_less (by lia)
theorem nemp {A : Type} (l : List A) : (!l.isEmpty) = decide (0 < l.length) := by cases l <;> simp
theorem ne_from {xs : List Str} {p : Nat} : (!(psl (xs.map PV.str) (some (p : Int)) none).isEmpty) = decide (p < xs.length) := by
  rw [nemp, psl_from, decide_eq_decide]; simp; omega
theorem ne_pon {xs : List Str} {q : Nat} : (!(psl (xs.map PV.str) none (pon q)).isEmpty) = decide (q < xs.length) := by
  rw [nemp, psl_pon, decide_eq_decide]; simp; lia
section
variable {C : Cx} {σ : AS} {pos : Pos} {k : Nat} {x : Str} {np p p1 p2 p3 : Pos} {sc : Scope}
theorem Ev.slcPon {i q : Nat} {f : Bool} {xs : List PV} {Q} (hs : C.env.scope = sc) (hk : sc.names.lookup x = some .local) (hv : σ.loc x = some (.ref i)) (hd : (x == ("__debug__" : Str)) = false) (hk2 : sc.names.lookup ("post" : Str) = some .local) (hv2 : σ.loc "post" = some (.int (-(q : Int)))) (hi : σ.hp[i]? = some (.list f xs)) (hl : xs.length < 1000000)
    (h : Q (.ref σ.hp.length) { σ with hp := σ.hp ++ [.list false (psl xs none (pon q))] }) : Ev C (.Subscript (.Name x np) (.Slice none (some (.BoolOp .Or [.Name "post" p1, .Constant .none k p2] p3)) none p) pos) σ Q := by
  refine Ev.slcLn hs hk hv hd (EvO.none (EvO.some (Ev.or2 (Ev.loc hs hk2 hv2 (Tru.int ⟨fun hc => ?_, fun hc => ?_⟩)))))
  · refine ⟨f, xs, none, some (-(q : Int)), hi, hl, rfl, rfl, ?_⟩
    have : pon q = some (-(q : Int)) := if_neg fun e => by subst e; simp at hc
    rw [← this]; exact h
  · refine Ev.cNone ⟨f, xs, none, none, hi, hl, rfl, rfl, ?_⟩
    have : pon q = none := if_pos (by simp at hc; exact hc)
    rw [this] at h; exact h
end
local macro_rules | `(tactic| walk_at $s:str) => wMore s.getString [] [] "Ev.slcPon a d lk d d a hp _ _"
theorem drop_pred {A : Type} {l : List A} {n : Nat} {x : A} (h : l[n - 1]? = some x) (hn : 0 < n) : l.drop (n - 1) = x :: l.drop n := by
  obtain ⟨hlt, he⟩ := List.getElem?_eq_some_iff.mp h
  rw [List.drop_eq_getElem_cons hlt, he, show n - 1 + 1 = n from by lia]
noncomputable def lrow (c : Nat → Nat → Int) (n m j : Nat) : List PV := mk n fun k => .int (if k < j then DD c (m + 1) (k + 1) else DD c m (k + 1))
theorem lrow_zero {c n} : lrow c n 0 0 = (List.range n).map fun (j : Nat) => PV.int (2 + j * 2) := by
  unfold lrow mk
  refine List.map_congr_left fun k _ => ?_
  rw [if_neg (Nat.not_lt_zero _)]
  show PV.int (2 * ((k + 1 : Nat) : Int)) = _
  congr 1; lia
theorem lrow_len {c n m j} : (lrow c n m j).length = n := mk_length
theorem lrow_at {c n m j} (h : j < n) : (lrow c n m j)[(j : Int).toNat]? = some (.int (DD c m (j + 1))) := by
  unfold lrow
  rw [Int.toNat_natCast, mk_get h, if_neg (Nat.lt_irrefl _)]
theorem lrow_set {c n m j} : (lrow c n m j).set j (.int (DD c (m + 1) (j + 1))) = lrow c n m (j + 1) := by
  refine List.ext_getElem? fun k => ?_
  by_cases hk : k < n
  · by_cases e : j = k
    · subst e
      rw [List.getElem?_set_self (by rw [lrow_len]; exact hk)]
      unfold lrow; rw [mk_get hk, if_pos (Nat.lt_succ_self _)]
    · rw [List.getElem?_set_ne e]
      unfold lrow; rw [mk_get hk, mk_get hk]
      by_cases h : k < j
      · rw [if_pos h, if_pos (by lia)]
      · rw [if_neg h, if_neg (by lia)]
  · rw [List.getElem?_eq_none (by simp [lrow_len]; lia), List.getElem?_eq_none (by rw [lrow_len]; lia)]
theorem lrow_next {c n m} : lrow c n m n = lrow c n (m + 1) 0 := by
  unfold lrow mk
  refine List.map_congr_left fun k hk => ?_
  rw [if_pos (List.mem_range.mp hk), if_neg (Nat.not_lt_zero _)]
theorem rng_size {n : Nat} : Builtin.Range.rangeSize 2 (2 * ((n : Int) + 1)) 2 = n := by
  unfold Builtin.Range.rangeSize
  rw [if_pos (by decide)]
  split <;> lia
theorem fits_of {x : Int} (h : 0 ≤ x ∧ x < 10000000) : Builtin.Range.rangeFitsLong x = true := by
  unfold Builtin.Range.rangeFitsLong
  simp only [Bool.and_eq_true, decide_eq_true_eq]
  lia
theorem rng_small {n : Nat} (h : n < 1000000) : Builtin.Range.small 2 (2 * ((n : Int) + 1)) 2 = true := by
  unfold Builtin.Range.small
  rw [rng_size, fits_of (by lia), fits_of (x := 2 * ((n : Int) + 1)) (by lia), fits_of (x := (n : Int)) (by lia), if_pos (by decide), fits_of (by lia)]
  simp
structure LvA (hp : List AO) (ra rb : Nat) (mc : Int) (σ : AS) : Prop where
  a : σ.loc "a" = some (.ref ra)
  b : σ.loc "b" = some (.ref rb)
  mc : σ.loc "max_cost" = some (.int mc)
  ext : Ext hp σ.hp
structure LvR (hp : List AO) (rs rl rr : Nat) (mc : Int) (L S : List Str) (σ : AS) : Prop where
  A : LvA hp rs rl mc σ
  row : σ.loc "row" = some (.ref rr)
  l : σ.hp[rl]? = some (.list false (L.map PV.str))
  s : σ.hp[rs]? = some (.list false (S.map PV.str))
theorem f_lev {S lv hp ra rb fa fb xs ys mc K} (hO : Ok S) (ha : hp[ra]? = some (.list fa (xs.map PV.str))) (hb : hp[rb]? = some (.list fb (ys.map PV.str))) (hn : xs.length ≠ ys.length) (hxl : xs.length < 40) (hyl : ys.length < 40)
    (hlx : ∀ x ∈ xs, Builtin.Str.tooLong (Txt.lower x).length = false) (hly : ∀ x ∈ ys, Builtin.Str.tooLong (Txt.lower x).length = false) (h : ∀ v, LevS xs ys mc v → K (.int v) []) :
    Fn S (lv + 1) (recAt 7) ["a", "b", "max_cost"] [.ref ra, .ref rb, .int mc] hp K := by
  intro C hS hsc hlv hcells hcode
  subst hS
  conv => enter [2]; whnf
  rw [← hsc]
  conv at hsc => rhs; whnf
  rw [hsc]
  generalize hσ : (AS.mk _ _ _ : AS) = σ
  have h1 : σ.loc "a" = some (.ref ra) := by rw [← hσ]; rfl
  have h2 : σ.loc "b" = some (.ref rb) := by rw [← hσ]; rfl
  have h3 : σ.loc "max_cost" = some (.int mc) := by rw [← hσ]; rfl
  have hh : σ.hp = hp := by rw [← hσ]
  clear hσ
  have he : Ext hp σ.hp := by rw [hh]; exact Ext.refl
  repeat' walk_at "s"
  refine Cmp.eqL (xs := xs.map PV.str) (ys := ys.map PV.str) (by rw [hh]; exact ha) (by rw [hh]; exact hb) (by simpa using hn) ?_
  repeat' walk_at "s"
  refine X1.mono (Q := fun f σ' => f = .next ∧ ∃ p : Nat, LvA hp ra rb mc σ' ∧ σ'.loc "pre" = some (.int p) ∧ p ≤ xs.length ∧ p ≤ ys.length ∧ xs.take p = ys.take p) ?_ ?_
  · -- BEGIN
    refine X1.whileI (fun (p : Nat) σ' => LvA hp ra rb mc σ' ∧ σ'.loc "pre" = some (.int p) ∧ p ≤ xs.length ∧ p ≤ ys.length ∧ xs.take p = ys.take p) (fun p => xs.length - p) 0 ?_ ?_
    · exact ⟨⟨by walk_at "lk", by walk_at "lk", by walk_at "lk", he⟩, by walk_at "lk", Nat.zero_le _, Nat.zero_le _, rfl⟩
    · intro p σ ⟨⟨t1, t2, t3, t4⟩, t5, t6, t7, t8⟩
      have ha2 : σ.hp[ra]? = some (.list fa (xs.map PV.str)) := t4.get ha
      have hb2 : σ.hp[rb]? = some (.list fb (ys.map PV.str)) := t4.get hb
      have l1 : (xs.map PV.str).length < 1000000 := by simp; lia
      have l2 : (ys.map PV.str).length < 1000000 := by simp; lia
      have l3 : (psl (xs.map PV.str) (some (p : Int)) none).length < 1000000 := Nat.lt_of_le_of_lt (psl_length_le _ _ _) l1
      have l4 : (psl (ys.map PV.str) (some (p : Int)) none).length < 1000000 := Nat.lt_of_le_of_lt (psl_length_le _ _ _) l2
      rcases e1 : xs[p]? with _ | x
      · have hp0 := List.getElem?_eq_none_iff.mp e1
        have c1 : (!(psl (xs.map PV.str) (some (p : Int)) none).isEmpty) = false := by rw [ne_from]; simp; lia
        walk_at "w"
        exact ⟨p, ⟨t1, t2, t3, t4.app⟩, t5, t6, t7, t8⟩
      have hp1 := get_lt e1
      have c1 : (!(psl (xs.map PV.str) (some (p : Int)) none).isEmpty) = true := by rw [ne_from]; simp; lia
      rcases e2 : ys[p]? with _ | y
      · have hp0 := List.getElem?_eq_none_iff.mp e2
        have c2 : (!(psl (ys.map PV.str) (some (p : Int)) none).isEmpty) = false := by rw [ne_from]; simp; lia
        walk_at "w"
        exact ⟨p, ⟨t1, t2, t3, t4.app.app⟩, t5, t6, t7, t8⟩
      have hp2 := get_lt e2
      have c2 : (!(psl (ys.map PV.str) (some (p : Int)) none).isEmpty) = true := by rw [ne_from]; simp; lia
      have g1 : (xs.map PV.str)[(p : Int).toNat]? = some (.str x) := by simp [e1]
      have g2 : (ys.map PV.str)[(p : Int).toNat]? = some (.str y) := by simp [e2]
      rcases e3 : (x == y) with _ | _
      · walk_at "w"
        exact ⟨p, ⟨t1, t2, t3, t4.app.app⟩, t5, t6, t7, t8⟩
      · walk_at "w"
        have e3 : x = y := by simpa using e3
        refine ⟨p + 1, by lia, ⟨by walk_at "lk", by walk_at "lk", by walk_at "lk", t4.app.app⟩, by walk_at "lk", by lia, by lia, ?_⟩
        rw [List.take_add_one, List.take_add_one, e1, e2, t8, e3]
  · rintro f σ ⟨rfl, p, ⟨t1, t2, t3, t4⟩, t5, t6, t7, t8⟩
    have ha2 : σ.hp[ra]? = some (.list fa (xs.map PV.str)) := t4.get ha
    have hb2 : σ.hp[rb]? = some (.list fb (ys.map PV.str)) := t4.get hb
    have l1 : (xs.map PV.str).length < 1000000 := by simp; lia
    have l2 : (ys.map PV.str).length < 1000000 := by simp; lia
    walk_at "w"
    generalize hr1 : σ.hp.length = r1
    have e1 : psl (xs.map PV.str) (some (p : Int)) none = (xs.drop p).map PV.str := by rw [psl_from, List.map_drop]
    have e2 : psl (ys.map PV.str) (some (p : Int)) none = (ys.drop p).map PV.str := by rw [psl_from, List.map_drop]
    rw [e1, e2]
    have hr2 : (σ.hp ++ [AO.list false ((xs.drop p).map PV.str)]).length = r1 + 1 := by simp [hr1]
    generalize hxs1 : xs.drop p = xs1
    generalize hys1 : ys.drop p = ys1
    refine X1.mono (Q := fun f σ' => f = .next ∧ ∃ q : Nat, LvA hp r1 (r1 + 1) mc σ' ∧ σ'.hp[r1]? = some (.list false (xs1.map PV.str)) ∧ σ'.hp[r1 + 1]? = some (.list false (ys1.map PV.str)) ∧ σ'.loc "post" = some (.int (-(q : Int))) ∧ q ≤ xs1.length ∧ q ≤ ys1.length ∧ xs1.drop (xs1.length - q) = ys1.drop (ys1.length - q)) ?_ ?_
    · -- BEGIN
      refine X1.whileI (fun (q : Nat) σ' => LvA hp r1 (r1 + 1) mc σ' ∧ σ'.hp[r1]? = some (.list false (xs1.map PV.str)) ∧ σ'.hp[r1 + 1]? = some (.list false (ys1.map PV.str)) ∧ σ'.loc "post" = some (.int (-(q : Int))) ∧ q ≤ xs1.length ∧ q ≤ ys1.length ∧ xs1.drop (xs1.length - q) = ys1.drop (ys1.length - q)) (fun p => xs1.length - p) 0 ?_ ?_
      · refine ⟨⟨by walk_at "lk", ?_, by walk_at "lk", t4.app.app⟩, ?_, ?_, by walk_at "lk", Nat.zero_le _, Nat.zero_le _, by simp⟩
        · show some (PV.ref (σ.hp ++ [AO.list false (xs1.map PV.str)]).length) = _
          simp [hr1]
        · rw [← hr1]; exact getApp getNew
        · show ((σ.hp ++ [AO.list false (xs1.map PV.str)]) ++ [AO.list false (ys1.map PV.str)])[r1 + 1]? = _
          have : (σ.hp ++ [AO.list false (xs1.map PV.str)]).length = r1 + 1 := by simp [hr1]
          rw [← this]; exact getNew
      · intro q σ ⟨⟨u1, u2, u3, u4⟩, u5, u6, u7, u8, u9, u10⟩
        have hx1l : xs1.length < 40 := by rw [← hxs1]; simp; lia
        have hy1l : ys1.length < 40 := by rw [← hys1]; simp; lia
        have m1 : (xs1.map PV.str).length < 1000000 := by simp; lia
        have m2 : (ys1.map PV.str).length < 1000000 := by simp; lia
        have m3 : (psl (xs1.map PV.str) none (pon q)).length < 1000000 := Nat.lt_of_le_of_lt (psl_length_le _ _ _) m1
        have m4 : (psl (ys1.map PV.str) none (pon q)).length < 1000000 := Nat.lt_of_le_of_lt (psl_length_le _ _ _) m2
        by_cases hq1 : q < xs1.length
        · have c1 : (!(psl (xs1.map PV.str) none (pon q)).isEmpty) = true := by rw [ne_pon]; simp; lia
          by_cases hq2 : q < ys1.length
          · have c2 : (!(psl (ys1.map PV.str) none (pon q)).isEmpty) = true := by rw [ne_pon]; simp; lia
            obtain ⟨x, ex⟩ : ∃ x, xs1[xs1.length - q - 1]? = some x := ⟨_, List.getElem?_eq_getElem (by lia)⟩
            obtain ⟨y, ey⟩ : ∃ y, ys1[ys1.length - q - 1]? = some y := ⟨_, List.getElem?_eq_getElem (by lia)⟩
            have g1 : (xs1.map PV.str)[idx (-(q : Int) - 1) (xs1.map PV.str).length]? = some (.str x) := by
              unfold idx
              rw [if_neg (by lia), List.length_map, show (-(q : Int) - 1 + xs1.length).toNat = xs1.length - q - 1 from by lia, List.getElem?_map, ex]; rfl
            have g2 : (ys1.map PV.str)[idx (-(q : Int) - 1) (ys1.map PV.str).length]? = some (.str y) := by
              unfold idx
              rw [if_neg (by lia), List.length_map, show (-(q : Int) - 1 + ys1.length).toNat = ys1.length - q - 1 from by lia, List.getElem?_map, ey]; rfl
            have b1 : inB (-(q : Int) - 1) (xs1.map PV.str).length := by unfold inB; rw [List.length_map]; lia
            have b2 : inB (-(q : Int) - 1) (ys1.map PV.str).length := by unfold inB; rw [List.length_map]; lia
            have b3 : -1000000 < (-(q : Int) - 1) ∧ (-(q : Int) - 1) < 1000000 := by lia
            rcases e3 : (x == y) with _ | _
            · walk_at "w"
              exact ⟨q, ⟨u1, u2, u3, u4.app.app⟩, getApp (getApp u5), getApp (getApp u6), u7, u8, u9, u10⟩
            · walk_at "w"
              have e3 : x = y := by simpa using e3
              have c3 : (-(q : Int) - 1) = -((q + 1 : Nat) : Int) := by lia
              refine ⟨q + 1, by lia, ⟨by walk_at "lk", by walk_at "lk", by walk_at "lk", u4.app.app⟩, getApp (getApp u5), getApp (getApp u6), by rw [← c3]; walk_at "lk", by lia, by lia, ?_⟩
              rw [show xs1.length - (q + 1) = xs1.length - q - 1 from by lia, show ys1.length - (q + 1) = ys1.length - q - 1 from by lia]
              have f1 := drop_pred ex (by lia)
              have f2 := drop_pred ey (by lia)
              rw [f1, f2, u10, e3]
          · have c2 : (!(psl (ys1.map PV.str) none (pon q)).isEmpty) = false := by rw [ne_pon]; simp; lia
            walk_at "w"
            exact ⟨q, ⟨u1, u2, u3, u4.app.app⟩, getApp (getApp u5), getApp (getApp u6), u7, u8, u9, u10⟩
        · have c1 : (!(psl (xs1.map PV.str) none (pon q)).isEmpty) = false := by rw [ne_pon]; simp; lia
          walk_at "w"
          exact ⟨q, ⟨u1, u2, u3, u4.app⟩, getApp u5, getApp u6, u7, u8, u9, u10⟩
    · rintro f σ2 ⟨rfl, q, ⟨u1, u2, u3, u4⟩, u5, u6, u7, u8, u9, u10⟩
      have hx1l : xs1.length < 40 := by rw [← hxs1]; simp; lia
      have hy1l : ys1.length < 40 := by rw [← hys1]; simp; lia
      have m1 : (xs1.map PV.str).length < 1000000 := by simp; lia
      have m2 : (ys1.map PV.str).length < 1000000 := by simp; lia
      have m3 : (psl (xs1.map PV.str) none (pon q)).length < 1000000 := Nat.lt_of_le_of_lt (psl_length_le _ _ _) m1
      have m4 : (psl (ys1.map PV.str) none (pon q)).length < 1000000 := Nat.lt_of_le_of_lt (psl_length_le _ _ _) m2
      have e1 : psl (xs1.map PV.str) none (pon q) = (xs1.take (xs1.length - q)).map PV.str := by rw [psl_pon]; simp
      have e2 : psl (ys1.map PV.str) none (pon q) = (ys1.take (ys1.length - q)).map PV.str := by rw [psl_pon]; simp
      have d1 : xs = xs.take p ++ xs1.take (xs1.length - q) ++ xs1.drop (xs1.length - q) := by rw [List.append_assoc, List.take_append_drop, ← hxs1, List.take_append_drop]
      have d2 : ys = xs.take p ++ ys1.take (ys1.length - q) ++ xs1.drop (xs1.length - q) := by rw [u10, t8, List.append_assoc, List.take_append_drop, ← hys1, List.take_append_drop]
      generalize hxs2 : xs1.take (xs1.length - q) = xs2 at e1 d1
      generalize hys2 : ys1.take (ys1.length - q) = ys2 at e2 d2
      have hx2l : xs2.length < 40 := by rw [← hxs2]; simp; lia
      have hy2l : ys2.length < 40 := by rw [← hys2]; simp; lia
      have n1 : (psl (xs1.map PV.str) none (pon q)).length = xs2.length := by rw [e1]; simp
      have n2 : (psl (ys1.map PV.str) none (pon q)).length = ys2.length := by rw [e2]; simp
      have hne : xs2.length ≠ ys2.length := fun e => hn (by rw [d1, d2]; simp [e])
      clear hr1 hr2 ha2 hb2 l1 l2 t1 t2 t3 t4 t5 t6 t7 t8 u8 u9 u10 h1 h2 h3 hh he ha hb hxs1 hys1 hxs2 hys2
      by_cases hx0 : xs2 = []
      · have c1 : (!!(psl (xs1.map PV.str) none (pon q)).isEmpty) = true := by rw [e1, hx0]; rfl
        walk_at "w"
        exact fin_int u4.app.app (h _ ⟨_, xs2, ys2, _, d1, d2, .inl ⟨.inl hx0, by rw [n1, n2]⟩⟩)
      · by_cases hy0 : ys2 = []
        · have c1 : (!!(psl (xs1.map PV.str) none (pon q)).isEmpty) = false := by rw [e1]; simp [hx0]
          have c2 : (!!(psl (ys1.map PV.str) none (pon q)).isEmpty) = true := by rw [e2, hy0]; rfl
          walk_at "w"
          exact fin_int u4.app.app (h _ ⟨_, xs2, ys2, _, d1, d2, .inl ⟨.inr hy0, by rw [n1, n2]⟩⟩)
        · have c1 : (!!(psl (xs1.map PV.str) none (pon q)).isEmpty) = false := by rw [e1]; simp [hx0]
          have c2 : (!!(psl (ys1.map PV.str) none (pon q)).isEmpty) = false := by rw [e2]; simp [hy0]
          have c3 : decide ((40 : Int) < ((psl (xs1.map PV.str) none (pon q)).length : Int)) = false := by rw [n1]; simp; lia
          have c4 : decide ((40 : Int) < ((psl (ys1.map PV.str) none (pon q)).length : Int)) = false := by rw [n2]; simp; lia
          have hK : ∀ v, v = (if ys2.length < xs2.length then core xs2 ys2 mc else core ys2 xs2 mc) → K (.int v) [] := fun v e => h v ⟨_, xs2, ys2, _, d1, d2, .inr ⟨hx0, hy0, e⟩⟩
          have hlx2 : ∀ x ∈ xs2, Builtin.Str.tooLong (Txt.lower x).length = false := fun x hx => hlx x (by rw [d1]; simp [hx])
          have hly2 : ∀ x ∈ ys2, Builtin.Str.tooLong (Txt.lower x).length = false := fun x hx => hly x (by rw [d2]; simp [hx])
          repeat' (fail_if_success (with_reducible show X1 _ (PySem.Stmt.If _ [PySem.Stmt.Assign _ (PySem.Expr.Tuple _ _ _) _] _ _) _ _)); walk_at "s"
          all_goals (try assumption)
          refine X1.mono (Q := fun f σ' => f = .next ∧ ∃ (L S : List Str) (rl rs : Nat), LvA hp rs rl mc σ' ∧ σ'.hp[rl]? = some (.list false (L.map PV.str)) ∧ σ'.hp[rs]? = some (.list false (S.map PV.str)) ∧ L ≠ [] ∧ S ≠ [] ∧ L.length < 40 ∧ S.length < L.length ∧ (∀ x ∈ L, Builtin.Str.tooLong (Txt.lower x).length = false) ∧ (∀ x ∈ S, Builtin.Str.tooLong (Txt.lower x).length = false) ∧ (∀ v, v = core L S mc → K (.int v) [])) ?_ ?_
          · -- BEGIN
            generalize hra : σ2.hp.length = ra2
            rw [e1, e2]
            have hrb : (σ2.hp ++ [AO.list false (xs2.map PV.str)]).length = ra2 + 1 := by simp [hra]
            have w1 : (xs2.map PV.str).length < 1000000 := by simp; lia
            have w2 : (ys2.map PV.str).length < 1000000 := by simp; lia
            have ga : ((σ2.hp ++ [AO.list false (xs2.map PV.str)]) ++ [AO.list false (ys2.map PV.str)])[ra2]? = some (.list false (xs2.map PV.str)) := by rw [← hra]; exact getApp getNew
            have gb : ((σ2.hp ++ [AO.list false (xs2.map PV.str)]) ++ [AO.list false (ys2.map PV.str)])[ra2 + 1]? = some (.list false (ys2.map PV.str)) := by rw [← hrb]; exact getNew
            generalize hτ : (AS.setL _ "b" _ : AS) = τ
            have v1 : τ.loc "a" = some (.ref ra2) := by rw [← hτ]; walk_at "lk"
            have v2 : τ.loc "b" = some (.ref (ra2 + 1)) := by
              rw [← hτ]
              show some (PV.ref (σ2.hp ++ [AO.list false (xs2.map PV.str)]).length) = _
              rw [hrb]
            have v3 : τ.loc "max_cost" = some (.int mc) := by rw [← hτ]; walk_at "lk"
            have ga : τ.hp[ra2]? = some (.list false (xs2.map PV.str)) := by rw [← hτ]; exact ga
            have gb : τ.hp[ra2 + 1]? = some (.list false (ys2.map PV.str)) := by rw [← hτ]; exact gb
            have v4 : Ext hp τ.hp := by rw [← hτ]; exact u4.app.app
            clear hτ e1 e2 m3 m4 n1 n2 c1 c2 c3 c4 u1 u2 u3 u5 u6 u7 hra hrb
            by_cases hlt : ys2.length < xs2.length
            · have c1 : decide (((ys2.map PV.str).length : Int) < ((xs2.map PV.str).length : Int)) = true := by simp; lia
              walk_at "w"
              refine X1.swap (xs := ["a", "b"]) ?_ (by walk_at "u") (by unfold swappedStores Env.blockKind Env.kindOf; rw [hsc]; rfl)
              walk_at "w"
              refine ⟨_, false, [.ref (ra2 + 1), .ref ra2], rfl, getNew, rfl, ?_⟩
              show StoL C ["b", "a"] [.ref ra2, .ref (ra2 + 1)] _ _
              walk_at "w"
              refine ⟨xs2, ys2, ra2, ra2 + 1, ⟨by walk_at "lk", by walk_at "lk", by walk_at "lk", v4.app⟩, getApp ga, getApp gb, hx0, hy0, hx2l, hlt, hlx2, hly2, fun v e => hK v (by rw [if_pos hlt]; exact e)⟩
            · have c1 : decide (((ys2.map PV.str).length : Int) < ((xs2.map PV.str).length : Int)) = false := by simp; lia
              walk_at "w"
              refine ⟨ys2, xs2, ra2 + 1, ra2, ⟨v1, v2, v3, v4⟩, gb, ga, hy0, hx0, hy2l, by lia, hly2, hlx2, fun v e => hK v (by rw [if_neg hlt]; exact e)⟩
          · clear hK hlx2 hly2 hx0 hy0 hx2l hy2l e1 e2 m3 m4 n1 n2 c1 c2 c3 c4 u1 u2 u3 u4 u5 u6 u7 d1 d2 hne m1 m2 hx1l hy1l hn hxl hyl hlx hly
            rintro f σ ⟨rfl, L, S, rl, rs, ⟨u1, u2, u3, u4⟩, u5, u6, u7, u8, u9, u10, u11, u12, hK⟩
            have hLl : (L.map PV.str).length = L.length := by simp
            have hSl : (S.map PV.str).length = S.length := by simp
            have w1 : (L.map PV.str).length < 1000000 := by lia
            have w2 : (S.map PV.str).length < 1000000 := by lia
            have hsp : 0 < S.length := List.length_pos_iff.mpr u8
            rcases hbig : decide (mc < (((L.map PV.str).length : Int) - ((S.map PV.str).length : Int)) * 2) with _ | _
            · walk_at "w"
              refine Cal.range3 (by decide) (by decide) ?_
              walk_at "w"
              refine Cal.listRange (n := S.length) getNew ?_ ?_ (by lia) ?_
              · rw [hSl]
                exact rng_small (by lia)
              · rw [hSl]
                exact rng_size
              walk_at "w"
              generalize hrr : (σ.hp ++ [AO.rng 2 (2 * (((S.map PV.str).length : Int) + 1)) 2]).length = rr
              generalize hτ : (AS.setL _ "result" _ : AS) = τ
              have z1 : τ.loc "a" = some (.ref rs) := by rw [← hτ]; walk_at "lk"
              have z2 : τ.loc "b" = some (.ref rl) := by rw [← hτ]; walk_at "lk"
              have z3 : τ.loc "max_cost" = some (.int mc) := by rw [← hτ]; walk_at "lk"
              have z4 : τ.loc "row" = some (.ref rr) := by rw [← hτ, ← hrr]; walk_at "lk"
              have z5 : τ.loc "result" = some (.int 0) := by rw [← hτ]; walk_at "lk"
              have z6 : Ext hp τ.hp := by rw [← hτ]; exact u4.app.app
              have z7 : τ.hp[rl]? = some (.list false (L.map PV.str)) := by rw [← hτ]; exact getApp (getApp u5)
              have z8 : τ.hp[rs]? = some (.list false (S.map PV.str)) := by rw [← hτ]; exact getApp (getApp u6)
              have z9 : τ.hp[rr]? = some (.list false (lrow (lcost L S) S.length 0 0)) := by
                rw [← hτ, ← hrr, lrow_zero]; exact getNew
              have hrl : rl < rr := by have := get_lt u5; rw [← hrr]; simp; lia
              have hrs : rs < rr := by have := get_lt u6; rw [← hrr]; simp; lia
              have hpr : hp.length ≤ rr := by have := u4.len; rw [← hrr]; simp; lia
              have hcore : core L S mc = levB (lcost L S) S.length L.length mc := by
                unfold core; rw [hLl, hSl] at hbig; rw [if_neg (of_decide_eq_false hbig)]
              rw [hcore] at hK
              clear hτ u1 u2 u3 u4 u5 u6 hcore
              refine X1.forR (fun m σ => LvR hp rs rl rr mc L S σ ∧ σ.hp[rr]? = some (.list false (lrow (lcost L S) S.length m 0)) ∧ σ.loc "result" = some (.int (if m = 0 then 0 else DD (lcost L S) m S.length)) ∧ ∀ m', m' < m → ¬ mc < mnm (lcost L S) m' S.length) 0 (L.map PV.str).length (Nat.zero_le _) w1 ?_ ?_ ?_
              · walk_at "w"
                exact ⟨_, rfl, getNew, ⟨⟨z1, z2, z3, z6.app⟩, z4, getApp z7, getApp z8⟩, getApp z9, by rw [if_pos rfl]; exact z5, fun m' h => absurd h (Nat.not_lt_zero _)⟩
              · intro m σ _ hm ⟨⟨⟨t1, t2, t3, t4⟩, t5, t6, t7⟩, t8, t9, t10⟩
                rw [hLl] at hm
                obtain ⟨x, hx⟩ : ∃ x, L[m]? = some x := ⟨_, List.getElem?_eq_getElem hm⟩
                have hxt := u11 x (List.mem_of_getElem? hx)
                have g1 : (L.map PV.str)[(m : Int).toNat]? = some (.str x) := by simp [hx]
                walk_at "w"
                refine X1.asg2 ?_ (by walk_at "u") (by walk_at "u")
                walk_at "w"
                refine X1.forR (fun j σ => LvR hp rs rl rr mc L S σ ∧ σ.hp[rr]? = some (.list false (lrow (lcost L S) S.length m j)) ∧ σ.loc "bchar" = some (.str x) ∧ σ.loc "distance" = some (.int (DD (lcost L S) m j)) ∧ σ.loc "result" = some (.int (if j = 0 then 2 * (m : Int) else DD (lcost L S) (m + 1) j)) ∧ σ.loc "minimum" = some (.int (mnm (lcost L S) m j))) 0 (S.map PV.str).length (Nat.zero_le _) w2 ?_ ?_ ?_
                · walk_at "w"
                  have c1 : (m : Int) * 2 = 2 * (m : Int) := by lia
                  exact ⟨_, rfl, getNew, ⟨⟨t1, t2, t3, t4.app⟩, t5, getApp t6, getApp t7⟩, getApp t8, by walk_at "lk", by rw [DD_zero, ← c1]; walk_at "lk", by rw [if_pos rfl, ← c1]; walk_at "lk", by walk_at "lk"⟩
                · clear t1 t2 t3 t4 t5 t6 t7 t8 t9
                  intro j σ _ hj ⟨⟨⟨t1, t2, t3, t4⟩, t5, t6, t7⟩, t8, t9, t11, t12, t13⟩
                  rw [hSl] at hj
                  obtain ⟨y, hy⟩ : ∃ y, S[j]? = some y := ⟨_, List.getElem?_eq_getElem hj⟩
                  have hyt := u12 y (List.mem_of_getElem? hy)
                  have g2 : (S.map PV.str)[(j : Int).toNat]? = some (.str y) := by simp [hy]
                  have g3 := lrow_at (c := lcost L S) (m := m) hj
                  have hlc : lcost L S m j = wcost x y := by unfold lcost; rw [List.getD_eq_getElem?_getD, List.getD_eq_getElem?_getD, hx, hy]; rfl
                  have hll := lrow_len (c := lcost L S) (n := S.length) (m := m) (j := j)
                  have hlr : (lrow (lcost L S) S.length m j).length < 1000000 := by lia
                  have hD : DD (lcost L S) (m + 1) (j + 1) = min (min (if j = 0 then 2 * (m : Int) else DD (lcost L S) (m + 1) j) (DD (lcost L S) m (j + 1)) + 2) (DD (lcost L S) m j + wcost x y) := by rw [DD_succ, hlc]
                  walk_at "w"
                  have hjj : (if ((j : Int)).toNat < j then DD (lcost L S) (m + 1) (((j : Int)).toNat + 1) else DD (lcost L S) m (((j : Int)).toNat + 1)) = DD (lcost L S) m (j + 1) := by rw [Int.toNat_natCast, if_neg (Nat.lt_irrefl _)]
                  rw [hjj, ← hD]
                  refine ⟨rr, _, (j : Int), rfl, rfl, getApp t8, by lia, by lia, hlr, ?_⟩
                  rw [Int.toNat_natCast, lrow_set]
                  have hrl' := getSetNe (o := AO.list false (lrow (lcost L S) S.length m (j + 1))) (getApp (t := []) t6) (Nat.ne_of_lt hrl)
                  have hrs' := getSetNe (o := AO.list false (lrow (lcost L S) S.length m (j + 1))) (getApp (t := []) t7) (Nat.ne_of_lt hrs)
                  have hrr' := getSet (o := AO.list false (lrow (lcost L S) S.length m (j + 1))) (getApp (t := []) t8)
                  have hee := (t4.apps (t := [])).set (o := AO.list false (lrow (lcost L S) S.length m (j + 1))) hpr
                  rcases hlt : decide (DD (lcost L S) (m + 1) (j + 1) < mnm (lcost L S) m j) with _ | _
                  · have hmn : mnm (lcost L S) m (j + 1) = mnm (lcost L S) m j := if_neg (of_decide_eq_false hlt)
                    walk_at "w"
                    exact ⟨⟨⟨t1, t2, t3, hee⟩, t5, hrl', hrs'⟩, hrr', t9, by walk_at "lk", by rw [if_neg (Nat.succ_ne_zero _)]; walk_at "lk", by rw [hmn]; exact t13⟩
                  · have hmn : mnm (lcost L S) m (j + 1) = DD (lcost L S) (m + 1) (j + 1) := if_pos (of_decide_eq_true hlt)
                    walk_at "w"
                    exact ⟨⟨⟨t1, t2, t3, hee⟩, t5, hrl', hrs'⟩, hrr', t9, by walk_at "lk", by rw [if_neg (Nat.succ_ne_zero _)]; walk_at "lk", by rw [hmn]; walk_at "lk"⟩
                · clear t1 t2 t3 t4 t5 t6 t7 t8 t9
                  rintro σ ⟨⟨⟨t1, t2, t3, t4⟩, t5, t6, t7⟩, t8, t9, t11, t12, t13⟩
                  rw [hSl] at t8 t11 t12 t13
                  rw [if_neg (by lia)] at t12
                  rw [lrow_next] at t8
                  rcases hlt : decide (mc < mnm (lcost L S) m S.length) with _ | _
                  · have hlt' := of_decide_eq_false hlt
                    walk_at "w"
                    refine ⟨⟨⟨t1, t2, t3, t4⟩, t5, t6, t7⟩, t8, by rw [if_neg (Nat.succ_ne_zero _)]; exact t12, fun m' hm' => ?_⟩
                    by_cases e : m' = m
                    · subst e; exact hlt'
                    · exact t10 m' (by lia)
                  · walk_at "w"
                    refine hK _ ?_
                    unfold levB
                    rw [if_pos]
                    exact List.any_eq_true.mpr ⟨m, List.mem_range.mpr hm, hlt⟩
              · intro σ ⟨⟨⟨t1, t2, t3, t4⟩, t5, t6, t7⟩, t8, t9, t10⟩
                rw [hLl, if_neg (by lia)] at t9
                walk_at "w"
                refine hK _ ?_
                unfold levB
                rw [if_neg]
                intro hany
                obtain ⟨m, hm, hb⟩ := List.any_eq_true.mp hany
                exact t10 m (by rw [hLl]; exact List.mem_range.mp hm) (of_decide_eq_true hb)
            · walk_at "w"
              refine hK _ ?_
              unfold core
              rw [hLl, hSl] at hbig
              rw [if_pos (of_decide_eq_true hbig)]
end Mine
set_option maxHeartbeats 4000000
namespace Mine
local macro_rules | `(tactic| walk_at $s:str) => wAt s.getString
theorem mem14 : recAt 14 ∈ recsOf PySem.Challenge.pw_rt0035_01 := List.mem_of_getElem? (i := 14) (by rfl)
theorem nm14 : (recAt 14).name = Str.ofString "_law_takes" := by rfl
theorem ok14 : DefOk (recAt 14) ["words", "row"] := ⟨fun _ _ _ => two_of fun _ _ => rfl, by decide, by decide, by decide, by decide, by decide, trivial⟩
local macro_rules | `(tactic| walk_at $s:str) => wMore s.getString ["1", "2", "13"] [("1", "f_translate a a a a _ _ _ _ _"), ("13", "f_fits a _ _ _ _")] ""
noncomputable def fitsAt (run row : Str) (q : Nat) : Bool := fits run (ssl row (some (q : Int)) (some ((q : Int) + (run.length : Int))))
/-- the first place from p on where a run fits -/
noncomputable def seek (run row : Str) (p : Nat) : Option Nat := (List.range (row.length + 1 - run.length)).find? fun q => decide (p ≤ q) && fitsAt run row q
theorem seek_some {run row : Str} {p p' : Nat} (h1 : p ≤ p') (h2 : p' + run.length ≤ row.length) (h3 : ∀ q, p ≤ q → q < p' → fitsAt run row q = false) (h4 : fitsAt run row p' = true) : seek run row p = some p' := by
  unfold seek
  refine find_hit (k := p') (fun q x hq hx => ?_) ?_ ?_
  · have hlt := get_lt hx
    rw [List.length_range] at hlt
    rw [List.getElem?_range hlt] at hx
    cases hx
    by_cases hp : p ≤ q
    · rw [h3 q hp hq, Bool.and_false]
    · rw [decide_eq_false hp, Bool.false_and]
  · exact List.getElem?_range (by omega)
  · rw [h4, decide_eq_true h1]; rfl
theorem seek_none {run row : Str} {p p' : Nat} (h2 : row.length < p' + run.length) (h3 : ∀ q, p ≤ q → q < p' → fitsAt run row q = false) : seek run row p = none := by
  unfold seek
  refine find_none fun q x hq hx => ?_
  rw [List.length_range] at hq
  rw [List.getElem?_range hq] at hx
  cases hx
  by_cases hp : p ≤ q
  · rw [h3 q hp (by omega), Bool.and_false]
  · rw [decide_eq_false hp, Bool.false_and]
noncomputable def takesL : List (List Tk) → Str → Nat → Bool
  | [], _, _ => true
  | w :: ws, row, p => match seek (runOf w) row p with
    | none => false
    | some q => takesL ws row (q + (runOf w).length)
noncomputable def tpos (ws : List (List Tk)) (m : Nat) : Nat := 4 + ((ws.take m).map gL).flatten.length
structure TkS (hp : List AO) (row T : Str) (e : Int) (σ : AS) : Prop where
  row : σ.loc "row" = some (.str row)
  text : σ.loc "text" = some (.str T)
  fin : σ.loc "end" = some (.int e)
  ext : Ext hp σ.hp
theorem T_split {T : Str} {ws : List (List Tk)} {m : Nat} {w : List Tk} (hT : L T = [40, 63, 115, 58] ++ ((ws.map gL).flatten ++ [46, 42, 41, 92, 90])) (e : ws[m]? = some w) : ∃ pre post, L T = pre ++ (([40, 63, 62, 46, 42, 63] ++ segL w) ++ 41 :: post) ∧ pre.length = tpos ws m ∧ tpos ws (m + 1) = tpos ws m + 6 + (segL w).length + 1 ∧ tpos ws (m + 1) + 5 ≤ T.length := by
  obtain ⟨hlt, he⟩ := List.getElem?_eq_some_iff.mp e
  have e1 : ws = ws.take m ++ w :: ws.drop (m + 1) := by rw [← he, ← List.drop_eq_getElem_cons hlt, List.take_append_drop]
  have e2 : tpos ws (m + 1) = tpos ws m + 6 + (segL w).length + 1 := by
    unfold tpos
    rw [List.take_add_one, e]
    simp [gL]; lia
  have e3 : L T = ([40, 63, 115, 58] ++ ((ws.take m).map gL).flatten) ++ (([40, 63, 62, 46, 42, 63] ++ segL w) ++ 41 :: (((ws.drop (m + 1)).map gL).flatten ++ [46, 42, 41, 92, 90])) := by
    rw [hT]
    conv => lhs; rw [e1]
    simp [gL]
  refine ⟨_, _, e3, by simp [tpos]; lia, e2, ?_⟩
  rw [L_len, e3, e2]
  simp [tpos]; lia
theorem f_takes {S lv hp rw f w0 w1 w2 row d g a c K} (hO : Ok S) (hE : EscOk S d g) (hw : TwinOk S a) (hL : LamOk S c) (o0 : WOk w0) (o1 : WOk w1) (o2 : WOk w2) (hin : hp[rw]? = some (.list f (([w0, w1, w2].map wsrc).map PV.str))) (hrow : row.length < 1000) (h : K (.bool (takesL [w0, w1, w2] row 0)) []) :
    Fn S (lv + 2) (recAt 14) ["words", "row"] [.ref rw, .str row] hp K := by
  intro C hS hsc hlv hcells hcode
  subst hS
  conv => enter [2]; whnf
  rw [← hsc]
  conv at hsc => rhs; whnf
  rw [hsc]
  generalize hσ : (AS.mk _ _ _ : AS) = σ
  have h1 : σ.loc "words" = some (.ref rw) := by rw [← hσ]; rfl
  have h2 : σ.loc "row" = some (.str row) := by rw [← hσ]; rfl
  have hh : σ.hp = hp := by rw [← hσ]
  clear hσ
  have he : Ext hp σ.hp := by rw [hh]; exact Ext.refl
  have hin' : σ.hp[rw]? = some (.list f (([w0, w1, w2].map wsrc).map PV.str)) := by rw [hh]; exact hin
  walk_at "w"
  have hsl : ∀ w, WOk w → (wsrc w).length < 15 := fun w o => by have := o.src; show (srcOf w).toArray.size < 15; simpa using this
  have hj1 : JoinOk ">*<" ([w0, w1, w2].map wsrc) = true := by
    refine joinOk_of_weight ?_ (by decide)
    have a0 := hsl _ o0
    have a1 := hsl _ o1
    have a2 := hsl _ o2
    simp only [List.map_cons, List.map_nil, List.sum_cons, List.sum_nil, List.length_cons, List.length_nil]
    lia
  have hsw := src_words w0 w1 w2
  have hsrcl : (srcOf (wtoks [w0, w1, w2])).length < 100 := by
    have a0 := o0.src
    have a1 := o1.src
    have a2 := o2.src
    unfold srcOf at a0 a1 a2 ⊢
    simp [wtoks, Tk.src] at a0 a1 a2 ⊢
    lia
  have hlen1 : ("*<" ++ Txt.join ">*<" ([w0, w1, w2].map wsrc) : Str).length + (">*" : Str).length < 100 := by
    rw [← strLen_append, hsw]
    show (srcOf (wtoks [w0, w1, w2])).toArray.size < 100
    simpa using hsrcl
  have hlen0 : ("*<" : Str).length + (Txt.join ">*<" ([w0, w1, w2].map wsrc)).length < 100 := by rw [strLen_append] at hlen1; lia
  have hall : ∀ w ∈ [w0, w1, w2], WOk w := fun w hm => by simp at hm; rcases hm with rfl | rfl | rfl <;> assumption
  refine ⟨_, rfl, ?_⟩
  walk_at "w"
  refine Cal.join (getApp hin') hj1 ?_
  refine Bin.addS (Nat.lt_trans hlen0 (by decide)) ?_
  walk_at "w"
  refine Bin.addS (Nat.lt_trans hlen1 (by decide)) ?_
  rw [hsw]
  have hpi := parts_inp (rs := σ.hp.length) (ws := [w0, w1, w2]) fun w hm => (hall w hm).star
  have hok : ∀ (m c : Nat), (wtoks [w0, w1, w2])[m]? = some (.chr c) → c = 45 ∨ c ∈ [60, 62, 114, 119, 120, 115, 83, 116, 84] := fun m c e => chr_wtoks (fun w hm => (hall w hm).chr) (List.mem_of_getElem? e)
  have hst : ∀ m, (wtoks [w0, w1, w2])[m + 1]? = some .star → (wtoks [w0, w1, w2])[m]? ≠ some .star := nodbl_wtoks fun w hm => (hall w hm).star
  generalize wtoks [w0, w1, w2] = ts at hpi hok hst hsrcl ⊢
  clear hlen0 hlen1 hsw hj1 hsl hin hin' hcode
  have hsrcl : (srcOf ts).length < 1000 := Nat.lt_trans hsrcl (by decide)
  repeat' walk_at "s"
  · exact hsrcl
  · show σ.hp.length < (σ.hp ++ [AO.list false []]).length
    simp
  · exact hok
  · exact hst
  rw [hpi]
  clear hpi hok hst hsrcl
  have hseg : ∀ s ∈ wsegs [w0, w1, w2], s ≠ [] ∧ JoinOk ⟨#[]⟩ s = true ∧ (Txt.join ⟨#[]⟩ s).length < 20 ∧ (grp s).length < 30 := by
    intro s hs
    obtain ⟨w, hw, rfl⟩ := List.mem_map.mp hs
    have o := hall w hw
    have l1 : (Txt.join ⟨#[]⟩ (escTxt 60 :: w.map sp ++ [escTxt 62])).length < 20 := by rw [L_len, L_seg]; exact o.len
    refine ⟨by simp, o.join, l1, ?_⟩
    rw [L_len, L_grp]
    have := o.len
    unfold gL
    simp; lia
  have hJl : (((wsegs [w0, w1, w2]).map grp ++ [(".*" : Str)]).map (·.length)).sum < 100 := by
    have a0 := (hseg _ (List.mem_map_of_mem (f := fun w => escTxt 60 :: w.map sp ++ [escTxt 62]) (List.mem_cons_self : w0 ∈ [w0, w1, w2]))).2.2.2
    have a1 := (hseg _ (List.mem_map_of_mem (f := fun w => escTxt 60 :: w.map sp ++ [escTxt 62]) (by simp : w1 ∈ [w0, w1, w2]))).2.2.2
    have a2 := (hseg _ (List.mem_map_of_mem (f := fun w => escTxt 60 :: w.map sp ++ [escTxt 62]) (by simp : w2 ∈ [w0, w1, w2]))).2.2.2
    have a3 : (".*" : Str).length = 2 := by decide
    show (List.map (·.length) ([grp (escTxt 60 :: w0.map sp ++ [escTxt 62]), grp (escTxt 60 :: w1.map sp ++ [escTxt 62]), grp (escTxt 60 :: w2.map sp ++ [escTxt 62])] ++ [(".*" : Str)])).sum < 100
    simp only [List.map_append, List.map_cons, List.map_nil, List.sum_append, List.sum_cons, List.sum_nil]
    lia
  have hJ : JoinOk ⟨#[]⟩ ((wsegs [w0, w1, w2]).map grp ++ [(".*" : Str)]) = true := joinOk_of_weight (by simp only [List.length_append, List.length_map, wsegs, List.length_cons, List.length_nil] at hJl ⊢; lia) (by decide)
  have hT := L_joined [w0, w1, w2]
  have hJj : (Txt.join ⟨#[]⟩ ((wsegs [w0, w1, w2]).map grp ++ [(".*" : Str)])).length < 100000 := by
    rw [L_len, L_join', List.length_flatten, List.map_map]
    refine Nat.lt_of_le_of_lt (Nat.le_of_eq ?_) (Nat.lt_trans hJl (by decide))
    congr 1
  have hil : (inpOf σ.hp.length (wsegs [w0, w1, w2])).length < 1000 := by
    have b0 := o0.three
    have b1 := o1.three
    have b2 := o2.three
    simp [inpOf, wsegs, b0, b1, b2]
  refine kcal_fn hO mem2 nm2 ok2 rfl hlv (f_join hO getNew hil (fun s hs => (hseg s hs).1) (fun s hs => ⟨(hseg s hs).2.1, Nat.lt_trans (hseg s hs).2.2.1 (by decide)⟩) hJ hJj ?_)
  clear hJ hJl hJj hseg hil
  generalize joined (wsegs [w0, w1, w2]) = T at hT ⊢
  have hTlen : T.length = tpos [w0, w1, w2] 3 + 5 := by
    rw [L_len, hT]; simp [tpos]; lia
  have hTl : T.length < 1000000 := by
    have a0 := o0.len
    have a1 := o1.len
    have a2 := o2.len
    rw [hTlen]; simp [tpos, gL]; lia
  have c1 : (ssl T none (some 4) != "(?s:") = false := by
    have e : ssl T none (some 4) = "(?s:" := L_ext (by rw [L_ssl, hT]; exact psl_to (k := 4))
    rw [e]; decide
  have c2 : (ssl T (some ((T.length : Int) - 5)) none != ".*)\\Z") = false := by
    have e : ssl T (some ((T.length : Int) - 5)) none = ".*)\\Z" := L_ext (by
      rw [L_ssl, show ((T.length : Int) - 5) = ((tpos [w0, w1, w2] 3 : Nat) : Int) from by lia, psl_tail, hT, ← List.append_assoc]
      rw [List.drop_append_of_le_length (by simp [tpos]; lia), List.drop_of_length_le (by simp [tpos]; lia)]
      rfl)
    rw [e]; decide
  walk_at "w"
  refine X1.asg ?_ (by walk_at "u") (by unfold swappedStores Env.blockKind Env.kindOf; rw [hsc]; rfl) (by walk_at "u")
  repeat' (fail_if_success (with_reducible show X1 _ (PySem.Stmt.While _ _ _ _) _ _)); walk_at "s"
  generalize hτ : (AS.setL _ "place" _ : AS) = τ
  have z1 : TkS hp row T (T.length - 5) τ := ⟨by rw [← hτ]; exact h2, by rw [← hτ]; walk_at "lk", by rw [← hτ]; walk_at "lk", by rw [← hτ]; exact he.app.app.apps.app⟩
  have z2 : τ.loc "at" = some (.int (tpos [w0, w1, w2] 0 : Nat)) := by rw [← hτ]; rfl
  have z3 : τ.loc "place" = some (.int (0 : Nat)) := by rw [← hτ]; rfl
  clear hτ h1 h2 hh he
  generalize hws : [w0, w1, w2] = ws at hT hTlen z2 hall h
  have hw3 : ws.length = 3 := by rw [← hws]; rfl
  clear hws o0 o1 o2 c1 c2
  refine X1.whileI (fun (m : Nat) σ => TkS hp row T (T.length - 5) σ ∧ m ≤ 3 ∧ σ.loc "at" = some (.int (tpos ws m : Nat)) ∧ ∃ p : Nat, σ.loc "place" = some (.int p) ∧ takesL ws row 0 = takesL (ws.drop m) row p) (fun m => 3 - m) 0 ⟨z1, Nat.zero_le _, z2, 0, z3, rfl⟩ ?_
  intro m σ ⟨⟨t1, t2, t3, t4⟩, t5, t6, p, t7, t8⟩
  rcases e : ws[m]? with _ | w
  · have hm : m = 3 := by have := List.getElem?_eq_none_iff.mp e; lia
    subst hm
    rw [List.drop_of_length_le (by lia)] at t8
    have c1 : decide (((tpos ws 3 : Nat) : Int) < (T.length : Int) - 5) = false := by rw [decide_eq_false_iff_not]; lia
    have c2 : (((tpos ws 3 : Nat) : Int) == (T.length : Int) - 5) = true := by rw [beq_iff_eq]; lia
    walk_at "w"
    rw [c2]
    rw [t8] at h
    exact h
  · have hm := get_lt e
    have ow := hall w (List.mem_of_getElem? e)
    obtain ⟨pre, post, hsplit, hpre, hnx, hposl⟩ := T_split hT e
    have c1 : decide (((tpos ws m : Nat) : Int) < (T.length : Int) - 5) = true := by rw [decide_eq_true_iff]; lia
    walk_at "w"
    refine ⟨_, rfl, ?_⟩
    walk_at "w"
    refine Cal.find3 ?_
    have hfind : Txt.find3 T ")" (tpos ws m : Nat) = ((tpos ws m + 6 + (segL w).length : Nat) : Int) := by
      have := find_at hsplit (by simp; exact ow.par)
      rw [hpre] at this
      rw [show (")" : Str) = ⟨#[41]⟩ from by decide, this]
      simp; lia
    rw [hfind]
    have c2 : (ssl T (some ((tpos ws m : Nat) : Int)) (some (((tpos ws m : Nat) : Int) + 6)) != "(?>.*?") = false := by
      have e1 : ssl T (some ((tpos ws m : Nat) : Int)) (some (((tpos ws m : Nat) : Int) + 6)) = "(?>.*?" := L_ext (by
        rw [L_ssl, show (((tpos ws m : Nat) : Int) + 6) = ((tpos ws m + 6 : Nat) : Int) from rfl, psl_mid, hsplit, ← hpre, List.drop_left, Nat.add_sub_cancel_left]
        rfl)
      rw [e1]; decide
    have c3 : decide (((tpos ws m + 6 + (segL w).length : Nat) : Int) < ((tpos ws m : Nat) : Int) + 7) = false := by
      have : 0 < (segL w).length := by simp [segL]
      rw [decide_eq_false_iff_not]; lia
    have hseg : ssl T (some (((tpos ws m : Nat) : Int) + 6)) (some ((tpos ws m + 6 + (segL w).length : Nat) : Int)) = ⟨(segL w).toArray⟩ := L_ext (by
      rw [L_ssl, show (((tpos ws m : Nat) : Int) + 6) = ((tpos ws m + 6 : Nat) : Int) from rfl, psl_mid, hsplit, ← hpre, Nat.add_sub_cancel_left, List.append_assoc]
      rw [show pre.length + 6 = (pre ++ [40, 63, 62, 46, 42, 63]).length from by simp, ← List.append_assoc, List.drop_left, List.take_left]
      rfl)
    walk_at "w"
    refine Ev.replace ?_ (by decide) (by decide) (by walk_at "u")
    refine Ev.replace ?_ (by decide) (by decide) (by walk_at "u")
    refine Ev.replace ?_ (by decide) (by decide) (by walk_at "u")
    refine Ev.replace ?_ (by decide) (by decide) (by walk_at "u")
    walk_at "w"
    rw [hseg]
    refine ⟨_, rfl, ?_, _, rfl, ow.l1, _, rfl, ow.l2, _, rfl, ow.l3, ?_⟩
    · have := ow.len
      show (segL w).toArray.size < 1000
      simp; lia
    show Asn C _ (.str (rp4 w)) _ _
    rw [ow.run]
    have hr5 : (runOf w).length = 5 := by
      show (runL w).toArray.size = 5
      simp [runL, ow.three]
    generalize hR : runOf w = R at hr5 ⊢
    repeat' (fail_if_success (with_reducible show X1 _ (PySem.Stmt.While _ _ _ _) _ _)); walk_at "s"
    have hdrop : ws.drop m = w :: ws.drop (m + 1) := by
      obtain ⟨hlt, he⟩ := List.getElem?_eq_some_iff.mp e
      rw [← he, ← List.drop_eq_getElem_cons hlt]
    rw [hdrop] at t8
    have hRl : R.length < 1000000 := by lia
    have hrl : row.length < 1000000 := by lia
    generalize hbe : ((tpos ws m + 6 + (segL w).length : Nat) : Int) = be
    refine X1.mono (Q := fun f σ' => f = .next ∧ ∃ p' : Nat, TkS hp row T (T.length - 5) σ' ∧ σ'.loc "behind" = some (.int be) ∧ σ'.loc "run" = some (.str R) ∧ σ'.loc "place" = some (.int p') ∧ p ≤ p' ∧ (∀ q, p ≤ q → q < p' → fitsAt R row q = false) ∧ (p' + R.length ≤ row.length → fitsAt R row p' = true)) ?_ ?_
    · refine X1.whileI (fun (p' : Nat) σ' => TkS hp row T (T.length - 5) σ' ∧ σ'.loc "behind" = some (.int be) ∧ σ'.loc "run" = some (.str R) ∧ σ'.loc "place" = some (.int p') ∧ p ≤ p' ∧ (∀ q, p ≤ q → q < p' → fitsAt R row q = false)) (fun p' => row.length + 1 - p') p ?_ ?_
      · exact ⟨⟨t1, t2, t3, t4⟩, by walk_at "lk", by walk_at "lk", by walk_at "lk", Nat.le_refl _, fun q h1 h2 => absurd h1 (by lia)⟩
      · clear t1 t2 t3 t4 t6 t7
        intro p' σ ⟨⟨t1, t2, t3, t4⟩, u1, u2, u3, u4, u5⟩
        rcases hc : decide (((p' : Nat) : Int) + (R.length : Int) ≤ (row.length : Int)) with _ | _
        · walk_at "w"
          exact ⟨p', ⟨t1, t2, t3, t4⟩, u1, u2, u3, u4, u5, fun hle => by have := of_decide_eq_false hc; lia⟩
        · have hle := of_decide_eq_true hc
          have hpl : (ssl row (some (p' : Int)) (some ((p' : Int) + (R.length : Int)))).length = R.length := by
            rw [L_len, L_ssl, show ((p' : Int) + (R.length : Int)) = ((p' + R.length : Nat) : Int) from rfl, psl_mid]
            have : (L row).length = row.length := L_len.symm
            simp; lia
          have hR1 : R.length < 1000 := by lia
          have hR2 : R.length ≤ (ssl row (some (p' : Int)) (some ((p' : Int) + (R.length : Int)))).length := by lia
          have hR3 : (ssl row (some (p' : Int)) (some ((p' : Int) + (R.length : Int)))).length < 1000 := by lia
          rcases hf : fits R (ssl row (some (p' : Int)) (some ((p' : Int) + (R.length : Int)))) with _ | _
          · have hf2 : (!fits R (ssl row (some (p' : Int)) (some ((p' : Int) + (R.length : Int))))) = true := by rw [hf]; rfl
            walk_at "w"
            refine ⟨p' + 1, by lia, ⟨t1, t2, t3, t4.apps⟩, u1, u2, by walk_at "lk", by lia, fun q h1 h2 => ?_⟩
            by_cases hq : q = p'
            · subst hq; exact hf
            · exact u5 q h1 (by lia)
          · have hf2 : (!fits R (ssl row (some (p' : Int)) (some ((p' : Int) + (R.length : Int))))) = false := by rw [hf]; rfl
            walk_at "w"
            exact ⟨p', ⟨t1, t2, t3, t4.apps⟩, u1, u2, u3, u4, u5, fun _ => hf⟩
    · clear t1 t2 t3 t4 t6 t7
      rintro f' σ ⟨rfl, p', ⟨t1, t2, t3, t4⟩, u1, u2, u3, u4, u5, u6⟩
      rcases hc : decide ((row.length : Int) < ((p' : Nat) : Int) + (R.length : Int)) with _ | _
      · have hle := of_decide_eq_false hc
        have hsk : seek R row p = some p' := seek_some u4 (by lia) u5 (u6 (by lia))
        walk_at "w"
        refine ⟨m + 1, by lia, ⟨t1, t2, t3, t4⟩, by lia, ?_, p' + R.length, by walk_at "lk", ?_⟩
        · rw [hnx]
          show some (PV.int (be + 1)) = _
          rw [← hbe]; rfl
        · rw [t8]
          show (match seek (runOf w) row p with | none => false | some q => takesL (ws.drop (m + 1)) row (q + (runOf w).length)) = _
          rw [hR, hsk]
      · have hle := of_decide_eq_true hc
        have hsk : seek R row p = none := seek_none (by lia) u5
        walk_at "w"
        have : takesL ws row 0 = false := by
          rw [t8]
          show (match seek (runOf w) row p with | none => false | some q => takesL (ws.drop (m + 1)) row (q + (runOf w).length)) = _
          rw [hR, hsk]
        rw [this] at h
        exact h
end Mine
set_option maxHeartbeats 4000000
namespace Mine
local macro_rules | `(tactic| walk_at $s:str) => wAt s.getString
theorem mem15 : recAt 15 ∈ recsOf PySem.Challenge.pw_rt0035_01 := List.mem_of_getElem? (i := 15) (by rfl)
theorem nm15 : (recAt 15).name = Str.ofString "_law_price" := by rfl
theorem ok15 : DefOk (recAt 15) ["words", "row"] := ⟨fun _ _ _ => two_of fun _ _ => rfl, by decide, by decide, by decide, by decide, by decide, trivial⟩
local macro_rules | `(tactic| walk_at $s:str) => wMore s.getString ["14"] [("14", "f_takes a a a a z z z a z _")] ""
noncomputable def pat1 (A B : List (List Tk)) (q : Nat) : List (List Tk) := A.take q ++ [B.getD q []] ++ A.drop (q + 1)
noncomputable def twinsOf (ws : List (List Tk)) : List Nat := (List.range 3).filter fun q => isTw (thirdC (ws.getD q []))
noncomputable def onceP (ws : List (List Tk)) : List (List (List Tk)) := (twinsOf ws).map (pat1 ws (ws.map sizedW))
noncomputable def twiceP (ws : List (List Tk)) : List (List (List Tk)) := (List.range 3).map (pat1 ws [q3, q3, q3]) ++ if 1 < (twinsOf ws).length then (List.range 3).map (pat1 (ws.map sizedW) ws) else []
noncomputable def anyT (Ps : List (List (List Tk))) (row : Str) : Bool := Ps.any fun P => takesL P row 0
noncomputable def price (ws : List (List Tk)) (row : Str) : Int := if anyT [ws] row then 0 else if anyT (onceP ws) row then 1 else if anyT (twiceP ws) row then 2 else 3
noncomputable def wstrs (ws : List (List Tk)) : List PV := (ws.map wsrc).map PV.str
theorem sws_cell {elt : Expr} {gens : List Comprehension} {scope : Scope} {pos py : Pos} {y : Str} {line : Nat} {env : Env} {sc : Scope} (hs : env.scope = sc) (h : sc.names.lookup y = some .cell) :
    swapsWithSole [.Name y py] (.ListComp elt gens scope pos) line env = pure false := by
  show (pure _ : Sem Bool) = pure false
  congr 1
  have : (env.kindOf y == some NameKind.local) = false := by unfold Env.kindOf; rw [hs, h]; rfl
  rw [this]; simp
theorem sw_local {elt : Expr} {gens : List Comprehension} {scope : Scope} {pos py : Pos} {y : Str} {line : Nat} {env : Env} {sc : Scope} (hs : env.scope = sc) (hk : sc.kind = .function) (h : sc.names.lookup y = some .local) (hl : (py.line == pos.line) = true)
    (hn : (!(scope.names.any fun (n, k) => n == y && (k == NameKind.local || k == NameKind.cell))) = true) :
    swapsWith (.ListComp elt gens scope pos) (some (.Name y py)) line env = pure true := by
  show (pure _ : Sem Bool) = pure true
  congr 1
  have h1 : (env.kindOf y == some NameKind.local) = true := by unfold Env.kindOf; rw [hs, h]; rfl
  have h2 : (env.blockKind == ScopeKind.function) = true := by unfold Env.blockKind; rw [hs, hk]; rfl
  rw [h1, h2]
  show (true && true && (py.line == pos.line) && _) = true
  rw [hl]; exact hn
structure LcF (cel : Str → Option PV) (hp1 : List AO) (T : Nat → Bool) (j : Nat) (σ : AS) : Prop where
  cel : σ.cel = cel
  ext : Ext hp1 σ.hp
  acc : σ.hp[hp1.length]? = some (.list false (((List.range j).filter T).map fun (m : Nat) => PV.int m))
theorem LcF.start {cel : Str → Option PV} {hp1 : List AO} {T : Nat → Bool} {loc : Str → Option PV} : LcF cel hp1 T 0 ⟨loc, cel, hp1 ++ [.list false []]⟩ := ⟨rfl, Ext.refl.app, getNew⟩
section
variable {C : Cx} {pos : Pos} {elt iter c : Expr} {x : Str} {px : Pos} {scope : Scope}
theorem Lc.rngC {cel : Str → Option PV} {hp1 : List AO} {T : Nat → Bool} {n : Nat} {Q : AS → Prop} (hn : n < 1000000)
    (step : ∀ j σ, j < n → LcF cel hp1 T j σ → Sto C x (.int j) σ fun σ1 => Tr C c σ1 fun b σ2 => b = T j ∧ σ2.cel = cel ∧ σ2.hp = σ.hp ∧ (b = true → Ev C elt σ2 fun q σ3 => q = .int j ∧ σ3.cel = cel ∧ σ3.hp = σ.hp)) (fin : ∀ σ, LcF cel hp1 T n σ → Q σ) :
    ∀ (m na : Nat) (σ : AS), n - na = m → na ≤ n → LcF cel hp1 T na σ → Lc C elt x px iter [c] scope pos hp1.length (.rng na m 1) σ Q
  | 0, na, σ, e, hle, hi => Lc.fin (Int.le_refl 0) (fin σ ((by omega : na = n) ▸ hi))
  | m + 1, na, σ, e, hle, hi => by
    refine Lc.step1 (p := .int na) ⟨rfl, by omega, rfl⟩ fun pro α s v r hv => (step na σ (by omega) hi pro α s v r hv).mono fun _ σ1 h1 => Tr.mono h1 fun b σ2 ⟨h2, h3, h4, h5⟩ => ?_
    obtain ⟨a1, a2, a3⟩ := hi
    rw [show ((m + 1 : Nat) : Int) - 1 = (m : Int) from by omega]
    refine ⟨fun hb => ?_, fun hb => Ev.mono (h5 hb) fun q σ3 ⟨h6, h7, h8⟩ => ?_⟩
    · refine Lc.rngC hn step fin m (na + 1) σ2 (by omega) (by omega) ⟨h3, by rw [h4]; exact a2, ?_⟩
      rw [h4, a3, List.range_succ, List.filter_append]
      simp [← h2, hb]
    · subst h6
      refine ⟨_, by rw [h8]; exact a3, ?_, ?_⟩
      · have := List.length_filter_le T (List.range na)
        simp at this ⊢; omega
      · refine Lc.rngC hn step fin m (na + 1) _ (by omega) (by omega) ⟨h7, ?_, ?_⟩
        · show Ext hp1 (σ3.hp.set hp1.length _)
          rw [h8]; exact a2.set (Nat.le_refl _)
        · show (σ3.hp.set hp1.length _)[hp1.length]? = _
          rw [h8, getSet a3, List.range_succ, List.filter_append]
          simp [← h2, hb]
end
structure PrB (hp : List AO) (rw rs : Nat) (row : Str) (ws : List (List Tk)) (σ : AS) : Prop where
  words : σ.cel "words" = some (.ref rw)
  sized : σ.cel "sized" = some (.ref rs)
  row : σ.loc "row" = some (.str row)
  slist : σ.hp[rs]? = some (.list false (wstrs (ws.map sizedW)))
  ext : Ext hp σ.hp
/-- a list of patterns, each a list of words -/
noncomputable def Pats (hp : List AO) (r : Nat) (Ps : List (List (List Tk))) : Prop := ∃ f xs, hp[r]? = some (.list f xs) ∧ xs.length = Ps.length ∧ ∀ (m : Nat) (P : List (List Tk)), Ps[m]? = some P → ∃ i f', xs[m]? = some (.ref i) ∧ hp[i]? = some (.list f' (wstrs P))
theorem Pats.ext {hp hp' : List AO} {r : Nat} {Ps : List (List (List Tk))} (h : Pats hp r Ps) (e : Ext hp hp') : Pats hp' r Ps := by
  obtain ⟨f, xs, a, b, c⟩ := h
  exact ⟨f, xs, e.get a, b, fun m P hP => let ⟨i, f', x, y⟩ := c m P hP; ⟨i, f', x, e.get y⟩⟩
theorem pat_eq {A B : List (List Tk)} {j : Nat} {b : List Tk} (hb : B[j]? = some b) : (psl (wstrs A) none (some (j : Int)) ++ [PV.str (wsrc b)]) ++ psl (wstrs A) (some ((j : Int) + 1)) none = wstrs (pat1 A B j) := by
  unfold wstrs pat1
  rw [psl_map, psl_map, psl_map, psl_map, psl_to, show ((j : Int) + 1) = ((j + 1 : Nat) : Int) from rfl, psl_tail, List.getD_eq_getElem?_getD, hb]
  simp
theorem q3_at {j : Nat} (h : j < 3) : ([q3, q3, q3] : List (List Tk))[j]? = some q3 := by
  match j, h with
  | 0, _ => rfl
  | 1, _ => rfl
  | 2, _ => rfl
theorem getAt {A : Type} {l : List A} {o : A} {i : Nat} (h : l.length = i) : (l ++ [o])[i]? = some o := by subst h; exact getNew
noncomputable def PP (ws : List (List Tk)) (j : Nat) : List (List (List Tk)) := if j = 0 then [ws] else if j = 1 then onceP ws else twiceP ws
theorem price_hit {ws : List (List Tk)} {row : Str} {j : Nat} (hj : j < 3) (h : ∀ j', j' < j → anyT (PP ws j') row = false) (h1 : anyT (PP ws j) row = true) : price ws row = (j : Nat) := by
  unfold price
  match j, hj with
  | 0, _ => rw [if_pos (by exact h1)]; rfl
  | 1, _ => rw [if_neg (by rw [show anyT [ws] row = false from h 0 (by decide)]; exact Bool.false_ne_true), if_pos (by exact h1)]; rfl
  | 2, _ => rw [if_neg (by rw [show anyT [ws] row = false from h 0 (by decide)]; exact Bool.false_ne_true), if_neg (by rw [show anyT (onceP ws) row = false from h 1 (by decide)]; exact Bool.false_ne_true), if_pos (by exact h1)]; rfl
theorem price_none {ws : List (List Tk)} {row : Str} (h : ∀ j', j' < 3 → anyT (PP ws j') row = false) : price ws row = 3 := by
  unfold price
  rw [if_neg (by rw [show anyT [ws] row = false from h 0 (by decide)]; exact Bool.false_ne_true), if_neg (by rw [show anyT (onceP ws) row = false from h 1 (by decide)]; exact Bool.false_ne_true), if_neg (by rw [show anyT (twiceP ws) row = false from h 2 (by decide)]; exact Bool.false_ne_true)]
theorem three_list {A : Type} {l : List A} (h : l.length = 3) : ∃ a b c, l = [a, b, c] := by
  match l, h with
  | [a, b, c], _ => exact ⟨a, b, c, rfl⟩
theorem pat1_ok {a0 a1 a2 b0 b1 b2 : List Tk} {q : Nat} (hq : q < 3) (ha : ∀ w ∈ [a0, a1, a2], WOk w) (hb : ∀ w ∈ [b0, b1, b2], WOk w) : ∃ c0 c1 c2, pat1 [a0, a1, a2] [b0, b1, b2] q = [c0, c1, c2] ∧ WOk c0 ∧ WOk c1 ∧ WOk c2 := by
  match q, hq with
  | 0, _ => exact ⟨b0, a1, a2, rfl, hb _ (by simp), ha _ (by simp), ha _ (by simp)⟩
  | 1, _ => exact ⟨a0, b1, a2, rfl, ha _ (by simp), hb _ (by simp), ha _ (by simp)⟩
  | 2, _ => exact ⟨a0, a1, b2, rfl, ha _ (by simp), ha _ (by simp), hb _ (by simp)⟩
theorem pp_ok {ws : List (List Tk)} {j : Nat} {P : List (List Tk)} (h3 : ws.length = 3) (hall : ∀ w ∈ ws, w ∈ plainW) (hP : P ∈ PP ws j) : ∃ a0 a1 a2, P = [a0, a1, a2] ∧ WOk a0 ∧ WOk a1 ∧ WOk a2 := by
  obtain ⟨w0, w1, w2, rfl⟩ := three_list h3
  have hA : ∀ w ∈ [w0, w1, w2], WOk w := fun w hw => (wok_plain (hall w hw)).1
  have hB : ∀ w ∈ [sizedW w0, sizedW w1, sizedW w2], WOk w := fun w hw => by
    simp at hw
    rcases hw with rfl | rfl | rfl
    · exact (wok_plain (hall w0 (by simp))).2
    · exact (wok_plain (hall w1 (by simp))).2
    · exact (wok_plain (hall w2 (by simp))).2
  have hQ : ∀ w ∈ [q3, q3, q3], WOk w := fun w hw => by simp at hw; subst hw; exact wok_of q3_ok
  unfold PP at hP
  split at hP
  · simp at hP; subst hP; exact ⟨w0, w1, w2, rfl, hA _ (by simp), hA _ (by simp), hA _ (by simp)⟩
  · split at hP
    · unfold onceP at hP
      obtain ⟨q, hq, rfl⟩ := List.mem_map.mp hP
      have hq3 : q < 3 := by unfold twinsOf at hq; rw [List.mem_filter, List.mem_range] at hq; exact hq.1
      exact pat1_ok hq3 hA hB
    · unfold twiceP at hP
      rcases List.mem_append.mp hP with hP | hP
      · obtain ⟨q, hq, rfl⟩ := List.mem_map.mp hP
        exact pat1_ok (List.mem_range.mp hq) hA hQ
      · split at hP
        · obtain ⟨q, hq, rfl⟩ := List.mem_map.mp hP
          exact pat1_ok (List.mem_range.mp hq) hB hA
        · cases hP
structure PrC (hB : List AO) (rw rs rt ro : Nat) (row : Str) (σ : AS) : Prop where
  words : σ.cel "words" = some (.ref rw)
  sized : σ.cel "sized" = some (.ref rs)
  twins : σ.loc "twins" = some (.ref rt)
  once : σ.loc "once" = some (.ref ro)
  row : σ.loc "row" = some (.str row)
  ext : Ext hB σ.hp
structure PrA (hp : List AO) (rw : Nat) (row : Str) (σ : AS) : Prop where
  words : σ.cel "words" = some (.ref rw)
  row : σ.loc "row" = some (.str row)
  ext : Ext hp σ.hp
local macro_rules | `(tactic| walk_at $s:str) => wMore s.getString [] [] "Bin.addL hp hp n _"
theorem f_price {S lv hp rw f w0 w1 w2 row d g a c K} (hO : Ok S) (hE : EscOk S d g) (hw : TwinOk S a) (hL : LamOk S c) (hp0 : w0 ∈ plainW) (hp1 : w1 ∈ plainW) (hp2 : w2 ∈ plainW) (hin : hp[rw]? = some (.list f (wstrs [w0, w1, w2]))) (hrow : row.length < 1000) (h : K (.int (price [w0, w1, w2] row)) []) :
    Fn S (lv + 3) (recAt 15) ["words", "row"] [.ref rw, .str row] hp K := by
  intro C hS hsc hlv hcells hcode
  subst hS
  conv => enter [2]; whnf
  rw [← hsc]
  conv at hsc => rhs; whnf
  rw [hsc]
  generalize hσ : (AS.mk _ _ _ : AS) = σ
  have h1 : σ.cel "words" = some (.ref rw) := by rw [← hσ]; rfl
  have h2 : σ.loc "row" = some (.str row) := by rw [← hσ]; rfl
  have hcm : (["sized", "words"] : List Str) = C.env.cells.map (·.1) := by have := hcells 0; exact this
  have hc_sized : ∃ c, C.env.cells.lookup ("sized" : Str) = some c := lookup_some_of_mem (by rw [← hcm]; decide)
  have hc_words : ∃ c, C.env.cells.lookup ("words" : Str) = some c := lookup_some_of_mem (by rw [← hcm]; decide)
  have hh : σ.hp = hp := by rw [← hσ]
  clear hσ
  have he : Ext hp σ.hp := by rw [hh]; exact Ext.refl
  have hin' : σ.hp[rw]? = some (.list f (wstrs [w0, w1, w2])) := by rw [hh]; exact hin
  have hall : ∀ w ∈ [w0, w1, w2], w ∈ plainW := fun w hm => by simp at hm; rcases hm with rfl | rfl | rfl <;> assumption
  generalize hws : [w0, w1, w2] = ws at hin hin' hall h
  have h3 : ws.length = 3 := by rw [← hws]; rfl
  clear hws hp0 hp1 hp2
  walk_at "w"
  refine X1.mono (Q := fun f' σ' => f' = .next ∧ PrA hp rw row σ' ∧ ∃ r, σ'.cel "sized" = some (.ref r) ∧ σ'.hp[r]? = some (.list false (wstrs (ws.map sizedW)))) ?_ ?_
  · -- BEGIN
    refine X1.asg ?_ (sws_cell hsc (by decide)) (by walk_at "u") (by walk_at "u")
    refine Ev.compX (cs := ["sized", "words"]) ⟨hsc, hcm, by decide, by decide, by decide, by decide, by decide⟩ ?_
    walk_at "w"
    refine ⟨_, .inl ⟨f, _, hin', rfl⟩, ?_⟩
    intro Cc k1 k2 k3 k4
    have hO' : Ok Cc.toSx := k1 ▸ hO
    refine Lc.lst (G := fun j q _ => ∃ w, ws[j]? = some w ∧ q = .str (wsrc (sizedW w))) (by simp [wstrs]; lia) (fun _ _ _ _ _ h => h) ⟨f, hin'⟩ ?_ ?_ _ 0 _ rfl (Nat.zero_le _) LcI.start
    · intro j p σ2 hp I
      obtain ⟨i1, i2, i3⟩ := I
      obtain ⟨w, hw1, rfl⟩ : ∃ w, ws[j]? = some w ∧ p = .str (wsrc w) := by
        unfold wstrs at hp
        rw [List.getElem?_map, List.getElem?_map] at hp
        rcases e : ws[j]? with _ | w
        · rw [e] at hp; cases hp
        · rw [e] at hp; exact ⟨w, rfl, by cases hp; rfl⟩
      have sk := sok_plain (hall w (List.mem_of_getElem? hw1))
      have g1 : (wsrc w).cps.toList[(2 : Int).toNat]? = some (thirdC w) := sk.third
      have g2 : (wsrc w).length < 1000000 := by rw [sk.len]; decide
      have g3 : (ssl (wsrc w) none (some 2)).length < 100 := by rw [L_len, L_ssl]; have := psl_length_le (L (wsrc w)) none (some 2); rw [← L_len, sk.len] at this; lia
      rcases e1 : has "sS" ⟨#[thirdC w]⟩ with _ | _
      · rcases e2 : has "tT" ⟨#[thirdC w]⟩ with _ | _
        · have e3 := sk.s3 e1 e2
          unfold has at e1 e2
          walk_at "w"
          refine Bin.addS (by have : (⟨#[thirdC w]⟩ : Str).length = 1 := rfl; lia) ⟨i1, fun _ _ e => e, i2, w, hw1, by rw [e3]⟩
        · have e3 := sk.s2 e1 e2
          unfold has at e1 e2
          walk_at "w"
          refine Bin.addS (by have : ("[tT]" : Str).length = 4 := by decide
                              lia) ⟨i1, fun _ _ e => e, i2, w, hw1, by rw [e3]⟩
      · have e3 := sk.s1 e1
        unfold has at e1
        walk_at "w"
        refine Bin.addS (by have : ("[sS]" : Str).length = 4 := by decide
                            lia) ⟨i1, fun _ _ e => e, i2, w, hw1, by rw [e3]⟩
    · intro σ2 I
      obtain ⟨i1, i2, xs, i3, i4, i5⟩ := I
      refine ⟨i1, ?_⟩
      have hxs : xs = wstrs (ws.map sizedW) := by
        refine List.ext_getElem? fun m => ?_
        rcases e : xs[m]? with _ | q
        · have := List.getElem?_eq_none_iff.mp e
          rw [List.getElem?_eq_none (by simp [wstrs] at i4 ⊢; lia)]
        · obtain ⟨w, hw1, rfl⟩ := i5 m q e
          simp [wstrs, hw1]
      rw [hxs] at i3
      walk_at "w"
      exact ⟨⟨h1, h2, he.trans i2⟩, _, by walk_at "lk", i3⟩
  · rintro f' σ ⟨rfl, ⟨t1, t2, t3⟩, rs, t4, t5⟩
    have hcm2 := hcm
    have hin2 : σ.hp[rw]? = some (.list f (wstrs ws)) := t3.get hin
    clear h1 h2 hh he hin'
    walk_at "w"
    refine X1.mono (Q := fun f' σ' => f' = .next ∧ PrB hp rw rs row ws σ' ∧ ∃ r, σ'.loc "twins" = some (.ref r) ∧ σ'.hp[r]? = some (.list false ((twinsOf ws).map fun (m : Nat) => PV.int m))) ?_ ?_
    · -- BEGIN
      refine X1.compX (cs := ["sized", "words"]) ⟨hsc, hcm, by decide, by decide, by decide, by decide, by decide⟩ (sw_local hsc rfl (by decide) (by decide) (by decide)) ?_
      walk_at "w"
      refine ⟨_, .inr (.inr ⟨_, _, _, getNew, by decide, rfl⟩), ?_⟩
      intro Cc k1 k2 k3 k4
      have hO' : Ok Cc.toSx := k1 ▸ hO
      have hc1 := k3 "sized" (by decide)
      have hc2 := k3 "words" (by decide)
      refine Lc.rngC (T := fun q => isTw (thirdC (ws.getD q []))) (n := 3) (by decide) ?_ ?_ 3 0 _ rfl (by decide) LcF.start
      · intro j σ2 hj I
        obtain ⟨i1, i2, i3⟩ := I
        obtain ⟨w, hw1⟩ : ∃ w, ws[j]? = some w := ⟨_, List.getElem?_eq_getElem (by lia)⟩
        have sk := sok_plain (hall w (List.mem_of_getElem? hw1))
        have g1 : (wstrs ws)[(j : Int).toNat]? = some (.str (wsrc w)) := by simp [wstrs, hw1]
        have g2 : (wstrs (ws.map sizedW))[(j : Int).toNat]? = some (.str (wsrc (sizedW w))) := by simp [wstrs, hw1]
        have g3 : (wstrs ws).length < 1000000 := by simp [wstrs]; lia
        have g4 : (wstrs (ws.map sizedW)).length < 1000000 := by simp [wstrs]; lia
        have v1 : σ2.cel "sized" = some (.ref rs) := by rw [i1]; exact t4
        have v2 : σ2.cel "words" = some (.ref rw) := by rw [i1]; exact t1
        have v3 : σ2.hp[rw]? = some (.list f (wstrs ws)) := i2.get (getApp hin2)
        have v4 : σ2.hp[rs]? = some (.list false (wstrs (ws.map sizedW))) := i2.get (getApp t5)
        have hT : (wsrc (sizedW w) != wsrc w) = isTw (thirdC (ws.getD j [])) := by rw [sk.ne, List.getD_eq_getElem?_getD, hw1]; rfl
        walk_at "w"
        refine ⟨hT, i1, rfl, fun _ => ?_⟩
        walk_at "w"
        exact ⟨i1, rfl⟩
      · intro σ2 ⟨i1, i2, i3⟩
        refine ⟨i1, ?_⟩
        walk_at "w"
        exact ⟨⟨t1, t4, t2, i2.get (getApp t5), t3.app.trans i2⟩, _, by walk_at "lk", i3⟩
    · clear t1 t2 t3 t4 t5 hin2
      rintro f' σ ⟨rfl, ⟨t1, t2, t3, t4, t5⟩, rt, t6, t7⟩
      have hin2 : σ.hp[rw]? = some (.list f (wstrs ws)) := t5.get hin
      walk_at "w"
      refine X1.mono (Q := fun f' σ' => f' = .next ∧ PrB hp rw rs row ws σ' ∧ σ'.loc "twins" = some (.ref rt) ∧ σ'.hp[rt]? = some (.list false ((twinsOf ws).map fun (m : Nat) => PV.int m)) ∧ ∃ r, σ'.loc "once" = some (.ref r) ∧ Pats σ'.hp r (onceP ws)) ?_ ?_
      · -- BEGIN
        refine X1.compX (cs := ["sized", "words"]) ⟨hsc, hcm, by decide, by decide, by decide, by decide, by decide⟩ (sw_local hsc rfl (by decide) (by decide) (by decide)) ?_
        walk_at "w"
        refine ⟨_, .inl ⟨false, _, t7, rfl⟩, ?_⟩
        intro Cc k1 k2 k3 k4
        have hO' : Ok Cc.toSx := k1 ▸ hO
        have hc1 := k3 "sized" (by decide)
        have hc2 := k3 "words" (by decide)
        refine Lc.lst (G := fun j q hp' => ∃ m i, (twinsOf ws)[j]? = some m ∧ q = .ref i ∧ σ.hp.length < i ∧ hp'[i]? = some (.list false (wstrs (pat1 ws (ws.map sizedW) m)))) ?_ ?_ ⟨_, t7⟩ ?_ ?_ _ 0 _ rfl (Nat.zero_le _) LcI.start
        · have := List.length_filter_le (fun q => isTw (thirdC (ws.getD q []))) (List.range 3)
          simp [twinsOf] at this ⊢; lia
        · exact fun m q a b hk ⟨m', i, a1, a2, a3, a4⟩ => ⟨m', i, a1, a2, a3, hk i _ (by lia) a4⟩
        · intro j p σ2 hp2 I
          obtain ⟨i1, i2, i3⟩ := I
          obtain ⟨m, hm1, rfl⟩ : ∃ m, (twinsOf ws)[j]? = some m ∧ p = .int (m : Nat) := by
            rw [List.getElem?_map] at hp2
            rcases e : (twinsOf ws)[j]? with _ | m
            · rw [e] at hp2; cases hp2
            · rw [e] at hp2; exact ⟨m, rfl, by cases hp2; rfl⟩
          have hm3 : m < 3 := by
            have := List.mem_of_getElem? hm1
            simp [twinsOf] at this; exact this.1
          obtain ⟨w, hw1⟩ : ∃ w, ws[m]? = some w := ⟨_, List.getElem?_eq_getElem (by lia)⟩
          have g2 : (wstrs (ws.map sizedW))[(m : Int).toNat]? = some (.str (wsrc (sizedW w))) := by simp [wstrs, hw1]
          have g3 : (wstrs ws).length < 1000000 := by simp [wstrs]; lia
          have g4 : (wstrs (ws.map sizedW)).length < 1000000 := by simp [wstrs]; lia
          have m1 : (psl (wstrs ws) none (some (m : Int))).length ≤ 3 := Nat.le_trans (psl_length_le _ _ _) (by simp [wstrs, h3])
          have m2 : (psl (wstrs ws) (some ((m : Int) + 1)) none).length ≤ 3 := Nat.le_trans (psl_length_le _ _ _) (by simp [wstrs, h3])
          have v1 : σ2.cel "sized" = some (.ref rs) := by rw [i1]; exact t2
          have v2 : σ2.cel "words" = some (.ref rw) := by rw [i1]; exact t1
          have v3 : σ2.hp[rw]? = some (.list f (wstrs ws)) := i2.get hin2
          have v4 : σ2.hp[rs]? = some (.list false (wstrs (ws.map sizedW))) := i2.get t4
          have hpe := pat_eq (A := ws) (B := ws.map sizedW) (j := m) (b := sizedW w) (by simp [hw1])
          walk_at "w"
          refine ⟨i1, fun _ _ e => getApp (getApp (getApp (getApp (getApp e)))), i2.app.app.app.app.app, m, _, hm1, rfl, ?_, ?_⟩
          · have := i2.len
            show σ.hp.length < (((σ2.hp ++ [_]) ++ [_]) ++ [_] ++ [_]).length
            simp only [List.length_append, List.length_cons, List.length_nil]; lia
          · rw [← hpe]; exact getNew
        · intro σ2 I
          obtain ⟨i1, i2, xs, i3, i4, i5⟩ := I
          refine ⟨i1, ?_⟩
          walk_at "w"
          refine ⟨⟨t1, t2, t3, i2.get t4, t5.trans i2⟩, t6, i2.get t7, _, by walk_at "lk", false, xs, i3, by rw [i4]; simp [onceP], fun m P hP => ?_⟩
          rw [onceP, List.getElem?_map] at hP
          rcases e : (twinsOf ws)[m]? with _ | q
          · rw [e] at hP; cases hP
          · rw [e] at hP
            obtain ⟨p, ep⟩ : ∃ p, xs[m]? = some p := ⟨_, List.getElem?_eq_getElem (by have := get_lt e; rw [i4, List.length_map]; lia)⟩
            obtain ⟨m', i, b1, rfl, b3, b4⟩ := i5 m p ep
            rw [e] at b1
            cases b1
            cases hP
            exact ⟨i, false, ep, b4⟩
      · clear t1 t2 t3 t4 t5 t6 t7 hin2
        rintro f' σ ⟨rfl, ⟨t1, t2, t3, t4, t5⟩, t6, t7, ro, t8, t9⟩
        have hin2 : σ.hp[rw]? = some (.list f (wstrs ws)) := t5.get hin
        generalize hb : σ.hp = hB at t4 t5 t7 t9 hin2
        walk_at "w"
        refine X1.mono (Q := fun f' σ' => f' = .next ∧ PrC hB rw rs rt ro row σ' ∧ ∃ r xs, σ'.loc "twice" = some (.ref r) ∧ hB.length ≤ r ∧ σ'.hp[r]? = some (.list false xs) ∧ xs.length = 3 ∧ ∀ m q, xs[m]? = some q → ∃ i, q = .ref i ∧ r < i ∧ σ'.hp[i]? = some (.list false (wstrs (pat1 ws [q3, q3, q3] m)))) ?_ ?_
        · -- BEGIN
          refine X1.compX (cs := ["sized", "words"]) ⟨hsc, hcm, by decide, by decide, by decide, by decide, by decide⟩ (sw_local hsc rfl (by decide) (by decide) (by decide)) ?_
          walk_at "w"
          refine ⟨_, .inr (.inr ⟨_, _, _, getNew, by decide, rfl⟩), ?_⟩
          intro Cc k1 k2 k3 k4
          have hO' : Ok Cc.toSx := k1 ▸ hO
          have hc2 := k3 "words" (by decide)
          have hB2 : Ext hB (σ.hp ++ [AO.rng 0 3 1]) := by rw [hb]; exact Ext.refl.app
          refine Lc.rng (G := fun m q hp' => ∃ i, q = .ref i ∧ (σ.hp ++ [AO.rng 0 3 1]).length < i ∧ hp'[i]? = some (.list false (wstrs (pat1 ws [q3, q3, q3] m)))) (n := 3) (by decide) ?_ ?_ ?_ 3 0 _ rfl (by decide) LcI.start
          · exact fun m q a b hk ⟨i, a2, a3, a4⟩ => ⟨i, a2, a3, hk i _ (Nat.ne_of_gt a3) a4⟩
          · intro j σ2 hj I
            obtain ⟨i1, i2, i3⟩ := I
            have g3 : (wstrs ws).length < 1000000 := by simp [wstrs]; lia
            have m1 : (psl (wstrs ws) none (some (j : Int))).length ≤ 3 := Nat.le_trans (psl_length_le _ _ _) (by simp [wstrs, h3])
            have m2 : (psl (wstrs ws) (some ((j : Int) + 1)) none).length ≤ 3 := Nat.le_trans (psl_length_le _ _ _) (by simp [wstrs, h3])
            have v2 : σ2.cel "words" = some (.ref rw) := by rw [i1]; exact t1
            have v3 : σ2.hp[rw]? = some (.list f (wstrs ws)) := i2.get (hB2.get hin2)
            have hpe := pat_eq (A := ws) (B := [q3, q3, q3]) (j := j) (b := q3) (q3_at hj)
            rw [show wsrc q3 = "???" from by decide] at hpe
            walk_at "w"
            refine ⟨i1, fun _ _ e => getApp (getApp (getApp (getApp (getApp e)))), i2.app.app.app.app.app, _, rfl, ?_, ?_⟩
            · have := i2.len
              show (σ.hp ++ [AO.rng 0 3 1]).length < (((σ2.hp ++ [_]) ++ [_]) ++ [_] ++ [_]).length
              simp only [List.length_append, List.length_cons, List.length_nil] at this ⊢; lia
            · rw [← hpe]; exact getNew
          · intro σ2 I
            obtain ⟨i1, i2, xs, i3, i4, i5⟩ := I
            refine ⟨i1, ?_⟩
            walk_at "w"
            refine ⟨⟨t1, t2, t6, t8, t3, hB2.trans i2⟩, _, xs, by walk_at "lk", hB2.len, i3, i4, fun m q hq => i5 m q hq⟩
        · clear t1 t2 t3 t6 t8 hb
          rintro f' σ ⟨rfl, ⟨t1, t2, t3, t6, t8, t10⟩, r2, xs2, t11, t12, t13, t14, t15⟩
          refine kon_next (Xs.cons ?_)
          refine X1.mono (Q := fun f' σ' => f' = .next ∧ PrC hB rw rs rt ro row σ' ∧ σ'.loc "twice" = some (.ref r2) ∧ Pats σ'.hp r2 (twiceP ws)) ?_ ?_
          · -- BEGIN
            have hil : ((twinsOf ws).map fun (m : Nat) => PV.int m).length = (twinsOf ws).length := by simp
            have htl : ((twinsOf ws).map fun (m : Nat) => PV.int m).length < 1000000 := by
              have := List.length_filter_le (fun q => isTw (thirdC (ws.getD q []))) (List.range 3)
              simp [twinsOf] at this ⊢; lia
            have t7' : σ.hp[rt]? = some (.list false ((twinsOf ws).map fun (m : Nat) => PV.int m)) := t10.get t7
            rcases hc : decide ((1 : Int) < (((twinsOf ws).map fun (m : Nat) => PV.int m).length : Int)) with _ | _
            · walk_at "w"
              have : ¬ 1 < (twinsOf ws).length := fun hlt => by have := of_decide_eq_false hc; lia
              refine ⟨⟨t1, t2, t3, t6, t8, t10⟩, t11, false, xs2, t13, by rw [t14, twiceP, if_neg this]; simp, fun m P hP => ?_⟩
              rw [twiceP, if_neg this, List.append_nil] at hP
              have hm := get_lt hP
              simp at hm
              obtain ⟨p, ep⟩ : ∃ p, xs2[m]? = some p := ⟨_, List.getElem?_eq_getElem (by lia)⟩
              obtain ⟨i, rfl, b3, b4⟩ := t15 m p ep
              simp [hm] at hP
              subst hP
              exact ⟨i, false, ep, b4⟩
            · have h1 : 1 < (twinsOf ws).length := by have := of_decide_eq_true hc; lia
              have hin3 : σ.hp[rw]? = some (.list f (wstrs ws)) := t10.get hin2
              have t4' : σ.hp[rs]? = some (.list false (wstrs (ws.map sizedW))) := t10.get t4
              walk_at "w"
              refine Ev.compX (cs := ["sized", "words"]) ⟨hsc, hcm, by decide, by decide, by decide, by decide, by decide⟩ ?_
              walk_at "w"
              refine ⟨_, .inr (.inr ⟨_, _, _, getNew, by decide, rfl⟩), ?_⟩
              intro Cc k1 k2 k3 k4
              have hO' : Ok Cc.toSx := k1 ▸ hO
              have hc1 := k3 "sized" (by decide)
              have hc2 := k3 "words" (by decide)
              have hr2l := get_lt t13
              refine Lc.rng (G := fun m q hp' => ∃ i, q = .ref i ∧ (σ.hp ++ [AO.rng 0 3 1]).length < i ∧ hp'[i]? = some (.list false (wstrs (pat1 (ws.map sizedW) ws m)))) (n := 3) (by decide) ?_ ?_ ?_ 3 0 _ rfl (by decide) LcI.start
              · exact fun m q a b hk ⟨i, a2, a3, a4⟩ => ⟨i, a2, a3, hk i _ (Nat.ne_of_gt a3) a4⟩
              · intro j σ2 hj I
                obtain ⟨i1, i2, i3⟩ := I
                obtain ⟨w, hw1⟩ : ∃ w, ws[j]? = some w := ⟨_, List.getElem?_eq_getElem (by lia)⟩
                have g2 : (wstrs ws)[(j : Int).toNat]? = some (.str (wsrc w)) := by simp [wstrs, hw1]
                have g3 : (wstrs ws).length < 1000000 := by simp [wstrs]; lia
                have g4 : (wstrs (ws.map sizedW)).length < 1000000 := by simp [wstrs]; lia
                have m1 : (psl (wstrs (ws.map sizedW)) none (some (j : Int))).length ≤ 3 := Nat.le_trans (psl_length_le _ _ _) (by simp [wstrs, h3])
                have m2 : (psl (wstrs (ws.map sizedW)) (some ((j : Int) + 1)) none).length ≤ 3 := Nat.le_trans (psl_length_le _ _ _) (by simp [wstrs, h3])
                have v1 : σ2.cel "sized" = some (.ref rs) := by rw [i1]; exact t2
                have v2 : σ2.cel "words" = some (.ref rw) := by rw [i1]; exact t1
                have v3 : σ2.hp[rw]? = some (.list f (wstrs ws)) := i2.get (getApp hin3)
                have v4 : σ2.hp[rs]? = some (.list false (wstrs (ws.map sizedW))) := i2.get (getApp t4')
                have hpe := pat_eq (A := ws.map sizedW) (B := ws) (j := j) (b := w) hw1
                walk_at "w"
                refine ⟨i1, fun _ _ e => getApp (getApp (getApp (getApp (getApp e)))), i2.app.app.app.app.app, _, rfl, ?_, ?_⟩
                · have := i2.len
                  show (σ.hp ++ [AO.rng 0 3 1]).length < (((σ2.hp ++ [_]) ++ [_]) ++ [_] ++ [_]).length
                  simp only [List.length_append, List.length_cons, List.length_nil] at this ⊢; lia
                · rw [← hpe]; exact getNew
              · intro σ2 I
                obtain ⟨i1, i2, xs, i3, i4, i5⟩ := I
                refine ⟨i1, ?_⟩
                have i2' : Ext σ.hp σ2.hp := Ext.refl.app.trans i2
                refine Ibin.addL (xs := xs2) (ys := xs) (i2'.get t13) i3 (by lia) ?_
                walk_at "w"
                have hne : ∀ i, r2 < i → ∀ o, σ2.hp[i]? = some o → (σ2.hp.set r2 (AO.list false (xs2 ++ xs)))[i]? = some o := fun i hi o e => getSetNe e (by lia)
                refine ⟨⟨t1, t2, t3, t6, t8, (t10.trans i2').set t12⟩, by walk_at "lk", false, xs2 ++ xs, getSet (i2'.get t13), by rw [List.length_append, t14, i4, twiceP, if_pos h1]; simp, fun m P hP => ?_⟩
                rw [twiceP, if_pos h1] at hP
                by_cases hm : m < 3
                · rw [List.getElem?_append_left (by simpa using hm)] at hP
                  simp [hm] at hP
                  subst hP
                  obtain ⟨p, ep⟩ : ∃ p, xs2[m]? = some p := ⟨_, List.getElem?_eq_getElem (by lia)⟩
                  obtain ⟨i, rfl, b3, b4⟩ := t15 m p ep
                  exact ⟨i, false, getApp ep, hne i b3 _ (i2'.get b4)⟩
                · have hml := get_lt hP
                  simp at hml
                  rw [List.getElem?_append_right (by simp; lia)] at hP
                  have hm6 : m - ((List.range 3).map (pat1 ws [q3, q3, q3])).length < 3 := by simp; lia
                  rw [List.getElem?_map, List.getElem?_range hm6] at hP
                  have hm7 : m - ((List.range 3).map (pat1 ws [q3, q3, q3])).length = m - 3 := by simp
                  rw [hm7] at hP
                  cases hP
                  obtain ⟨p, ep⟩ : ∃ p, xs[m - 3]? = some p := ⟨_, List.getElem?_eq_getElem (by lia)⟩
                  obtain ⟨i, rfl, b3, b4⟩ := i5 (m - 3) p ep
                  refine ⟨i, false, ?_, hne i ?_ _ b4⟩
                  · rw [List.getElem?_append_right (by lia), t14]; exact ep
                  · simp at b3; lia
          · clear t1 t2 t3 t6 t8 t10 t11 t12 t13 t14 t15
            rintro f' σ ⟨rfl, ⟨t1, t2, t3, t6, t8, t10⟩, t11, t12⟩
            have hin3 : σ.hp[rw]? = some (.list f (wstrs ws)) := t10.get hin2
            have hon : Pats σ.hp ro (onceP ws) := t9.ext t10
            have hext : Ext hp σ.hp := t5.trans t10
            walk_at "w"
            refine X1.for ?_
            walk_at "w"
            refine ⟨_, .inr (.inl ⟨false, _, getNew, rfl⟩), ?_⟩
            dsimp only
            simp only [List.length_append, List.length_cons, List.length_nil, Nat.zero_add]
            generalize hn : σ.hp.length = n
            obtain ⟨hD, hDe⟩ : ∃ hD, hD = σ.hp ++ [AO.list false [PV.ref rw]] ++ [AO.tup false [PV.int 0, PV.ref n]] ++ [AO.tup false [PV.int 1, PV.ref ro]] ++ [AO.tup false [PV.int 2, PV.ref r2]] ++ [AO.tup false [PV.ref (n + 1), PV.ref (n + 1 + 1), PV.ref (n + 1 + 1 + 1)]] := ⟨_, rfl⟩
            rw [← hDe]
            have hext2 : Ext σ.hp hD := by rw [hDe]; exact Ext.refl.app.app.app.app.app
            have T0 : hD[n]? = some (.list false [PV.ref rw]) := by rw [hDe]; exact getApp (getApp (getApp (getApp (getAt hn))))
            have T1 : hD[n + 1]? = some (.tup false [PV.int 0, PV.ref n]) := by rw [hDe]; exact getApp (getApp (getApp (getAt (by simp [hn]))))
            have T2 : hD[n + 1 + 1]? = some (.tup false [PV.int 1, PV.ref ro]) := by rw [hDe]; exact getApp (getApp (getAt (by simp [hn])))
            have T3 : hD[n + 1 + 1 + 1]? = some (.tup false [PV.int 2, PV.ref r2]) := by rw [hDe]; exact getApp (getAt (by simp [hn]))
            have T4 : hD[n + 1 + 1 + 1 + 1]? = some (.tup false [PV.ref (n + 1), PV.ref (n + 1 + 1), PV.ref (n + 1 + 1 + 1)]) := by rw [hDe]; exact getAt (by simp [hn])
            have P0 : Pats hD n [ws] := ⟨false, _, T0, rfl, fun m P hP => by
              have hm := get_lt hP
              simp at hm
              subst hm
              cases hP
              exact ⟨rw, f, rfl, hext2.get hin3⟩⟩
            have P1 := hon.ext hext2
            have P2 := t12.ext hext2
            have hextD : Ext hp hD := hext.trans hext2
            clear hDe t10 t4 t5 t7 t9 hin2 hin3 hon t12 hext hext2 T0 t1 t2 t3 t6 t11
            have hcase : ∀ j p, ([PV.ref (n + 1), PV.ref (n + 1 + 1), PV.ref (n + 1 + 1 + 1)])[j]? = some p → ∃ k r, p = .ref k ∧ hD[k]? = some (.tup false [.int (j : Nat), .ref r]) ∧ Pats hD r (PP ws j) ∧ j < 3 := by
              intro j p e
              match j, e with
              | 0, e => cases e; exact ⟨_, _, rfl, T1, P0, by decide⟩
              | 1, e => cases e; exact ⟨_, _, rfl, T2, P1, by decide⟩
              | 2, e => cases e; exact ⟨_, _, rfl, T3, P2, by decide⟩
            refine Fo.tup (xs := [PV.ref (n + 1), PV.ref (n + 1 + 1), PV.ref (n + 1 + 1 + 1)]) (I := fun j τ => τ.loc "row" = some (.str row) ∧ Ext hD τ.hp ∧ ∀ j', j' < j → anyT (PP ws j') row = false) ?_ ?_ ?_ 3 0 _ rfl (Nat.zero_le _) ⟨t8, Ext.refl, fun j' h => absurd h (Nat.not_lt_zero _)⟩
            · exact fun j τ ⟨s1, s2, s3⟩ => ⟨false, s2.get T4⟩
            · intro j p τ hx ⟨s1, s2, s3⟩
              obtain ⟨k, r, rfl, hk, ⟨f', xs', q1, q2, q3'⟩, hj3⟩ := hcase j p hx
              have hk2 : τ.hp[k]? = some (.tup false [.int (j : Nat), .ref r]) := s2.get hk
              walk_at "w"
              refine X1.for ?_
              walk_at "w"
              refine ⟨_, .inl ⟨f', xs', s2.get q1, rfl⟩, ?_⟩
              refine Fo.lst (xs := xs') (I := fun m τ => τ.loc "row" = some (.str row) ∧ τ.loc "price" = some (.int (j : Nat)) ∧ Ext hD τ.hp ∧ ∀ m' P, m' < m → (PP ws j)[m']? = some P → takesL P row 0 = false) ?_ ?_ ?_ _ 0 _ rfl (Nat.zero_le _) ⟨by walk_at "lk", by walk_at "lk", s2, fun m' P h => absurd h (Nat.not_lt_zero _)⟩
              · exact fun j τ ⟨s1, s4, s2, s3⟩ => ⟨f', s2.get q1⟩
              · clear hk2 s1 s2
                intro m p τ hx' ⟨s1, s4, s2, s5⟩
                obtain ⟨P, hP⟩ : ∃ P, (PP ws j)[m]? = some P := ⟨_, List.getElem?_eq_getElem (by have := get_lt hx'; lia)⟩
                obtain ⟨i, f2, b1, b2⟩ := q3' m P hP
                rw [hx'] at b1
                cases b1
                obtain ⟨a0, a1, a2, rfl, o0, o1, o2⟩ := pp_ok h3 hall (List.mem_of_getElem? hP)
                have b3 : τ.hp[i]? = some (.list f2 (([a0, a1, a2].map wsrc).map PV.str)) := s2.get b2
                rcases hT : takesL [a0, a1, a2] row 0 with _ | _
                · walk_at "w"
                  refine ⟨s1, s4, s2.apps, fun m' P' h1 h2 => ?_⟩
                  by_cases e : m' = m
                  · subst e; rw [hP] at h2; cases h2; exact hT
                  · exact s5 m' P' (by lia) h2
                · have hany : anyT (PP ws j) row = true := List.any_eq_true.mpr ⟨_, List.mem_of_getElem? hP, hT⟩
                  have hpr := price_hit hj3 s3 hany
                  walk_at "w"
                  refine fin_int (hextD.trans s2.apps) ?_
                  rw [← hpr]; exact h
              · clear hk2 s1 s2
                intro τ ⟨s1, s4, s2, s5⟩
                walk_at "w"
                refine ⟨s1, s2, fun j' hj' => ?_⟩
                by_cases e : j' = j
                · subst e
                  unfold anyT
                  rw [List.any_eq_false]
                  intro P hP
                  obtain ⟨m', hm'⟩ := List.getElem?_of_mem hP
                  rw [s5 m' P (by rw [q2]; exact get_lt hm') hm']
                  exact Bool.false_ne_true
                · exact s3 j' (by lia)
            · intro τ ⟨s1, s2, s3⟩
              have hpr := price_none (ws := ws) (row := row) fun j hj => s3 j hj
              walk_at "w"
              refine fin_int (hextD.trans s2) ?_
              rw [← hpr]; exact h
end Mine
set_option maxHeartbeats 4000000
namespace Mine
local macro_rules | `(tactic| walk_at $s:str) => wAt s.getString
theorem mem16 : recAt 16 ∈ recsOf PySem.Challenge.pw_rt0035_01 := List.mem_of_getElem? (i := 16) (by rfl)
theorem nm16 : (recAt 16).name = Str.ofString "law" := by rfl
theorem ok16 : DefOk (recAt 16) ["script"] := ⟨fun _ _ _ => one_of fun _ => rfl, by decide, by decide, by decide, by decide, by decide, trivial⟩
local macro_rules | `(tactic| walk_at $s:str) => wMore s.getString ["8", "9", "10", "12", "15", "7"] [("8", "f_figures a _"), ("9", "f_codes a _"), ("10", "f_words a a hx _")] ""
noncomputable def words6 (a b : Int) : List Str := [word a 0, word a 1, word a 2, word b 0, word b 1, word b 2]
noncomputable def words3 (c : Int) : List Str := [word c 0, word c 1, word c 2]
noncomputable def code6 (a b : Int) (m : Nat) : Int := if m < 3 then code a m else code b (m - 3)
noncomputable def brkt (w : Str) : Str := "<" ++ w ++ ">"
noncomputable def rowOf (a b : Int) : Str := Txt.join "" ((words6 a b).map brkt)
theorem sum5 : ∀ l : List Str, (∀ w ∈ l, (brkt w).length = 5) → ((l.map brkt).map (·.length)).sum = 5 * l.length
  | [], _ => rfl
  | w :: l, h => by
    have := sum5 l fun w hw => h w (List.mem_cons_of_mem _ hw)
    have h0 := h w List.mem_cons_self
    simp only [List.map_cons, List.sum_cons, List.length_cons] at this ⊢
    lia
/-- the plain law -/
structure PureL (a b c : Int) : Prop where
  toks : ∃ p0 p1 p2, p0 ∈ plainW ∧ p1 ∈ plainW ∧ p2 ∈ plainW ∧ word c 0 = wsrc p0 ∧ word c 1 = wsrc p1 ∧ word c 2 = wsrc p2 ∧ price [p0, p1, p2] (rowOf a b) = due (code6 a b) (code c)
  lev8 : ∀ v, LevS (words6 a b) (words3 c) 8 v → min (v - 6) 3 = due (code6 a b) (code c)
  lev6 : ∀ v, LevS (words3 c) (words6 a b) 6 v → 6 ≤ v ∧ (v = 6 ↔ due (code6 a b) (code c) = 0)
  len6 : ∀ w ∈ words6 a b, w.length = 3 ∧ Builtin.Str.tooLong (Txt.lower w).length = false
  len3 : ∀ w ∈ words3 c, w.length = 3 ∧ Builtin.Str.tooLong (Txt.lower w).length = false
structure LawS (hp : List AO) (rt : Nat) (t0 t1 t2 t3 : Int) (σ : AS) : Prop where
  told : σ.loc "told" = some (.ref rt)
  list : σ.hp[rt]? = some (.list false [.int t0, .int t1, .int t2, .int t3])
  ext : Ext hp σ.hp
theorem nn_mod {x y : Int} (hy : 0 < y) : (((x.fmod y).toNat : Nat) : Int) = x.fmod y := Int.toNat_of_nonneg (Int.fmod_nonneg_of_pos x hy)
theorem xor_nn (c v e1 e2 : Nat) : ∃ c' : Nat, Builtin.bitXor (c : Int) ((v : Int).fmod 8 * 8 ^ e1 + (v : Int).fdiv 8 * 2 ^ e2) = (c' : Nat) := by
  have h1 : 0 ≤ (v : Int).fmod 8 := Int.fmod_nonneg_of_pos _ (by decide)
  have h2 : 0 ≤ (v : Int).fdiv 8 := Int.fdiv_nonneg (by omega) (by decide)
  have h3 : 0 ≤ (v : Int).fmod 8 * 8 ^ e1 := Int.mul_nonneg h1 (Int.pow_nonneg (by decide))
  have h4 : 0 ≤ (v : Int).fdiv 8 * 2 ^ e2 := Int.mul_nonneg h2 (Int.pow_nonneg (by decide))
  obtain ⟨y, hy⟩ := Int.eq_ofNat_of_zero_le (Int.add_nonneg h3 h4)
  rw [hy, bitXor_and, bitAnd_pp (by omega) (by omega)]
  have h5 : c &&& y ≤ c := Nat.and_le_left
  have h6 : c &&& y ≤ y := Nat.and_le_right
  refine Int.eq_ofNat_of_zero_le ?_
  simp only [Int.toNat_natCast]
  omega
theorem fig_nn (m : Int) (k : Nat) : ∃ v : Nat, fig m k = (v : Nat) := by
  have h : 0 ≤ fig m k := by
    unfold fig
    have h1 := Int.fmod_nonneg_of_pos ((Builtin.bitAnd m 4095).fdiv (8 ^ (2 - k))) (show (0 : Int) < 8 by decide)
    have h2 := Int.fmod_nonneg_of_pos ((Builtin.bitAnd m 4095).fdiv (2 ^ (11 - k))) (show (0 : Int) < 2 by decide)
    omega
  exact Int.eq_ofNat_of_zero_le h
local macro_rules | `(tactic| walk_at $s:str) => wMore s.getString [] [] "Bin.mulI M _|Cmp.eqB _|Bin.addL hp hp s _|Ev.slc3 _"
theorem law_rest {C : Cx} {lv : Nat} {σ : AS} {hp : List AO} {rs r0 : Nat} {f : Bool} {d : Addr} {g : Int → Option Value} {a c : Addr} {K : PV → List AO → Prop} {ns : List Int} (hO : Ok C.toSx) (hE : EscOk C.toSx d g) (hw : TwinOk C.toSx a) (hL : LamOk C.toSx c) (hF : FmOk C.toSx) (hT : Ext hpT hp)
    (hsc : C.env.scope = (recAt 16).scope) (hlv : C.lv = lv + 4) (hcm : (["starts", "script"] : List Str) = C.env.cells.map (·.1)) (h1 : σ.cel "script" = some (.ref rs)) (h0 : σ.cel "starts" = some (.ref r0)) (hs0 : σ.hp[r0]? = some (.tup false [PV.int 35309, PV.int 33184, PV.int 162, PV.int 64]))
    (hin' : σ.hp[rs]? = some (.list f (ns.map PV.int))) (hl : ns.length < 1000) (he : Ext hp σ.hp) (hP : ∀ a b c : Nat, PureL a b c) (h : K (.bool true) []) : Xs C ((recAt 16).body.drop 1) σ (FnQ hp K) := by
  conv => enter [2]; whnf
  conv at hsc => rhs; whnf
  have hc_starts : ∃ c, C.env.cells.lookup ("starts" : Str) = some c := lookup_some_of_mem (by rw [← hcm]; decide)
  have hc_script : ∃ c, C.env.cells.lookup ("script" : Str) = some c := lookup_some_of_mem (by rw [← hcm]; decide)
  walk_at "w"
  refine X1.mono (Q := fun f' σ' => f' = .next ∧ Ext hp σ'.hp ∧ ∃ rt t0 t1 t2 t3, σ'.loc "told" = some (.ref rt) ∧ σ'.hp[rt]? = some (.list false [.int t0, .int t1, .int t2, .int t3])) ?_ ?_
  · refine X1.compX (cs := ["starts", "script"]) ⟨hsc, hcm, by decide, by decide, by decide, by decide, by decide⟩ (sw_local hsc rfl (by decide) (by decide) (by decide)) ?_
    walk_at "w"
    refine ⟨_, .inr (.inr ⟨_, _, _, getNew, by decide, rfl⟩), ?_⟩
    intro Cc k1 k2 k3 k4
    have hO' : Ok Cc.toSx := k1 ▸ hO
    have hc1 := k3 "starts" (by decide)
    have hc2 := k3 "script" (by decide)
    refine Lc.rng (G := fun m q _ => ∃ t : Int, q = .int t) (n := 4) (by decide) (fun _ _ _ _ _ h => h) ?_ ?_ 4 0 _ rfl (by decide) LcI.start
    · intro j σ2 hj I
      obtain ⟨i1, i2, i3⟩ := I
      have v1 : σ2.cel "starts" = some (.ref r0) := by rw [i1]; exact h0
      have v2 : σ2.cel "script" = some (.ref rs) := by rw [i1]; exact h1
      have v3 : σ2.hp[r0]? = some (.tup false [PV.int 35309, PV.int 33184, PV.int 162, PV.int 64]) := i2.get (getApp hs0)
      have v4 : σ2.hp[rs]? = some (.list f (ns.map PV.int)) := i2.get (getApp hin')
      obtain ⟨u, hu⟩ : ∃ u : Int, ([PV.int 35309, PV.int 33184, PV.int 162, PV.int 64])[(j : Int).toNat]? = some (.int u) := lt4 (P := fun j => ∃ u : Int, ([PV.int 35309, PV.int 33184, PV.int 162, PV.int 64])[(j : Int).toNat]? = some (.int u)) ⟨_, rfl⟩ ⟨_, rfl⟩ ⟨_, rfl⟩ ⟨_, rfl⟩ j hj
      walk_at "w"
      refine Sub.tup v3 (by lia) hu ?_
      walk_at "w"
      refine ⟨rs, f, ns, _, _, _, rfl, v4, by lia, rfl, rfl, rfl, by decide, fun ms => ?_⟩
      walk_at "w"
      refine Cal.sumL getNew ?_
      walk_at "w"
      exact ⟨i1, fun _ _ e => getApp e, i2.app, _, rfl⟩
    · intro σ2 I
      obtain ⟨i1, i2, xs, i3, i4, i5⟩ := I
      refine ⟨i1, ?_⟩
      walk_at "w"
      refine ⟨he.app.trans i2, ?_⟩
      obtain ⟨x0, x1, x2, x3, rfl⟩ := four_list i4
      obtain ⟨t0, rfl⟩ := i5 0 x0 rfl
      obtain ⟨t1, rfl⟩ := i5 1 x1 rfl
      obtain ⟨t2, rfl⟩ := i5 2 x2 rfl
      obtain ⟨t3, rfl⟩ := i5 3 x3 rfl
      exact ⟨_, t0, t1, t2, t3, by walk_at "lk", i3⟩
  · clear h1 hin' hs0 h0 he
    rintro f' σ ⟨rfl, he, rt, t0, t1, t2, t3, h1, h2⟩
    walk_at "w"
    refine X1.mono (Q := fun f' σ' => f' = .next ∧ LawS hp rt t0 t1 t2 t3 σ' ∧ ∃ a b c : Nat, σ'.loc "a" = some (.int a) ∧ σ'.loc "b" = some (.int b) ∧ σ'.loc "c" = some (.int c)) ?_ ?_
    · refine X1.swap (xs := ["a", "b", "c"]) ?_ (by walk_at "u") (by unfold swappedStores Env.blockKind Env.kindOf; rw [hsc]; rfl)
      have g0 : ([PV.int t0, PV.int t1, PV.int t2, PV.int t3])[(0 : Int).toNat]? = some (.int t0) := rfl
      have g1 : ([PV.int t0, PV.int t1, PV.int t2, PV.int t3])[(1 : Int).toNat]? = some (.int t1) := rfl
      have g3 : ([PV.int t0, PV.int t1, PV.int t2, PV.int t3])[(3 : Int).toNat]? = some (.int t3) := rfl
      have gl : ([PV.int t0, PV.int t1, PV.int t2, PV.int t3]).length < 1000000 := by simp
      walk_at "w"
      refine ⟨_, false, [.int (t0.fmod 262144), .int (t1.fmod 262144), .int (t3.fmod 4096)], rfl, getNew, rfl, ?_⟩
      show StoL C ["c", "b", "a"] [.int (t3.fmod 4096), .int (t1.fmod 262144), .int (t0.fmod 262144)] _ _
      walk_at "w"
      exact ⟨⟨h1, getApp h2, he.app⟩, (t0.fmod 262144).toNat, (t1.fmod 262144).toNat, (t3.fmod 4096).toNat, by rw [nn_mod (by decide)]; rfl, by rw [nn_mod (by decide)]; rfl, by rw [nn_mod (by decide)]; rfl⟩
    · clear h1 h2 he
      rintro f' σ ⟨rfl, ⟨h1, h2, he⟩, a, b, c, h3, h4, h5⟩
      walk_at "w"
      have hf0 : ∀ (h0 : List AO) (x y : List PV), ((h0 ++ [AO.list false x]) ++ [AO.list false y] ++ [AO.list false (x ++ y)])[(h0 ++ [AO.list false x] ++ [AO.list false y]).length]? = some (AO.list false (x ++ y)) := fun _ _ _ => getNew
      have hfv : ∀ z : Int, ∃ v : Nat, ([PV.int (fig a 0), PV.int (fig a 1), PV.int (fig a 2)] ++ [PV.int (fig b 0), PV.int (fig b 1), PV.int (fig b 2)])[(z.fmod 6).toNat]? = some (.int v) := by
        intro z
        have h0 := Int.fmod_nonneg_of_pos z (show (0 : Int) < 6 by decide)
        have h6 := Int.fmod_lt_of_pos z (show (0 : Int) < 6 by decide)
        obtain ⟨n, hn⟩ := Int.eq_ofNat_of_zero_le h0
        rw [hn] at h6 ⊢
        have h6 : n < 6 := by lia
        obtain ⟨v0, e0⟩ := fig_nn a 0
        obtain ⟨v1, e1⟩ := fig_nn a 1
        obtain ⟨v2, e2⟩ := fig_nn a 2
        obtain ⟨v3, e3⟩ := fig_nn b 0
        obtain ⟨v4, e4⟩ := fig_nn b 1
        obtain ⟨v5, e5⟩ := fig_nn b 2
        rw [e0, e1, e2, e3, e4, e5]
        clear hn h0
        exact lt6 (P := fun n => ∃ v : Nat, ([PV.int (v0 : Nat), PV.int (v1 : Nat), PV.int (v2 : Nat)] ++ [PV.int (v3 : Nat), PV.int (v4 : Nat), PV.int (v5 : Nat)])[((n : Nat) : Int).toNat]? = some (.int v)) ⟨_, rfl⟩ ⟨_, rfl⟩ ⟨_, rfl⟩ ⟨_, rfl⟩ ⟨_, rfl⟩ ⟨_, rfl⟩ n h6
      have hn1 := hf0 σ.hp [PV.int (fig a 0), PV.int (fig a 1), PV.int (fig a 2)] [PV.int (fig b 0), PV.int (fig b 1), PV.int (fig b 2)]
      generalize hfl : ([PV.int (fig a 0), PV.int (fig a 1), PV.int (fig a 2)] ++ [PV.int (fig b 0), PV.int (fig b 1), PV.int (fig b 2)]) = fl at hfv hn1 ⊢
      have hfll : fl.length = 6 := by rw [← hfl]; rfl
      generalize hrf : (σ.hp ++ [AO.list false [PV.int (fig a 0), PV.int (fig a 1), PV.int (fig a 2)]] ++ [AO.list false [PV.int (fig b 0), PV.int (fig b 1), PV.int (fig b 2)]]).length = rf at hn1
      refine X1.mono (Q := fun f' σ' => f' = .next ∧ Ext hp σ'.hp ∧ σ'.loc "a" = some (.int a) ∧ σ'.loc "b" = some (.int b) ∧ ∃ c : Nat, σ'.loc "c" = some (.int c)) ?_ ?_
      · refine X1.forR (fun q σ => LawS hp rt t0 t1 t2 t3 σ ∧ σ.loc "a" = some (.int a) ∧ σ.loc "b" = some (.int b) ∧ σ.loc "figures" = some (.ref rf) ∧ σ.hp[rf]? = some (.list false fl) ∧ ∃ c : Nat, σ.loc "c" = some (.int c)) 0 3 (by decide) (by decide) ?_ ?_ ?_
        · walk_at "w"
          exact ⟨_, rfl, getNew, ⟨h1, getApp (getApp (getApp (getApp h2))), he.app.app.app.app⟩, h3, h4, by rw [← hrf]; walk_at "lk", getApp hn1, c, h5⟩
        · clear h1 h2 h3 h4 h5 he hn1 hrf
          intro q σ _ hq ⟨⟨h1, h2, he⟩, h3, h4, h5, h6, c, h7⟩
          have g2 : ([PV.int t0, PV.int t1, PV.int t2, PV.int t3])[(2 : Int).toNat]? = some (.int t2) := rfl
          have gl : ([PV.int t0, PV.int t1, PV.int t2, PV.int t3]).length < 1000000 := by simp
          have gl2 : fl.length < 1000000 := by lia
          obtain rfl | rfl | rfl : q = 0 ∨ q = 1 ∨ q = 2 := by lia
          · obtain ⟨v, hv⟩ := hfv (t2.fdiv (6 ^ (((0 : Nat) : Int)).toNat))
            have hz := Int.fmod_nonneg_of_pos (t2.fdiv (6 ^ (((0 : Nat) : Int)).toNat)) (show (0 : Int) < 6 by decide)
            walk_at "w"
            obtain ⟨c', hc'⟩ := xor_nn c v (2 - (((0 : Nat) : Int))).toNat (11 - (((0 : Nat) : Int))).toNat
            exact ⟨⟨h1, h2, he⟩, h3, h4, h5, h6, c', by rw [← hc']; walk_at "lk"⟩
          · obtain ⟨v, hv⟩ := hfv (t2.fdiv (6 ^ (((1 : Nat) : Int)).toNat))
            have hz := Int.fmod_nonneg_of_pos (t2.fdiv (6 ^ (((1 : Nat) : Int)).toNat)) (show (0 : Int) < 6 by decide)
            walk_at "w"
            obtain ⟨c', hc'⟩ := xor_nn c v (2 - (((1 : Nat) : Int))).toNat (11 - (((1 : Nat) : Int))).toNat
            exact ⟨⟨h1, h2, he⟩, h3, h4, h5, h6, c', by rw [← hc']; walk_at "lk"⟩
          · obtain ⟨v, hv⟩ := hfv (t2.fdiv (6 ^ (((2 : Nat) : Int)).toNat))
            have hz := Int.fmod_nonneg_of_pos (t2.fdiv (6 ^ (((2 : Nat) : Int)).toNat)) (show (0 : Int) < 6 by decide)
            walk_at "w"
            obtain ⟨c', hc'⟩ := xor_nn c v (2 - (((2 : Nat) : Int))).toNat (11 - (((2 : Nat) : Int))).toNat
            exact ⟨⟨h1, h2, he⟩, h3, h4, h5, h6, c', by rw [← hc']; walk_at "lk"⟩
        · intro σ ⟨⟨h1, h2, he⟩, h3, h4, h5, h6, c, h7⟩
          walk_at "w"
          exact ⟨he, h3, h4, c, h7⟩
      · clear h1 h2 he h3 h4 h5 hn1 hrf hfv hfll hfl hf0
        rintro f' σ ⟨rfl, he, h1, h2, c, h3⟩
        obtain ⟨⟨p0, p1, p2, q0, q1, q2, w0, w1, w2, hpr⟩, l8, l6, z6, z3⟩ := hP a b c
        have hTσ : Ext hpT σ.hp := hT.trans he
        walk_at "w"
        refine X1.mono (Q := fun f' σ' => f' = .next ∧ Ext hp σ'.hp ∧ σ'.loc "a" = some (.int a) ∧ σ'.loc "b" = some (.int b) ∧ σ'.loc "c" = some (.int c) ∧ ∃ r6 r3, σ'.loc "six" = some (.ref r6) ∧ σ'.loc "three" = some (.ref r3) ∧ σ'.hp[r6]? = some (.list false ((words6 a b).map PV.str)) ∧ σ'.hp[r3]? = some (.list false ((words3 c).map PV.str))) ?_ ?_
        · refine X1.swap (xs := ["six", "three"]) ?_ (by walk_at "u") (by unfold swappedStores Env.blockKind Env.kindOf; rw [hsc]; rfl)
          walk_at "w"
          refine ⟨_, false, _, rfl, getNew, rfl, ?_⟩
          refine StoL.cons ?_
          walk_at "w"
          exact ⟨he.apps.apps.apps.apps.apps, h1, h2, h3, _, _, by walk_at "lk", by walk_at "lk", getApp (getApp getNew), getApp getNew⟩
        · clear h1 h2 h3 he hTσ
          rintro f' σ ⟨rfl, he, h1, h2, h3, r6, r3, h4, h5, h6, h7⟩
          walk_at "w"
          refine ⟨_, rfl, ?_⟩
          walk_at "w"
          refine Ev.compX (cs := ["starts", "script"]) ⟨hsc, hcm, by decide, by decide, by decide, by decide, by decide⟩ ?_
          walk_at "w"
          refine ⟨_, .inl ⟨false, _, h6, rfl⟩, ?_⟩
          intro Cc k1 k2 k3 k4
          have hO' : Ok Cc.toSx := k1 ▸ hO
          refine Lc.lst (G := fun j q _ => ∃ w, (words6 a b)[j]? = some w ∧ q = .str (brkt w)) (by simp [words6]) (fun _ _ _ _ _ h => h) ⟨false, h6⟩ ?_ ?_ _ 0 _ rfl (Nat.zero_le _) LcI.start
          · intro j p σ2 hp2 I
            obtain ⟨i1, i2, i3⟩ := I
            obtain ⟨w, hw1, rfl⟩ : ∃ w, (words6 a b)[j]? = some w ∧ p = .str w := by
              rw [List.getElem?_map] at hp2
              rcases e : (words6 a b)[j]? with _ | w
              · rw [e] at hp2; cases hp2
              · rw [e] at hp2; exact ⟨w, rfl, by cases hp2; rfl⟩
            have hwl := (z6 w (List.mem_of_getElem? hw1)).1
            walk_at "w"
            refine Bin.addS (by rw [hwl]; decide) ?_
            walk_at "w"
            refine Bin.addS (by rw [strLen_append, hwl]; decide) ?_
            exact ⟨i1, fun _ _ e => e, i2, w, hw1, rfl⟩
          · intro σ2 I
            obtain ⟨i1, i2, xs, i3, i4, i5⟩ := I
            refine ⟨i1, ?_⟩
            have hxs : xs = ((words6 a b).map brkt).map PV.str := by
              refine List.ext_getElem? fun m => ?_
              rcases e : xs[m]? with _ | q
              · have := List.getElem?_eq_none_iff.mp e
                rw [List.getElem?_eq_none (by simp at i4 ⊢; lia)]
              · obtain ⟨w, hw1, rfl⟩ := i5 m q e
                simp [hw1]
            rw [hxs] at i3
            have hw3 : (words3 c).map PV.str = wstrs [p0, p1, p2] := by simp [words3, wstrs, w0, w1, w2]
            have hm5 : ∀ w ∈ words6 a b, (brkt w).length = 5 := fun w hm => by
              unfold brkt
              rw [strLen_append, strLen_append, (z6 w hm).1]; rfl
            have hjs : (((words6 a b).map brkt).map (·.length)).sum = 30 := by
              rw [sum5 _ hm5]; simp [words6]
            have hjo : JoinOk "" ((words6 a b).map brkt) = true := joinOk_of_weight (by rw [hjs]; simp [words6]) (by decide)
            have hrl : (rowOf a b).length < 1000 := by
              have e : (rowOf a b).length = 30 := by
                rw [← hjs]
                unfold rowOf
                rw [show ("" : Str) = ⟨#[]⟩ from rfl, L_len, L_join', List.length_flatten, List.map_map]
                congr 1
              rw [e]; decide
            have hro : Txt.join "" ((words6 a b).map brkt) = rowOf a b := rfl
            generalize hR : rowOf a b = R at hpr hrl hro
            walk_at "w"
            refine Cal.join i3 hjo ?_
            rw [hro]
            have h7' : σ2.hp[r3]? = some (.list false (wstrs [p0, p1, p2])) := i2.get (by rw [← hw3]; exact h7)
            clear hro hR hjo hjs hm5 hw3 hxs i4 i5
            walk_at "w"
            refine kcal_fn hO mem15 nm15 ok15 rfl hlv (f_price hO hE hw hL q0 q1 q2 h7' hrl ?_)
            rw [hpr]
            generalize hD : due (code6 a b) (code c) = D at l8 l6 hpr ⊢
            have he2 : Ext hp σ2.hp := he.trans i2
            have g6 : σ2.hp[r6]? = some (.list false ((words6 a b).map PV.str)) := i2.get h6
            have g3 : σ2.hp[r3]? = some (.list false ((words3 c).map PV.str)) := i2.get h7
            clear h6 h7 h7' i3 he
            have c1 : (D != D) = false := by simp
            have e6 : ([PV.int (code a 0), PV.int (code a 1), PV.int (code a 2)] ++ [PV.int (code b 0), PV.int (code b 1), PV.int (code b 2)] : List PV) = mk 6 fun m => .int (code6 a b m) := rfl
            have e3 : ([PV.int (code c 0), PV.int (code c 1), PV.int (code c 2)] : List PV) = mk 3 fun m => .int (code c m) := rfl
            repeat' (fail_if_success (with_reducible show Kpr _ _ (PV.fn "_law_due") ∧ _)); walk_at "s"
            rw [e6, e3]
            refine kcal_fn hO mem12 nm12 ok12 rfl hlv (f_due (s := code6 a b) (t := code c) hO (getApp getNew) getNew ?_)
            rw [hD]
            have hl6 : (words6 a b).length = 6 := rfl
            have hl3 : (words3 c).length = 3 := rfl
            have hlow6 : ∀ x ∈ words6 a b, Builtin.Str.tooLong (Txt.lower x).length = false := fun x hx => (z6 x hx).2
            have hlow3 : ∀ x ∈ words3 c, Builtin.Str.tooLong (Txt.lower x).length = false := fun x hx => (z3 x hx).2
            walk_at "w"
            refine kcal_fn hO mem7 nm7 ok7 rfl hlv (f_lev hO (xs := words6 a b) (ys := words3 c) (by walk_at "hp") (by walk_at "hp") (by rw [hl6, hl3]; decide) (by rw [hl6]; decide) (by rw [hl3]; decide) hlow6 hlow3 fun v hv => ?_)
            have c2 : (min (v - 6) 3 != D) = false := by rw [l8 v hv]; simp
            clear c1 e6 e3 l8 hv
            walk_at "w"
            refine kcal_fn hO mem7 nm7 ok7 rfl hlv (f_lev hO (xs := words3 c) (ys := words6 a b) (by walk_at "hp") (by walk_at "hp") (by rw [hl6, hl3]; decide) (by rw [hl3]; decide) (by rw [hl6]; decide) hlow3 hlow6 fun u hu => ?_)
            obtain ⟨u6, u0⟩ := l6 u hu
            have c3 : decide ((6 : Int) ≤ u) = true := decide_eq_true u6
            have c4 : ((u == 6) == (D == 0)) = true := by
              by_cases e : D = 0
              · rw [u0.mpr e, e]; rfl
              · have : u ≠ 6 := fun e' => e (u0.mp e')
                rw [beq_eq_false_iff_ne.mpr e, beq_eq_false_iff_ne.mpr this]; rfl
            clear l6 hu u0 c2
            walk_at "w"
            rw [c4]
            refine fin_bool ?_ h
            exact he2.apps.apps.apps.apps.apps.apps.apps.apps
end Mine
set_option maxHeartbeats 4000000
namespace Mine
/-! words and codes, by their bits -/
noncomputable def rch (v : Nat) : Nat := if v / 4 % 2 = 1 then 114 else 45
noncomputable def wch (v : Nat) : Nat := if v / 2 % 2 = 1 then 119 else 45
noncomputable def xch (l : Bool) (v : Nat) : Nat := if v / 8 % 2 = 1 then (if v % 2 = 1 then (if l then 116 else 115) else (if l then 84 else 83)) else if v % 2 = 1 then 120 else 45
noncomputable def tokw (l : Bool) (v : Nat) : List Tk := [.chr (rch v), .chr (wch v), .chr (xch l v)]
noncomputable def cdl (l : Bool) (v : Nat) : Nat := if l ∧ 7 < v then v + 16 else v
theorem sign_len1 {m : Int} {i : Nat} (hi : i < 10) : (sign m i).length = 1 := by
  unfold sign
  cases e : (tabAt i).find? (hits i m) with
  | none => simp only [Option.map_none, Option.getD_none]; split <;> decide
  | some p =>
    have hm := List.mem_of_find?_eq_some e
    have hall : ∀ j < 10, ∀ p ∈ tabAt j, p.2.length = 1 := by decide
    exact hall i hi p hm
theorem single {x : Str} (h : x.length = 1) : ∃ c, L x = [c] := by
  rw [L_len] at h
  match e : L x, h with
  | [c], _ => exact ⟨c, rfl⟩
theorem word_parts {m : Int} {k : Nat} (hk : k < 3) : L (word m k) = L (sign m (1 + 3 * k)) ++ (L (sign m (2 + 3 * k)) ++ L (sign m (3 + 3 * k))) := by
  unfold word
  rw [L_ssl, psl_mid]
  unfold mrow
  rw [L_join']
  have hs : ∀ i, i < 10 → ∃ c, L (sign m i) = [c] := fun i hi => single (sign_len1 hi)
  obtain ⟨c0, e0⟩ := hs 0 (by decide)
  obtain ⟨c1, e1⟩ := hs 1 (by decide)
  obtain ⟨c2, e2⟩ := hs 2 (by decide)
  obtain ⟨c3, e3⟩ := hs 3 (by decide)
  obtain ⟨c4, e4⟩ := hs 4 (by decide)
  obtain ⟨c5, e5⟩ := hs 5 (by decide)
  obtain ⟨c6, e6⟩ := hs 6 (by decide)
  obtain ⟨c7, e7⟩ := hs 7 (by decide)
  obtain ⟨c8, e8⟩ := hs 8 (by decide)
  obtain ⟨c9, e9⟩ := hs 9 (by decide)
  have e : (((List.range 10).map (sign m)).map L).flatten = [c0, c1, c2, c3, c4, c5, c6, c7, c8, c9] := by
    show ([L (sign m 0), L (sign m 1), L (sign m 2), L (sign m 3), L (sign m 4), L (sign m 5), L (sign m 6), L (sign m 7), L (sign m 8), L (sign m 9)] : List (List Nat)).flatten = _
    rw [e0, e1, e2, e3, e4, e5, e6, e7, e8, e9]; rfl
  rw [e]
  match k, hk with
  | 0, _ => show _ = L (sign m 1) ++ (L (sign m 2) ++ L (sign m 3)); rw [e1, e2, e3]; rfl
  | 1, _ => show _ = L (sign m 4) ++ (L (sign m 5) ++ L (sign m 6)); rw [e4, e5, e6]; rfl
  | 2, _ => show _ = L (sign m 7) ++ (L (sign m 8) ++ L (sign m 9)); rw [e7, e8, e9]; rfl
theorem sign_one {m : Int} {i : Nat} {b : Int} {ch : Str} (hi : i ≠ 0) (ht : tabAt i = [(b, ch)]) : sign m i = if (Builtin.bitAnd m b == b) = true then ch else "-" := by
  unfold sign
  rw [ht, if_neg hi, List.find?_cons]
  have e : hits i m (b, ch) = (Builtin.bitAnd m b == b) := by unfold hits; rw [if_neg hi]
  rw [e]
  cases h : (Builtin.bitAnd m b == b) <;> simp
theorem sign_three {m : Int} {i : Nat} {b1 b2 b3 : Int} {c1 c2 c3 : Str} (hi : i ≠ 0) (ht : tabAt i = [(b1, c1), (b2, c2), (b3, c3)]) : sign m i = if (Builtin.bitAnd m b1 == b1) = true then c1 else if (Builtin.bitAnd m b2 == b2) = true then c2 else if (Builtin.bitAnd m b3 == b3) = true then c3 else "-" := by
  unfold sign
  rw [ht, if_neg hi, List.find?_cons, List.find?_cons, List.find?_cons]
  have e : ∀ b c, hits i m (b, c) = (Builtin.bitAnd m b == b) := fun b c => by unfold hits; rw [if_neg hi]
  rw [e, e, e]
  cases h1 : (Builtin.bitAnd m b1 == b1) <;> cases h2 : (Builtin.bitAnd m b2 == b2) <;> cases h3 : (Builtin.bitAnd m b3 == b3) <;> simp
theorem band_nat (n b : Nat) : Builtin.bitAnd (n : Int) (b : Int) = ((n &&& b : Nat) : Int) := by rw [bitAnd_pp (by lia) (by lia)]; rfl
theorem and_pow (n i : Nat) : n &&& 2 ^ i = (n.testBit i).toNat * 2 ^ i := by
  apply Nat.eq_of_testBit_eq
  intro j
  rw [Nat.testBit_and, Nat.testBit_two_pow]
  by_cases h : i = j
  · subst h
    cases hb : n.testBit i
    · simp
    · simp
  · rw [decide_eq_false h, Bool.and_false]
    cases hb : n.testBit i
    · simp
    · rw [Bool.toNat_true, Nat.one_mul, Nat.testBit_two_pow, decide_eq_false h]
theorem band_one {n i b : Nat} (hb : b = 2 ^ i) : (Builtin.bitAnd (n : Int) (b : Int) == (b : Int)) = decide (n / b % 2 = 1) := by
  rw [band_nat, hb, and_pow, Nat.testBit_eq_decide_div_mod_eq]
  have h0 : 0 < 2 ^ i := Nat.two_pow_pos i
  by_cases h : n / 2 ^ i % 2 = 1
  · rw [decide_eq_true h]; simp
  · rw [decide_eq_false h]
    simp only [Bool.toNat_false, Nat.zero_mul, beq_eq_false_iff_ne]
    omega
theorem band_two {n i j b c : Nat} (hb : b = 2 ^ i) (hc : c = 2 ^ j) (hd : b ||| c = b + c) : (Builtin.bitAnd (n : Int) ((b + c : Nat) : Int) == ((b + c : Nat) : Int)) = decide (n / b % 2 = 1 ∧ n / c % 2 = 1) := by
  rw [band_nat, ← hd, Nat.and_or_distrib_left, hb, hc, and_pow, and_pow, Nat.testBit_eq_decide_div_mod_eq, Nat.testBit_eq_decide_div_mod_eq, ← hb, ← hc]
  have h0 : 0 < b := by rw [hb]; exact Nat.two_pow_pos i
  have h1 : 0 < c := by rw [hc]; exact Nat.two_pow_pos j
  by_cases hx : n / b % 2 = 1 <;> by_cases hy : n / c % 2 = 1
  · rw [decide_eq_true hx, decide_eq_true hy, decide_eq_true ⟨hx, hy⟩]; simp
  · rw [decide_eq_true hx, decide_eq_false hy, decide_eq_false (fun q => hy q.2)]
    simp only [Bool.toNat_true, Bool.toNat_false, Nat.one_mul, Nat.zero_mul, Nat.or_zero, hd, beq_eq_false_iff_ne]; lia
  · rw [decide_eq_false hx, decide_eq_true hy, decide_eq_false (fun q => hx q.1)]
    simp only [Bool.toNat_true, Bool.toNat_false, Nat.one_mul, Nat.zero_mul, Nat.zero_or, hd, beq_eq_false_iff_ne]; lia
  · rw [decide_eq_false hx, decide_eq_false hy, decide_eq_false (fun q => hx q.1)]
    simp only [Bool.toNat_false, Nat.zero_mul, Nat.or_self, hd, beq_eq_false_iff_ne]; lia
theorem fig_nat (n k : Nat) : fig (n : Int) k = (((n % 4096) / 8 ^ (2 - k) % 8 + (n % 4096) / 2 ^ (11 - k) % 2 * 8 : Nat) : Int) := by
  unfold fig
  have e : Builtin.bitAnd (n : Int) 4095 = ((n % 4096 : Nat) : Int) := by
    have := band_nat n 4095
    rw [show (4095 : Nat) = 2 ^ 12 - 1 from rfl, Nat.and_two_pow_sub_one_eq_mod] at this
    exact this
  rw [e]
  have h1 : ∀ x d : Nat, (x : Int).fdiv (d : Int) = ((x / d : Nat) : Int) := fun x d => by rw [Int.fdiv_eq_ediv_of_nonneg _ (by lia)]; rfl
  have h2 : ∀ x d : Nat, (x : Int).fmod (d : Int) = ((x % d : Nat) : Int) := fun x d => by rw [Int.fmod_eq_emod_of_nonneg _ (by lia)]; rfl
  have p1 : ((8 : Int) ^ (2 - k)) = ((8 ^ (2 - k) : Nat) : Int) := by rw [Int.natCast_pow]; rfl
  have p2 : ((2 : Int) ^ (11 - k)) = ((2 ^ (11 - k) : Nat) : Int) := by rw [Int.natCast_pow]; rfl
  rw [p1, p2, h1, h1]
  have q1 := h2 (n % 4096 / 8 ^ (2 - k)) 8
  have q2 := h2 (n % 4096 / 2 ^ (11 - k)) 2
  rw [show ((8 : Nat) : Int) = 8 from rfl] at q1
  rw [show ((2 : Nat) : Int) = 2 from rfl] at q2
  rw [q1, q2]
  rfl
theorem bit_of (n s m : Nat) : n % (s * (2 * m)) / s % 2 = n / s % 2 := by
  rw [Nat.mod_mul_right_div_self, Nat.mod_mod_of_dvd _ ⟨m, rfl⟩]
theorem fig_parts (q y : Nat) : (q % 8 + y % 2 * 8) / 4 % 2 = q / 4 % 2 ∧ (q % 8 + y % 2 * 8) / 2 % 2 = q / 2 % 2 ∧ (q % 8 + y % 2 * 8) % 2 = q % 2 ∧ (q % 8 + y % 2 * 8) / 8 % 2 = y % 2 ∧ q % 8 + y % 2 * 8 < 16 := by
  refine ⟨?_, ?_, ?_, ?_, ?_⟩ <;> lia
theorem word_gen {n i1 i2 i3 e j a b c d : Nat} {l : Bool} {p q : Str} (k1 : i1 ≠ 0) (k2 : i2 ≠ 0) (k3 : i3 ≠ 0) (ha : a = 2 ^ (e + 2)) (hb : b = 2 ^ (e + 1)) (hc : c = 2 ^ e) (hd : d = 2 ^ j)
    (t1 : tabAt i1 = [((a : Int), ("r" : Str))]) (t2 : tabAt i2 = [((b : Int), ("w" : Str))]) (t3 : tabAt i3 = [(((d + c : Nat) : Int), p), ((d : Int), q), ((c : Int), ("x" : Str))]) (ho : d ||| c = d + c)
    (ea : ∃ m, 4096 = a * (2 * m)) (eb : ∃ m, 4096 = b * (2 * m)) (ec : ∃ m, 4096 = c * (2 * m)) (ed : ∃ m, 4096 = d * (2 * m)) (fa : c * 4 = a) (fb : c * 2 = b) (hp : L p = [if l then 116 else 115]) (hq : L q = [if l then 84 else 83]) {v : Nat} (hv : v = n % 4096 / c % 8 + n % 4096 / d % 2 * 8) :
    v < 16 ∧ L (sign (n : Int) i1) = [rch v] ∧ L (sign (n : Int) i2) = [wch v] ∧ L (sign (n : Int) i3) = [xch l v] := by
  obtain ⟨f1, f2, f3, f4, f5⟩ := fig_parts (n % 4096 / c) (n % 4096 / d)
  rw [← hv] at f1 f2 f3 f4 f5
  rw [Nat.div_div_eq_div_mul, fa] at f1
  rw [Nat.div_div_eq_div_mul, fb] at f2
  obtain ⟨m1, e1⟩ := ea
  obtain ⟨m2, e2⟩ := eb
  obtain ⟨m3, e3⟩ := ec
  obtain ⟨m4, e4⟩ := ed
  rw [e1, bit_of] at f1
  rw [e2, bit_of] at f2
  rw [e3, bit_of] at f3
  rw [e4, bit_of] at f4
  refine ⟨f5, ?_, ?_, ?_⟩
  · rw [sign_one k1 t1, band_one ha]; unfold rch; rw [f1]
    by_cases h : n / a % 2 = 1
    · rw [if_pos h, decide_eq_true h]; rfl
    · rw [if_neg h, decide_eq_false h]; rfl
  · rw [sign_one k2 t2, band_one hb]; unfold wch; rw [f2]
    by_cases h : n / b % 2 = 1
    · rw [if_pos h, decide_eq_true h]; rfl
    · rw [if_neg h, decide_eq_false h]; rfl
  · rw [sign_three k3 t3, band_two hd hc ho, band_one hd, band_one hc]; unfold xch; rw [f3, f4]
    by_cases h : n / c % 2 = 1 <;> by_cases h' : n / d % 2 = 1
    · rw [if_pos h', if_pos h, decide_eq_true ⟨h', h⟩]; exact hp
    · rw [if_neg h', if_pos h, decide_eq_false (fun q => h' q.1), decide_eq_false h', decide_eq_true h]; rfl
    · rw [if_pos h', if_neg h, decide_eq_false (fun q => h q.2), decide_eq_true h']; exact hq
    · rw [if_neg h', if_neg h, decide_eq_false (fun q => h q.2), decide_eq_false h', decide_eq_false h]; rfl
theorem word_join {n k v : Nat} {l : Bool} (hk : k < 3) (h : v < 16 ∧ L (sign (n : Int) (1 + 3 * k)) = [rch v] ∧ L (sign (n : Int) (2 + 3 * k)) = [wch v] ∧ L (sign (n : Int) (3 + 3 * k)) = [xch l v]) : v < 16 ∧ word (n : Int) k = wsrc (tokw l v) :=
  ⟨h.1, L_ext (by rw [word_parts hk, h.2.1, h.2.2.1, h.2.2.2]; rfl)⟩
theorem word_fig0 (n : Nat) : ∃ v, v < 16 ∧ fig (n : Int) 0 = (v : Nat) ∧ word (n : Int) 0 = wsrc (tokw false v) := by
  have h := word_join (k := 0) (by decide) (word_gen (n := n) (i1 := 1) (i2 := 2) (i3 := 3) (a := 256) (b := 128) (c := 64) (d := 2048) (e := 6) (j := 11) (l := false) (p := "s") (q := "S") (by decide) (by decide) (by decide) rfl rfl rfl rfl rfl rfl rfl rfl ⟨8, rfl⟩ ⟨16, rfl⟩ ⟨32, rfl⟩ ⟨1, rfl⟩ rfl rfl rfl rfl rfl)
  exact ⟨_, h.1, fig_nat n 0, h.2⟩
theorem word_fig1 (n : Nat) : ∃ v, v < 16 ∧ fig (n : Int) 1 = (v : Nat) ∧ word (n : Int) 1 = wsrc (tokw false v) := by
  have h := word_join (k := 1) (by decide) (word_gen (n := n) (i1 := 4) (i2 := 5) (i3 := 6) (a := 32) (b := 16) (c := 8) (d := 1024) (e := 3) (j := 10) (l := false) (p := "s") (q := "S") (by decide) (by decide) (by decide) rfl rfl rfl rfl rfl rfl rfl rfl ⟨64, rfl⟩ ⟨128, rfl⟩ ⟨256, rfl⟩ ⟨2, rfl⟩ rfl rfl rfl rfl rfl)
  exact ⟨_, h.1, fig_nat n 1, h.2⟩
theorem word_fig2 (n : Nat) : ∃ v, v < 16 ∧ fig (n : Int) 2 = (v : Nat) ∧ word (n : Int) 2 = wsrc (tokw true v) := by
  have h := word_join (k := 2) (by decide) (word_gen (n := n) (i1 := 7) (i2 := 8) (i3 := 9) (a := 4) (b := 2) (c := 1) (d := 512) (e := 0) (j := 9) (l := true) (p := "t") (q := "T") (by decide) (by decide) (by decide) rfl rfl rfl rfl rfl rfl rfl rfl ⟨512, rfl⟩ ⟨1024, rfl⟩ ⟨2048, rfl⟩ ⟨4, rfl⟩ rfl rfl rfl rfl rfl)
  exact ⟨_, h.1, fig_nat n 2, h.2⟩
theorem word_fig (n k : Nat) (hk : k < 3) : ∃ v, v < 16 ∧ code (n : Int) k = (cdl (k == 2) v : Nat) ∧ word (n : Int) k = wsrc (tokw (k == 2) v) := by
  match k, hk with
  | 0, _ => obtain ⟨v, h1, h2, h3⟩ := word_fig0 n; exact ⟨v, h1, by unfold code cdl; rw [if_neg (by simp), if_neg (by simp), h2], h3⟩
  | 1, _ => obtain ⟨v, h1, h2, h3⟩ := word_fig1 n; exact ⟨v, h1, by unfold code cdl; rw [if_neg (by simp), if_neg (by simp), h2], h3⟩
  | 2, _ =>
    obtain ⟨v, h1, h2, h3⟩ := word_fig2 n
    refine ⟨v, h1, ?_, h3⟩
    unfold code cdl
    rw [h2]
    by_cases h : 7 < v
    · rw [if_pos ⟨rfl, by lia⟩, if_pos ⟨rfl, h⟩]; rfl
    · rw [if_neg (fun q => h (by lia)), if_neg (fun q => h q.2)]
end Mine
set_option maxHeartbeats 4000000
namespace Mine
noncomputable def lowx (l : Bool) (v : Nat) : Nat := if v / 8 % 2 = 1 then (if l then 116 else 115) else if v % 2 = 1 then 120 else 45
theorem low_tab : ∀ l : Bool, ∀ v, v < 16 → Txt.lower (wsrc (tokw l v)) = ⟨#[rch v, wch v, lowx l v]⟩ := by decide +kernel
theorem cost_tab : ∀ l l' : Bool, ∀ v, v < 16 → ∀ v', v' < 16 → (if [rch v, wch v, xch l v] = [rch v', wch v', xch l' v'] then (0 : Int) else if [rch v, wch v, lowx l v] = [rch v', wch v', lowx l' v'] then 1 else 2) = cost (cdl l v : Nat) (cdl l' v' : Nat) := by decide +kernel
theorem str3 {a b c a' b' c' : Nat} : ((⟨#[a, b, c]⟩ : Str) = ⟨#[a', b', c']⟩) ↔ [a, b, c] = [a', b', c'] := by
  constructor
  · intro h; have := congrArg L h; exact this
  · intro h; exact L_ext h
theorem wcost_eq {l l' : Bool} {v v' : Nat} (h : v < 16) (h' : v' < 16) : wcost (wsrc (tokw l v)) (wsrc (tokw l' v')) = cost (cdl l v : Nat) (cdl l' v' : Nat) := by
  rw [← cost_tab l l' v h v' h']
  unfold wcost
  rw [low_tab l v h, low_tab l' v' h']
  have e : ∀ l v, wsrc (tokw l v) = ⟨#[rch v, wch v, xch l v]⟩ := fun _ _ => rfl
  rw [e, e]
  by_cases h1 : [rch v, wch v, xch l v] = [rch v', wch v', xch l' v']
  · rw [if_pos h1, if_pos (str3.mpr h1)]
  · rw [if_neg h1, if_neg (fun q => h1 (str3.mp q))]
    by_cases h2 : [rch v, wch v, lowx l v] = [rch v', wch v', lowx l' v']
    · rw [if_pos h2, if_pos (str3.mpr h2)]
    · rw [if_neg h2, if_neg (fun q => h2 (str3.mp q))]
theorem cost_range (a b : Int) : 0 ≤ cost a b ∧ cost a b ≤ 2 := by
  unfold cost
  split
  · decide
  · split <;> decide
theorem wcost_range (a b : Str) : 0 ≤ wcost a b ∧ wcost a b ≤ 2 := by
  unfold wcost
  split
  · decide
  · split <;> decide
theorem low_short {l : Bool} {v : Nat} (h : v < 16) : (wsrc (tokw l v)).length = 3 ∧ Builtin.Str.tooLong (Txt.lower (wsrc (tokw l v))).length = false := by
  refine ⟨rfl, ?_⟩
  rw [low_tab l v h]
  show Builtin.Str.tooLong 3 = false
  decide
theorem plain_tok {l : Bool} {v : Nat} : tokw l v ∈ plainW := by
  unfold plainW tokw
  refine List.mem_flatMap.mpr ⟨rch v, by unfold rch; split <;> simp, List.mem_flatMap.mpr ⟨wch v, by unfold wch; split <;> simp, List.mem_map.mpr ⟨xch l v, ?_, rfl⟩⟩⟩
  unfold xch
  split
  · split <;> (split <;> simp)
  · split <;> simp
/-! how a run fits a piece -/
noncomputable def fitc (c x : Nat) : Bool := ((⟨#[c]⟩ : Str) == "0") || has (fitSet ⟨#[c]⟩) ⟨#[x]⟩
noncomputable def tabl (c x : Nat) : Bool := c == 48 || (c == 49 && (x == 115 || x == 83)) || (c == 50 && (x == 116 || x == 84)) || (c == x && c != 49 && c != 50)
theorem fitc_tab : ∀ c ∈ [45, 48, 49, 50, 60, 62, 83, 84, 114, 115, 116, 119, 120], ∀ x ∈ [45, 60, 62, 83, 84, 114, 115, 116, 119, 120], fitc c x = tabl c x := by decide +kernel
theorem fits5 {run piece : Str} {c0 c1 c2 c3 c4 x0 x1 x2 x3 x4 : Nat} (hr : L run = [c0, c1, c2, c3, c4]) (hp : L piece = [x0, x1, x2, x3, x4]) : fits run piece = (fitc c0 x0 && (fitc c1 x1 && (fitc c2 x2 && (fitc c3 x3 && fitc c4 x4)))) := by
  have hl : run.length = 5 := by rw [L_len, hr]; rfl
  unfold fits
  rw [hl]
  have key : ∀ (k c x : Nat), (L run)[k]? = some c → (L piece)[k]? = some x → fitAt run piece k = fitc c x := fun k c x h1 h2 => by
    unfold fitAt fitc
    rw [item_at h1, item_at h2]
  show (fitAt run piece 0 && (fitAt run piece 1 && (fitAt run piece 2 && (fitAt run piece 3 && (fitAt run piece 4 && true))))) = _
  rw [key 0 c0 x0 (by rw [hr]; rfl) (by rw [hp]; rfl), key 1 c1 x1 (by rw [hr]; rfl) (by rw [hp]; rfl), key 2 c2 x2 (by rw [hr]; rfl) (by rw [hp]; rfl), key 3 c3 x3 (by rw [hr]; rfl) (by rw [hp]; rfl), key 4 c4 x4 (by rw [hr]; rfl) (by rw [hp]; rfl), Bool.and_true]
/-- a pattern's word against a word -/
noncomputable def mtc (p : List Tk) (l : Bool) (v : Nat) : Bool := match p.map rcode with
  | [a, b, c] => tabl a (rch v) && (tabl b (wch v) && tabl c (xch l v))
  | _ => false
theorem mt_exact : ∀ l l' : Bool, ∀ v, v < 16 → ∀ v', v' < 16 → mtc (tokw l v) l' v' = decide (cost (cdl l' v' : Nat) (cdl l v : Nat) = 0) := by decide +kernel
theorem mt_sized : ∀ l l' : Bool, ∀ v, v < 16 → ∀ v', v' < 16 → mtc (sizedW (tokw l v)) l' v' = decide (cost (cdl l' v' : Nat) (cdl l v : Nat) ≤ 1) := by decide +kernel
theorem mt_any : ∀ l' : Bool, ∀ v', v' < 16 → mtc q3 l' v' = true := by decide +kernel
theorem tw_one : ∀ l l' : Bool, ∀ v, v < 16 → ∀ v', v' < 16 → cost (cdl l' v' : Nat) (cdl l v : Nat) = 1 → isTw (thirdC (tokw l v)) = true := by decide +kernel
end Mine
set_option maxHeartbeats 4000000
namespace Mine
noncomputable def blk (l : Nat → Bool) (u : Nat → Nat) (i : Nat) : List Nat := [60, rch (u i), wch (u i), xch (l i) (u i), 62]
theorem fm_len {f : Nat → List Nat} (hb : ∀ i, (f i).length = 5) : ∀ n, ((List.range n).flatMap f).length = 5 * n
  | 0 => rfl
  | n + 1 => by rw [List.range_succ, List.flatMap_append, List.length_append, fm_len hb n]; simp [hb]; lia
theorem fm_at {f : Nat → List Nat} (hb : ∀ i, (f i).length = 5) : ∀ n j r, j < n → r < 5 → ((List.range n).flatMap f)[5 * j + r]? = (f j)[r]?
  | n + 1, j, r, hj, hr => by
    rw [List.range_succ, List.flatMap_append]
    have hl := fm_len hb n
    by_cases h : j < n
    · rw [List.getElem?_append_left (by lia)]; exact fm_at hb n j r h hr
    · have : j = n := by lia
      subst this
      rw [List.getElem?_append_right (by lia), hl, show 5 * j + r - 5 * j = r from by lia]
      simp
structure RowIs (row : Str) (l : Nat → Bool) (u : Nat → Nat) : Prop where
  row : L row = (List.range 6).flatMap (blk l u)
  small : ∀ i, u i < 16
noncomputable def CL : List Nat := [45, 48, 49, 50, 60, 62, 83, 84, 114, 115, 116, 119, 120]
noncomputable def XL' : List Nat := [45, 60, 62, 83, 84, 114, 115, 116, 119, 120]
noncomputable def pOkB (p : List Tk) : Bool := match p.map rcode with
  | [a, b, c] => CL.contains a && (CL.contains b && CL.contains c)
  | _ => false
theorem pok_tab : ∀ l : Bool, ∀ v, v < 16 → (pOkB (tokw l v) && pOkB (sizedW (tokw l v))) = true := by decide +kernel
theorem pok_q3 : pOkB q3 = true := by decide
theorem ch_tab : ∀ l : Bool, ∀ v, v < 16 → (XL'.contains (rch v) && (XL'.contains (wch v) && (XL'.contains (xch l v) && (rch v != 60 && (wch v != 60 && xch l v != 60))))) = true := by decide +kernel
section
variable {row : Str} {l : Nat → Bool} {u : Nat → Nat}
theorem RowIs.len (R : RowIs row l u) : row.length = 30 := by rw [L_len, R.row, fm_len (fun _ => rfl)]
theorem RowIs.at (R : RowIs row l u) {j r : Nat} (hj : j < 6) (hr : r < 5) : (L row)[5 * j + r]? = (blk l u j)[r]? := by rw [R.row]; exact fm_at (fun _ => rfl) 6 j r hj hr
theorem piece_L {row : Str} {q : Nat} {n : Nat} : L (ssl row (some (q : Int)) (some ((q : Int) + (n : Int)))) = ((L row).drop q).take n := by
  rw [L_ssl, show ((q : Int) + (n : Int)) = ((q + n : Nat) : Int) from rfl, psl_mid, Nat.add_sub_cancel_left]
theorem run_len {p : List Tk} (h : pOkB p = true) : (runOf p).length = 5 ∧ ∃ a b c, p.map rcode = [a, b, c] ∧ a ∈ CL ∧ b ∈ CL ∧ c ∈ CL := by
  unfold pOkB at h
  split at h
  · rename_i a b c e
    simp only [Bool.and_eq_true, List.contains_iff_mem] at h
    refine ⟨?_, a, b, c, e, h.1, h.2.1, h.2.2⟩
    show (runL p).toArray.size = 5
    unfold runL
    rw [e]; rfl
  · cases h
theorem fits_at (R : RowIs row l u) {p : List Tk} (hp : pOkB p = true) {j : Nat} (hj : j < 6) : fitsAt (runOf p) row (5 * j) = mtc p (l j) (u j) := by
  obtain ⟨h5, a, b, c, e, ha, hb, hc⟩ := run_len hp
  have hc0 := ch_tab (l j) (u j) (R.small j)
  simp only [Bool.and_eq_true, List.contains_iff_mem, bne_iff_ne] at hc0
  obtain ⟨x1, x2, x3, _⟩ := hc0
  unfold fitsAt
  rw [h5]
  have hpc : L (ssl row (some ((5 * j : Nat) : Int)) (some (((5 * j : Nat) : Int) + ((5 : Nat) : Int)))) = [60, rch (u j), wch (u j), xch (l j) (u j), 62] := by
    rw [piece_L]
    refine List.ext_getElem? fun i => ?_
    by_cases hi : i < 5
    · rw [List.getElem?_take_of_lt hi, List.getElem?_drop, R.at hj hi]; rfl
    · rw [List.getElem?_eq_none (by simp; lia), List.getElem?_eq_none (by simp; lia)]
  have hrl : L (runOf p) = [60, a, b, c, 62] := by
    show runL p = _
    unfold runL; rw [e]; rfl
  rw [fits5 hrl hpc, fitc_tab 60 (by decide) 60 (by decide), fitc_tab a ha _ x1, fitc_tab b hb _ x2, fitc_tab c hc _ x3, fitc_tab 62 (by decide) 62 (by decide)]
  unfold mtc
  rw [e]
  show (true && _) = _
  rw [Bool.true_and, show tabl 62 62 = true from rfl, Bool.and_true]
theorem fits_off (R : RowIs row l u) {p : List Tk} (hp : pOkB p = true) {q : Nat} (hq : q < 30) (h : q % 5 ≠ 0) : fitsAt (runOf p) row q = false := by
  obtain ⟨h5, a, b, c, e, ha, hb, hc⟩ := run_len hp
  have hj : q / 5 < 6 := by lia
  have hr : q % 5 < 5 := by lia
  have hc0 := ch_tab (l (q / 5)) (u (q / 5)) (R.small _)
  simp only [Bool.and_eq_true, List.contains_iff_mem, bne_iff_ne] at hc0
  obtain ⟨x1, x2, x3, y1, y2, y3⟩ := hc0
  obtain ⟨x, hx, hx1, hx2⟩ : ∃ x, (L row)[q]? = some x ∧ x ∈ XL' ∧ x ≠ 60 := by
    have := R.at hj hr
    rw [show 5 * (q / 5) + q % 5 = q from by lia] at this
    rw [this]
    have hr2 : q % 5 = 1 ∨ q % 5 = 2 ∨ q % 5 = 3 ∨ q % 5 = 4 := by lia
    rcases hr2 with e | e | e | e <;> rw [e]
    · exact ⟨_, rfl, x1, y1⟩
    · exact ⟨_, rfl, x2, y2⟩
    · exact ⟨_, rfl, x3, y3⟩
    · exact ⟨_, rfl, by decide, by decide⟩
  unfold fitsAt fits
  rw [h5]
  have h0 : fitAt (runOf p) (ssl row (some (q : Int)) (some ((q : Int) + ((5 : Nat) : Int)))) 0 = false := by
    have e1 : (L (runOf p))[0]? = some 60 := rfl
    have e2 : (L (ssl row (some (q : Int)) (some ((q : Int) + ((5 : Nat) : Int)))))[0]? = some x := by
      rw [piece_L, List.getElem?_take_of_lt (by decide), List.getElem?_drop]; exact hx
    have : fitAt (runOf p) (ssl row (some (q : Int)) (some ((q : Int) + ((5 : Nat) : Int)))) 0 = fitc 60 x := by
      unfold fitAt fitc
      rw [item_at e1, item_at e2]
    rw [this, fitc_tab 60 (by decide) x hx1]
    unfold tabl
    have : (60 == x) = false := by rw [beq_eq_false_iff_ne]; exact Ne.symm hx2
    rw [this]; rfl
  rw [List.all_eq_false]
  exact ⟨0, by decide, by rw [h0]; exact Bool.false_ne_true⟩
/-- one after the other -/
noncomputable def TT : List (Nat → Bool) → Nat → Prop
  | [], _ => True
  | m :: ms, i => ∃ j, i ≤ j ∧ j < 6 ∧ m j = true ∧ TT ms (j + 1)
theorem TT.mono : ∀ {ms : List (Nat → Bool)} {i i' : Nat}, i ≤ i' → TT ms i' → TT ms i
  | [], _, _, _, _ => trivial
  | _ :: _, _, _, h, ⟨j, h1, h2⟩ => ⟨j, Nat.le_trans h h1, h2⟩
theorem least {P : Nat → Bool} : ∀ (d i : Nat), i + d = 6 → (∃ j, i ≤ j ∧ j < 6 ∧ P j = true ∧ ∀ k, i ≤ k → k < j → P k = false) ∨ ∀ k, i ≤ k → k < 6 → P k = false
  | 0, i, h => .inr fun k h1 h2 => by lia
  | d + 1, i, h => by
    rcases e : P i with _ | _
    · rcases least (P := P) d (i + 1) (by lia) with ⟨j, h1, h2, h3, h4⟩ | h1
      · refine .inl ⟨j, by lia, h2, h3, fun k h5 h6 => ?_⟩
        by_cases hk : k = i
        · subst hk; exact e
        · exact h4 k (by lia) h6
      · refine .inr fun k h5 h6 => ?_
        by_cases hk : k = i
        · subst hk; exact e
        · exact h1 k (by lia) h6
    · exact .inl ⟨i, Nat.le_refl _, by lia, e, fun k h1 h2 => by lia⟩
theorem takes_T (R : RowIs row l u) : ∀ {ps : List (List Tk)} {i : Nat}, (∀ p ∈ ps, pOkB p = true) → i ≤ 6 → (takesL ps row (5 * i) = true ↔ TT (ps.map fun p j => mtc p (l j) (u j)) i)
  | [], _, _, _ => ⟨fun _ => trivial, fun _ => rfl⟩
  | p :: ps, i, hp, hi => by
    have hp0 := hp p List.mem_cons_self
    have hps : ∀ p ∈ ps, pOkB p = true := fun q hq => hp q (List.mem_cons_of_mem _ hq)
    have h5 := (run_len hp0).1
    have hlen := R.len
    have off : ∀ q, 5 * i ≤ q → q < 30 → (∀ k, i ≤ k → 5 * k = q → mtc p (l k) (u k) = false) → fitsAt (runOf p) row q = false := fun q h1 h2 h3 => by
      by_cases hq : q % 5 = 0
      · have := h3 (q / 5) (by lia) (by lia)
        rw [show q = 5 * (q / 5) from by lia, fits_at R hp0 (by lia)]; exact this
      · exact fits_off R hp0 h2 hq
    show (match seek (runOf p) row (5 * i) with | none => false | some q => takesL ps row (q + (runOf p).length)) = true ↔ ∃ j, i ≤ j ∧ j < 6 ∧ mtc p (l j) (u j) = true ∧ TT (ps.map fun p j => mtc p (l j) (u j)) (j + 1)
    rcases least (P := fun j => mtc p (l j) (u j)) (6 - i) i (by lia) with ⟨j, h1, h2, h3, h4⟩ | h1
    · have hs : seek (runOf p) row (5 * i) = some (5 * j) := seek_some (by lia) (by rw [h5, hlen]; lia) (fun q q1 q2 => off q q1 (by lia) fun k k1 k2 => h4 k k1 (by lia)) (by rw [fits_at R hp0 h2]; exact h3)
      rw [hs, h5]
      have ih := takes_T R (ps := ps) (i := j + 1) hps (by lia)
      rw [show 5 * (j + 1) = 5 * j + 5 from by lia] at ih
      show takesL ps row (5 * j + 5) = true ↔ _
      rw [ih]
      constructor
      · exact fun h => ⟨j, h1, h2, h3, h⟩
      · rintro ⟨k, k1, k2, k3, k4⟩
        by_cases hk : k < j
        · rw [h4 k k1 hk] at k3; cases k3
        · exact k4.mono (by lia)
    · have hs : seek (runOf p) row (5 * i) = none := seek_none (p' := 26) (by rw [h5, hlen]; lia) fun q q1 q2 => off q q1 (by lia) fun k k1 k2 => h1 k k1 (by lia)
      rw [hs]
      constructor
      · intro h; cases h
      · rintro ⟨k, k1, k2, k3, k4⟩
        rw [h1 k k1 k2] at k3; cases k3
end
end Mine
set_option maxHeartbeats 4000000
namespace Mine
theorem foldR_none {a b : Nat} {f : Nat → Int → Int} {x : Int} (h : b ≤ a) : foldR a b f x = x := by
  unfold foldR
  rw [show b - a = 0 from by lia]; rfl
theorem foldR_le {f : Nat → Int → Int} {P : Nat → Prop} {w : Int} (hf : ∀ j x, f j x ≤ w ↔ x ≤ w ∨ P j) (a : Nat) : ∀ (n : Nat) (x : Int), foldR a (a + n) f x ≤ w ↔ x ≤ w ∨ ∃ j, a ≤ j ∧ j < a + n ∧ P j
  | 0, x => by
    rw [foldR_none (by lia)]
    exact ⟨.inl, fun h => h.elim id fun ⟨j, h1, h2, _⟩ => by lia⟩
  | n + 1, x => by
    rw [show a + (n + 1) = (a + n) + 1 from by lia, foldR_succ (by lia), hf, foldR_le hf a n x]
    constructor
    · rintro ((h | ⟨j, h1, h2, h3⟩) | h)
      · exact .inl h
      · exact .inr ⟨j, h1, by lia, h3⟩
      · exact .inr ⟨a + n, by lia, by lia, h⟩
    · rintro (h | ⟨j, h1, h2, h3⟩)
      · exact .inl (.inl h)
      · by_cases e : j = a + n
        · subst e; exact .inr h3
        · exact .inl (.inr ⟨j, h1, by lia, h3⟩)
theorem foldR_le' {f : Nat → Int → Int} {P : Nat → Prop} {w : Int} (hf : ∀ j x, f j x ≤ w ↔ x ≤ w ∨ P j) (a b : Nat) (x : Int) : foldR a b f x ≤ w ↔ x ≤ w ∨ ∃ j, a ≤ j ∧ j < b ∧ P j := by
  by_cases h : a ≤ b
  · have := foldR_le hf a (b - a) x
    rw [show a + (b - a) = b from by lia] at this
    exact this
  · rw [foldR_none (by lia)]
    exact ⟨.inl, fun h => h.elim id fun ⟨j, h1, h2, _⟩ => by lia⟩
theorem due_iff {s t : Nat → Int} {w : Int} : due s t ≤ w ↔ 3 ≤ w ∨ ∃ i j k, i < j ∧ j < k ∧ k < 6 ∧ dueK s t i j k ≤ w := by
  unfold due
  rw [foldR_le' (P := fun i => ∃ j, i + 1 ≤ j ∧ j < 5 ∧ ∃ k, j + 1 ≤ k ∧ k < 6 ∧ dueK s t i j k ≤ w) (w := w) fun i x => by
    unfold dueF1
    exact foldR_le' (P := fun j => ∃ k, j + 1 ≤ k ∧ k < 6 ∧ dueK s t i j k ≤ w) (fun j x => by
      unfold dueF2
      exact foldR_le' (P := fun k => dueK s t i j k ≤ w) (fun k x => by unfold dueF3; lia) _ _ _) _ _ _]
  constructor
  · rintro (h | ⟨i, _, h1, j, h2, h3, k, h4, h5, h6⟩)
    · exact .inl h
    · exact .inr ⟨i, j, k, by lia, by lia, h5, h6⟩
  · rintro (h | ⟨i, j, k, h1, h2, h3, h4⟩)
    · exact .inl h
    · exact .inr ⟨i, by lia, by lia, j, by lia, by lia, k, by lia, h3, h4⟩
theorem due_range {s t : Nat → Int} : 0 ≤ due s t ∧ due s t ≤ 3 := by
  refine ⟨?_, due_iff.mpr (.inl (Int.le_refl _))⟩
  by_cases h : due s t ≤ -1
  · rcases due_iff.mp h with h | ⟨i, j, k, _, _, _, h⟩
    · lia
    · unfold dueK at h
      have h1 := cost_range (s i) (t 0)
      have h2 := cost_range (s j) (t 1)
      have h3 := cost_range (s k) (t 2)
      lia
  · lia
/-- three places in order -/
noncomputable def Ex (m0 m1 m2 : Nat → Prop) : Prop := ∃ i j k, i < j ∧ j < k ∧ k < 6 ∧ m0 i ∧ m1 j ∧ m2 k
theorem Ex.imp {m0 m1 m2 n0 n1 n2 : Nat → Prop} (h : Ex m0 m1 m2) (h0 : ∀ i, m0 i → n0 i) (h1 : ∀ i, m1 i → n1 i) (h2 : ∀ i, m2 i → n2 i) : Ex n0 n1 n2 :=
  let ⟨i, j, k, a, b, c, d, e, f⟩ := h; ⟨i, j, k, a, b, c, h0 i d, h1 j e, h2 k f⟩
theorem TT3 {m0 m1 m2 : Nat → Bool} : TT [m0, m1, m2] 0 ↔ Ex (fun i => m0 i = true) (fun i => m1 i = true) (fun i => m2 i = true) := by
  constructor
  · rintro ⟨i, _, h1, h2, j, h3, h4, h5, k, h6, h7, h8, _⟩
    exact ⟨i, j, k, by lia, by lia, h7, h2, h5, h8⟩
  · rintro ⟨i, j, k, h1, h2, h3, h4, h5, h6⟩
    exact ⟨i, by lia, by lia, h4, j, by lia, by lia, h5, k, by lia, h3, h6, trivial⟩
section
variable {row : Str} {l : Nat → Bool} {u z : Nat → Nat}
noncomputable def tk (z : Nat → Nat) (m : Nat) : List Tk := tokw (m == 2) (z m)
noncomputable def cst (l : Nat → Bool) (u z : Nat → Nat) (m i : Nat) : Int := cost (cdl (l i) (u i) : Nat) (cdl (m == 2) (z m) : Nat)
noncomputable def Z (l : Nat → Bool) (u z : Nat → Nat) (m : Nat) : Nat → Prop := fun i => cst l u z m i = 0
noncomputable def O (l : Nat → Bool) (u z : Nat → Nat) (m : Nat) : Nat → Prop := fun i => cst l u z m i ≤ 1
noncomputable def tw (z : Nat → Nat) (m : Nat) : Bool := isTw (thirdC (tk z m))
theorem takes3 (R : RowIs row l u) {a0 a1 a2 : List Tk} (h0 : pOkB a0 = true) (h1 : pOkB a1 = true) (h2 : pOkB a2 = true) :
    takesL [a0, a1, a2] row 0 = true ↔ Ex (fun i => mtc a0 (l i) (u i) = true) (fun i => mtc a1 (l i) (u i) = true) (fun i => mtc a2 (l i) (u i) = true) := by
  have := takes_T R (ps := [a0, a1, a2]) (i := 0) (fun p hp => by simp at hp; rcases hp with rfl | rfl | rfl <;> assumption) (by decide)
  rw [Nat.mul_zero] at this
  rw [this]
  exact TT3
theorem mZ (hz : ∀ m, z m < 16) (R : RowIs row l u) (m i : Nat) : mtc (tk z m) (l i) (u i) = true ↔ Z l u z m i := by
  unfold tk Z cst
  rw [mt_exact _ _ _ (hz m) _ (R.small i), decide_eq_true_iff]
theorem mO (hz : ∀ m, z m < 16) (R : RowIs row l u) (m i : Nat) : mtc (sizedW (tk z m)) (l i) (u i) = true ↔ O l u z m i := by
  unfold tk O cst
  rw [mt_sized _ _ _ (hz m) _ (R.small i), decide_eq_true_iff]
theorem mA (R : RowIs row l u) (i : Nat) : mtc q3 (l i) (u i) = true ↔ True := by
  rw [mt_any _ _ (R.small i)]; simp
theorem ok_t (hz : ∀ m, z m < 16) (m : Nat) : pOkB (tk z m) = true ∧ pOkB (sizedW (tk z m)) = true := by
  have := pok_tab (m == 2) (z m) (hz m)
  rw [Bool.and_eq_true] at this
  exact this
theorem Ex.iff {m0 m1 m2 n0 n1 n2 : Nat → Prop} (h0 : ∀ i, m0 i ↔ n0 i) (h1 : ∀ i, m1 i ↔ n1 i) (h2 : ∀ i, m2 i ↔ n2 i) : Ex m0 m1 m2 ↔ Ex n0 n1 n2 :=
  ⟨fun h => h.imp (fun i => (h0 i).mp) (fun i => (h1 i).mp) (fun i => (h2 i).mp), fun h => h.imp (fun i => (h0 i).mpr) (fun i => (h1 i).mpr) (fun i => (h2 i).mpr)⟩
theorem any0 (hz : ∀ m, z m < 16) (R : RowIs row l u) : anyT [[tk z 0, tk z 1, tk z 2]] row = true ↔ Ex (Z l u z 0) (Z l u z 1) (Z l u z 2) := by
  unfold anyT
  rw [List.any_cons, List.any_nil, Bool.or_false, takes3 R (ok_t hz 0).1 (ok_t hz 1).1 (ok_t hz 2).1]
  exact Ex.iff (mZ hz R 0) (mZ hz R 1) (mZ hz R 2)
theorem any1 (hz : ∀ m, z m < 16) (R : RowIs row l u) : anyT (onceP [tk z 0, tk z 1, tk z 2]) row = true ↔
    (tw z 0 = true ∧ Ex (O l u z 0) (Z l u z 1) (Z l u z 2)) ∨ (tw z 1 = true ∧ Ex (Z l u z 0) (O l u z 1) (Z l u z 2)) ∨ (tw z 2 = true ∧ Ex (Z l u z 0) (Z l u z 1) (O l u z 2)) := by
  have t0 : takesL (pat1 [tk z 0, tk z 1, tk z 2] [sizedW (tk z 0), sizedW (tk z 1), sizedW (tk z 2)] 0) row 0 = true ↔ Ex (O l u z 0) (Z l u z 1) (Z l u z 2) :=
    (takes3 R (ok_t hz 0).2 (ok_t hz 1).1 (ok_t hz 2).1).trans (Ex.iff (mO hz R 0) (mZ hz R 1) (mZ hz R 2))
  have t1 : takesL (pat1 [tk z 0, tk z 1, tk z 2] [sizedW (tk z 0), sizedW (tk z 1), sizedW (tk z 2)] 1) row 0 = true ↔ Ex (Z l u z 0) (O l u z 1) (Z l u z 2) :=
    (takes3 R (ok_t hz 0).1 (ok_t hz 1).2 (ok_t hz 2).1).trans (Ex.iff (mZ hz R 0) (mO hz R 1) (mZ hz R 2))
  have t2 : takesL (pat1 [tk z 0, tk z 1, tk z 2] [sizedW (tk z 0), sizedW (tk z 1), sizedW (tk z 2)] 2) row 0 = true ↔ Ex (Z l u z 0) (Z l u z 1) (O l u z 2) :=
    (takes3 R (ok_t hz 0).1 (ok_t hz 1).1 (ok_t hz 2).2).trans (Ex.iff (mZ hz R 0) (mZ hz R 1) (mO hz R 2))
  rw [← t0, ← t1, ← t2]
  unfold anyT onceP twinsOf
  rw [List.any_eq_true]
  constructor
  · rintro ⟨P, hP, h⟩
    obtain ⟨q, hq, rfl⟩ := List.mem_map.mp hP
    rw [List.mem_filter, List.mem_range] at hq
    obtain ⟨h3, h4⟩ := hq
    match q, h3, h4, h with
    | 0, _, h4, h => exact .inl ⟨h4, h⟩
    | 1, _, h4, h => exact .inr (.inl ⟨h4, h⟩)
    | 2, _, h4, h => exact .inr (.inr ⟨h4, h⟩)
  · rintro (⟨h4, h⟩ | ⟨h4, h⟩ | ⟨h4, h⟩)
    · exact ⟨_, List.mem_map.mpr ⟨0, List.mem_filter.mpr ⟨by simp, h4⟩, rfl⟩, h⟩
    · exact ⟨_, List.mem_map.mpr ⟨1, List.mem_filter.mpr ⟨by simp, h4⟩, rfl⟩, h⟩
    · exact ⟨_, List.mem_map.mpr ⟨2, List.mem_filter.mpr ⟨by simp, h4⟩, rfl⟩, h⟩
theorem twins_len : (twinsOf [tk z 0, tk z 1, tk z 2]).length = (tw z 0).toNat + (tw z 1).toNat + (tw z 2).toNat := by
  have e : twinsOf [tk z 0, tk z 1, tk z 2] = ([0, 1, 2] : List Nat).filter fun q => tw z q := by
    unfold twinsOf
    show List.filter _ [0, 1, 2] = _
    refine List.filter_congr fun q hq => ?_
    simp at hq
    rcases hq with rfl | rfl | rfl <;> rfl
  rw [e]
  rcases h0 : tw z 0 with _ | _ <;> rcases h1 : tw z 1 with _ | _ <;> rcases h2 : tw z 2 with _ | _ <;> simp [h0, h1, h2]
theorem any2 (hz : ∀ m, z m < 16) (R : RowIs row l u) : anyT (twiceP [tk z 0, tk z 1, tk z 2]) row = true ↔
    (Ex (fun _ => True) (Z l u z 1) (Z l u z 2) ∨ Ex (Z l u z 0) (fun _ => True) (Z l u z 2) ∨ Ex (Z l u z 0) (Z l u z 1) (fun _ => True)) ∨
    (1 < (tw z 0).toNat + (tw z 1).toNat + (tw z 2).toNat ∧ (Ex (Z l u z 0) (O l u z 1) (O l u z 2) ∨ Ex (O l u z 0) (Z l u z 1) (O l u z 2) ∨ Ex (O l u z 0) (O l u z 1) (Z l u z 2))) := by
  have a0 : takesL (pat1 [tk z 0, tk z 1, tk z 2] [q3, q3, q3] 0) row 0 = true ↔ Ex (fun _ => True) (Z l u z 1) (Z l u z 2) :=
    (takes3 R pok_q3 (ok_t hz 1).1 (ok_t hz 2).1).trans (Ex.iff (mA R) (mZ hz R 1) (mZ hz R 2))
  have a1 : takesL (pat1 [tk z 0, tk z 1, tk z 2] [q3, q3, q3] 1) row 0 = true ↔ Ex (Z l u z 0) (fun _ => True) (Z l u z 2) :=
    (takes3 R (ok_t hz 0).1 pok_q3 (ok_t hz 2).1).trans (Ex.iff (mZ hz R 0) (mA R) (mZ hz R 2))
  have a2 : takesL (pat1 [tk z 0, tk z 1, tk z 2] [q3, q3, q3] 2) row 0 = true ↔ Ex (Z l u z 0) (Z l u z 1) (fun _ => True) :=
    (takes3 R (ok_t hz 0).1 (ok_t hz 1).1 pok_q3).trans (Ex.iff (mZ hz R 0) (mZ hz R 1) (mA R))
  have b0 : takesL (pat1 [sizedW (tk z 0), sizedW (tk z 1), sizedW (tk z 2)] [tk z 0, tk z 1, tk z 2] 0) row 0 = true ↔ Ex (Z l u z 0) (O l u z 1) (O l u z 2) :=
    (takes3 R (ok_t hz 0).1 (ok_t hz 1).2 (ok_t hz 2).2).trans (Ex.iff (mZ hz R 0) (mO hz R 1) (mO hz R 2))
  have b1 : takesL (pat1 [sizedW (tk z 0), sizedW (tk z 1), sizedW (tk z 2)] [tk z 0, tk z 1, tk z 2] 1) row 0 = true ↔ Ex (O l u z 0) (Z l u z 1) (O l u z 2) :=
    (takes3 R (ok_t hz 0).2 (ok_t hz 1).1 (ok_t hz 2).2).trans (Ex.iff (mO hz R 0) (mZ hz R 1) (mO hz R 2))
  have b2 : takesL (pat1 [sizedW (tk z 0), sizedW (tk z 1), sizedW (tk z 2)] [tk z 0, tk z 1, tk z 2] 2) row 0 = true ↔ Ex (O l u z 0) (O l u z 1) (Z l u z 2) :=
    (takes3 R (ok_t hz 0).2 (ok_t hz 1).2 (ok_t hz 2).1).trans (Ex.iff (mO hz R 0) (mO hz R 1) (mZ hz R 2))
  rw [← a0, ← a1, ← a2, ← b0, ← b1, ← b2]
  unfold anyT twiceP
  rw [twins_len, List.any_append, Bool.or_eq_true]
  have e1 : ∀ A B : List (List Tk), (((List.range 3).map (pat1 A B)).any fun P => takesL P row 0) = (takesL (pat1 A B 0) row 0 || (takesL (pat1 A B 1) row 0 || takesL (pat1 A B 2) row 0)) := fun A B => by
    show (takesL (pat1 A B 0) row 0 || (takesL (pat1 A B 1) row 0 || (takesL (pat1 A B 2) row 0 || false))) = _
    rw [Bool.or_false]
  rw [e1, Bool.or_eq_true, Bool.or_eq_true]
  refine or_congr Iff.rfl ?_
  by_cases h : 1 < (tw z 0).toNat + (tw z 1).toNat + (tw z 2).toNat
  · rw [if_pos h]
    have e2 := e1 ([tk z 0, tk z 1, tk z 2].map sizedW) [tk z 0, tk z 1, tk z 2]
    rw [e2, Bool.or_eq_true, Bool.or_eq_true]
    exact ⟨fun q => ⟨h, q⟩, fun q => q.2⟩
  · rw [if_neg h]
    exact ⟨fun q => (by cases q), fun q => absurd q.1 h⟩
theorem price_due (hz : ∀ m, z m < 16) (R : RowIs row l u) {s t : Nat → Int} (hs : ∀ i, i < 6 → s i = (cdl (l i) (u i) : Nat)) (ht : ∀ m, m < 3 → t m = (cdl (m == 2) (z m) : Nat)) :
    price [tk z 0, tk z 1, tk z 2] row = due s t := by
  have dw : ∀ w, w < 3 → (due s t ≤ w ↔ ∃ i j k, i < j ∧ j < k ∧ k < 6 ∧ cst l u z 0 i + cst l u z 1 j + cst l u z 2 k ≤ w) := fun w hw => by
    rw [due_iff]
    constructor
    · rintro (h | ⟨i, j, k, h1, h2, h3, h4⟩)
      · lia
      · unfold dueK at h4
        rw [hs i (by lia), hs j (by lia), hs k h3, ht 0 (by decide), ht 1 (by decide), ht 2 (by decide)] at h4
        exact ⟨i, j, k, h1, h2, h3, h4⟩
    · rintro ⟨i, j, k, h1, h2, h3, h4⟩
      refine .inr ⟨i, j, k, h1, h2, h3, ?_⟩
      unfold dueK
      rw [hs i (by lia), hs j (by lia), hs k h3, ht 0 (by decide), ht 1 (by decide), ht 2 (by decide)]
      exact h4
  have hr := due_range (s := s) (t := t)
  have cr : ∀ m i, 0 ≤ cst l u z m i ∧ cst l u z m i ≤ 2 := fun m i => cost_range _ _
  have tw1 : ∀ m i, cst l u z m i = 1 → tw z m = true := fun m i h => tw_one _ _ _ (hz m) _ (R.small i) h
  have A0 := any0 (l := l) (u := u) hz R
  have A1 := any1 (l := l) (u := u) hz R
  have A2 := any2 (l := l) (u := u) hz R
  have n0 : ∀ i j k, cst l u z 0 i + cst l u z 1 j + cst l u z 2 k ≤ 0 → i < j → j < k → k < 6 → Ex (Z l u z 0) (Z l u z 1) (Z l u z 2) := fun i j k h h1 h2 h3 => by
    have a := cr 0 i; have b := cr 1 j; have c := cr 2 k
    exact ⟨i, j, k, h1, h2, h3, by unfold Z; lia, by unfold Z; lia, by unfold Z; lia⟩
  have n1 : ∀ i j k, cst l u z 0 i + cst l u z 1 j + cst l u z 2 k = 1 → i < j → j < k → k < 6 → anyT (onceP [tk z 0, tk z 1, tk z 2]) row = true := fun i j k h h1 h2 h3 => by
    have a := cr 0 i; have b := cr 1 j; have c := cr 2 k
    rw [A1]
    by_cases e0 : cst l u z 0 i = 1
    · exact .inl ⟨tw1 0 i e0, i, j, k, h1, h2, h3, by unfold O; lia, by unfold Z; lia, by unfold Z; lia⟩
    · by_cases e1 : cst l u z 1 j = 1
      · exact .inr (.inl ⟨tw1 1 j e1, i, j, k, h1, h2, h3, by unfold Z; lia, by unfold O; lia, by unfold Z; lia⟩)
      · exact .inr (.inr ⟨tw1 2 k (by lia), i, j, k, h1, h2, h3, by unfold Z; lia, by unfold Z; lia, by unfold O; lia⟩)
  have n2 : ∀ i j k, cst l u z 0 i + cst l u z 1 j + cst l u z 2 k = 2 → i < j → j < k → k < 6 → anyT (twiceP [tk z 0, tk z 1, tk z 2]) row = true := fun i j k h h1 h2 h3 => by
    have a := cr 0 i; have b := cr 1 j; have c := cr 2 k
    rw [A2]
    by_cases e0 : cst l u z 0 i = 0
    · by_cases e1 : cst l u z 1 j = 0
      · exact .inl (.inr (.inr ⟨i, j, k, h1, h2, h3, e0, e1, trivial⟩))
      · by_cases e2 : cst l u z 2 k = 0
        · exact .inl (.inr (.inl ⟨i, j, k, h1, h2, h3, e0, trivial, e2⟩))
        · have t1 := tw1 1 j (by lia); have t2 := tw1 2 k (by lia)
          exact .inr ⟨by rw [t1, t2]; show 1 < (tw z 0).toNat + 1 + 1; lia, .inl ⟨i, j, k, h1, h2, h3, e0, by unfold O; lia, by unfold O; lia⟩⟩
    · by_cases e1 : cst l u z 1 j = 0
      · by_cases e2 : cst l u z 2 k = 0
        · exact .inl (.inl ⟨i, j, k, h1, h2, h3, trivial, e1, e2⟩)
        · have t0 := tw1 0 i (by lia); have t2 := tw1 2 k (by lia)
          exact .inr ⟨by rw [t0, t2]; show 1 < 1 + (tw z 1).toNat + 1; lia, .inr (.inl ⟨i, j, k, h1, h2, h3, by unfold O; lia, e1, by unfold O; lia⟩)⟩
      · have t0 := tw1 0 i (by lia); have t1 := tw1 1 j (by lia)
        exact .inr ⟨by rw [t0, t1]; show 1 < 1 + 1 + (tw z 2).toNat; lia, .inr (.inr ⟨i, j, k, h1, h2, h3, by unfold O; lia, by unfold O; lia, by unfold Z; lia⟩)⟩
  have u0 : anyT [[tk z 0, tk z 1, tk z 2]] row = true → due s t ≤ 0 := fun h => by
    obtain ⟨i, j, k, h1, h2, h3, h4, h5, h6⟩ := A0.mp h
    unfold Z at h4 h5 h6
    exact (dw 0 (by decide)).mpr ⟨i, j, k, h1, h2, h3, by lia⟩
  have u1 : anyT (onceP [tk z 0, tk z 1, tk z 2]) row = true → due s t ≤ 1 := fun h => by
    refine (dw 1 (by decide)).mpr ?_
    rcases A1.mp h with ⟨_, i, j, k, h1, h2, h3, h4, h5, h6⟩ | ⟨_, i, j, k, h1, h2, h3, h4, h5, h6⟩ | ⟨_, i, j, k, h1, h2, h3, h4, h5, h6⟩ <;> unfold Z O at * <;> exact ⟨i, j, k, h1, h2, h3, by lia⟩
  have u2 : anyT (twiceP [tk z 0, tk z 1, tk z 2]) row = true → due s t ≤ 2 := fun h => by
    refine (dw 2 (by decide)).mpr ?_
    rcases A2.mp h with (⟨i, j, k, h1, h2, h3, h4, h5, h6⟩ | ⟨i, j, k, h1, h2, h3, h4, h5, h6⟩ | ⟨i, j, k, h1, h2, h3, h4, h5, h6⟩) | ⟨_, ⟨i, j, k, h1, h2, h3, h4, h5, h6⟩ | ⟨i, j, k, h1, h2, h3, h4, h5, h6⟩ | ⟨i, j, k, h1, h2, h3, h4, h5, h6⟩⟩ <;>
      (have a := cr 0 i; have b := cr 1 j; have c := cr 2 k; unfold Z O at *; exact ⟨i, j, k, h1, h2, h3, by lia⟩)
  have l0 : due s t ≤ 0 → anyT [[tk z 0, tk z 1, tk z 2]] row = true := fun h => by
    obtain ⟨i, j, k, h1, h2, h3, h4⟩ := (dw 0 (by decide)).mp h
    exact A0.mpr (n0 i j k h4 h1 h2 h3)
  have l1 : due s t ≤ 1 → anyT [[tk z 0, tk z 1, tk z 2]] row = true ∨ anyT (onceP [tk z 0, tk z 1, tk z 2]) row = true := fun h => by
    obtain ⟨i, j, k, h1, h2, h3, h4⟩ := (dw 1 (by decide)).mp h
    by_cases e : cst l u z 0 i + cst l u z 1 j + cst l u z 2 k ≤ 0
    · exact .inl (A0.mpr (n0 i j k e h1 h2 h3))
    · exact .inr (n1 i j k (by lia) h1 h2 h3)
  have l2 : due s t ≤ 2 → anyT [[tk z 0, tk z 1, tk z 2]] row = true ∨ anyT (onceP [tk z 0, tk z 1, tk z 2]) row = true ∨ anyT (twiceP [tk z 0, tk z 1, tk z 2]) row = true := fun h => by
    obtain ⟨i, j, k, h1, h2, h3, h4⟩ := (dw 2 (by decide)).mp h
    by_cases e : cst l u z 0 i + cst l u z 1 j + cst l u z 2 k ≤ 0
    · exact .inl (A0.mpr (n0 i j k e h1 h2 h3))
    · by_cases e' : cst l u z 0 i + cst l u z 1 j + cst l u z 2 k ≤ 1
      · exact .inr (.inl (n1 i j k (by lia) h1 h2 h3))
      · exact .inr (.inr (n2 i j k (by lia) h1 h2 h3))
  unfold price
  by_cases p0 : anyT [[tk z 0, tk z 1, tk z 2]] row = true
  · rw [if_pos p0]; have := u0 p0; lia
  · rw [if_neg p0]
    have q0 : ¬ due s t ≤ 0 := fun h => p0 (l0 h)
    by_cases p1 : anyT (onceP [tk z 0, tk z 1, tk z 2]) row = true
    · rw [if_pos p1]; have := u1 p1; lia
    · rw [if_neg p1]
      have q1 : ¬ due s t ≤ 1 := fun h => (l1 h).elim p0 p1
      by_cases p2 : anyT (twiceP [tk z 0, tk z 1, tk z 2]) row = true
      · rw [if_pos p2]; have := u2 p2; lia
      · rw [if_neg p2]
        have q2 : ¬ due s t ≤ 2 := fun h => (l2 h).elim p0 fun q => q.elim p1 p2
        lia
end
end Mine
set_option maxHeartbeats 4000000
namespace Mine
theorem wcost_self (x : Str) : wcost x x = 0 := by unfold wcost; rw [if_pos rfl]
theorem getD_mid {P X S : List Str} {i : Nat} (hi : i < X.length) : (P ++ X ++ S).getD (i + P.length) "" = X.getD i "" := by
  rw [List.getD_eq_getElem?_getD, List.getD_eq_getElem?_getD, List.append_assoc, List.getElem?_append_right (by lia), Nat.add_sub_cancel, List.getElem?_append_left hi]
theorem getD_pre {P X S : List Str} {i : Nat} (hi : i < P.length) : (P ++ X ++ S).getD i "" = P.getD i "" := by
  rw [List.getD_eq_getElem?_getD, List.getD_eq_getElem?_getD, List.append_assoc, List.getElem?_append_left hi]
theorem getD_suf {P X S : List Str} {i : Nat} : (P ++ X ++ S).getD (P.length + X.length + i) "" = S.getD i "" := by
  rw [List.getD_eq_getElem?_getD, List.getD_eq_getElem?_getD, List.getElem?_append_right (by simp only [List.length_append]; lia)]
  congr 2; simp only [List.length_append]; lia
theorem Mch.congrE {c c' : Nat → Nat → Int} {m k : Nat} {t : Int} (h : ∀ i j, i < m → j < k → c i j = c' i j) : (∃ w, w ≤ t ∧ Mch c m k w) ↔ ∃ w, w ≤ t ∧ Mch c' m k w :=
  ⟨fun ⟨w, a, b⟩ => ⟨w, a, b.congr h⟩, fun ⟨w, a, b⟩ => ⟨w, a, b.congr fun i j hi hj => (h i j hi hj).symm⟩⟩
/-- equal ends cut off leave the choices' costs -/
theorem cut_ends {Lg Sh P X Y S : List Str} (h1 : Lg = P ++ X ++ S) (h2 : Sh = P ++ Y ++ S) {t : Int} :
    (∃ w, w ≤ t ∧ Mch (lcost Lg Sh) Lg.length Sh.length w) ↔ ∃ w, w ≤ t ∧ Mch (lcost X Y) X.length Y.length w := by
  have e1 : Lg.length = P.length + X.length + S.length := by rw [h1]; simp only [List.length_append]
  have e2 : Sh.length = P.length + Y.length + S.length := by rw [h2]; simp only [List.length_append]
  rw [e1, e2]
  have key := Mch.cut (c := lcost Lg Sh) (p := P.length) (q := S.length) (m := X.length) (k := Y.length) (t := t) (fun i j => (wcost_range _ _).1)
    (fun i hi => by unfold lcost; rw [h1, h2, getD_pre hi, getD_pre hi]; exact wcost_self _)
    (fun i hi => by unfold lcost; rw [h1, h2, getD_suf, getD_suf]; exact wcost_self _)
  rw [key]
  exact Mch.congrE fun i j hi hj => by unfold shift lcost; rw [h1, h2, getD_mid hi, getD_mid hj]
theorem lev_8 {Lg Sh : List Str} (h6 : Lg.length = 6) (h3 : Sh.length = 3) {v : Int} (h : LevS Lg Sh 8 v) : 6 ≤ v ∧ ∀ t : Int, 0 ≤ t → t ≤ 2 → (v ≤ 6 + t ↔ ∃ w, w ≤ t ∧ Mch (lcost Lg Sh) 6 3 w) := by
  obtain ⟨P, X, Y, S, h1, h2, h⟩ := h
  have e1 : Lg.length = P.length + X.length + S.length := by rw [h1]; simp only [List.length_append]
  have e2 : Sh.length = P.length + Y.length + S.length := by rw [h2]; simp only [List.length_append]
  have hM : X.length = Y.length + 3 := by lia
  have hc : ∀ t : Int, (∃ w, w ≤ t ∧ Mch (lcost Lg Sh) 6 3 w) ↔ ∃ w, w ≤ t ∧ Mch (lcost X Y) X.length Y.length w := fun t => by
    have := cut_ends (t := t) h1 h2
    rw [h6, h3] at this
    exact this
  rcases h with ⟨h0, hv⟩ | ⟨hx, hy, hv⟩
  · have hY : Y = [] := by
      rcases h0 with h0 | h0
      · rw [h0] at hM; simp at hM
      · exact h0
    subst hY
    simp only [List.length_nil] at hv hM
    rw [hM] at hv
    have hv6 : v = 6 := by rw [hv]; rfl
    refine ⟨by lia, fun t ht _ => ⟨fun _ => ?_, fun _ => by lia⟩⟩
    rw [hc]
    exact ⟨0, ht, .nil _⟩
  · have hn : 0 < Y.length := List.length_pos_iff.mpr hy
    rw [if_pos (by lia)] at hv
    unfold core at hv
    rw [if_neg (by lia)] at hv
    obtain ⟨l1, l2⟩ := levB_8 (c := lcost X Y) (fun i j => wcost_range _ _) hn hM
    rw [hv]
    refine ⟨l1, fun t _ ht => ?_⟩
    rw [hc]
    exact l2 t ht
theorem lev_6 {Lg Sh : List Str} (h6 : Lg.length = 6) (h3 : Sh.length = 3) {v : Int} (h : LevS Sh Lg 6 v) : 6 ≤ v ∧ (v = 6 ↔ ∃ w, w ≤ 0 ∧ Mch (lcost Lg Sh) 6 3 w) := by
  obtain ⟨P, Y, X, S, h2, h1, h⟩ := h
  have e1 : Lg.length = P.length + X.length + S.length := by rw [h1]; simp only [List.length_append]
  have e2 : Sh.length = P.length + Y.length + S.length := by rw [h2]; simp only [List.length_append]
  have hM : X.length = Y.length + 3 := by lia
  have hc : ∀ t : Int, (∃ w, w ≤ t ∧ Mch (lcost Lg Sh) 6 3 w) ↔ ∃ w, w ≤ t ∧ Mch (lcost X Y) X.length Y.length w := fun t => by
    have := cut_ends (t := t) h1 h2
    rw [h6, h3] at this
    exact this
  rcases h with ⟨h0, hv⟩ | ⟨hy, hx, hv⟩
  · have hY : Y = [] := by
      rcases h0 with h0 | h0
      · exact h0
      · rw [h0] at hM; simp at hM
    subst hY
    simp only [List.length_nil] at hv hM
    rw [hM] at hv
    have hv6 : v = 6 := by rw [hv]; rfl
    refine ⟨by lia, ⟨fun _ => ?_, fun _ => hv6⟩⟩
    rw [hc]
    exact ⟨0, Int.le_refl _, .nil _⟩
  · have hn : 0 < Y.length := List.length_pos_iff.mpr hy
    rw [if_neg (by lia)] at hv
    unfold core at hv
    rw [if_neg (by lia)] at hv
    obtain ⟨l1, l2⟩ := levB_6 (c := lcost X Y) (fun i j => wcost_range _ _) hn hM
    rw [hv]
    refine ⟨l1, ?_⟩
    rw [hc]
    exact l2
theorem mch_due {Lg Sh : List Str} {s t : Nat → Int} (hc : ∀ i m, i < 6 → m < 3 → lcost Lg Sh i m = cost (s i) (t m)) {w : Int} (hw : w < 3) : (∃ x, x ≤ w ∧ Mch (lcost Lg Sh) 6 3 x) ↔ due s t ≤ w := by
  rw [Mch.iff3, due_iff]
  constructor
  · rintro ⟨i, j, k, h1, h2, h3, h4⟩
    refine .inr ⟨i, j, k, h1, h2, h3, ?_⟩
    unfold dueK
    rw [hc i 0 (by lia) (by decide), hc j 1 (by lia) (by decide), hc k 2 h3 (by decide)] at h4
    exact h4
  · rintro (h | ⟨i, j, k, h1, h2, h3, h4⟩)
    · lia
    · refine ⟨i, j, k, h1, h2, h3, ?_⟩
      rw [hc i 0 (by lia) (by decide), hc j 1 (by lia) (by decide), hc k 2 h3 (by decide)]
      exact h4
theorem brkt_L (l : Bool) (v : Nat) : L (brkt (wsrc (tokw l v))) = [60, rch v, wch v, xch l v, 62] := by
  unfold brkt
  rw [L_app, L_app]; rfl
theorem pure_law (a b c : Nat) : PureL a b c := by
  obtain ⟨a0, sa0, ca0, wa0⟩ := word_fig a 0 (by decide)
  obtain ⟨a1, sa1, ca1, wa1⟩ := word_fig a 1 (by decide)
  obtain ⟨a2, sa2, ca2, wa2⟩ := word_fig a 2 (by decide)
  obtain ⟨b0, sb0, cb0, wb0⟩ := word_fig b 0 (by decide)
  obtain ⟨b1, sb1, cb1, wb1⟩ := word_fig b 1 (by decide)
  obtain ⟨b2, sb2, cb2, wb2⟩ := word_fig b 2 (by decide)
  obtain ⟨c0, sc0, cc0, wc0⟩ := word_fig c 0 (by decide)
  obtain ⟨c1, sc1, cc1, wc1⟩ := word_fig c 1 (by decide)
  obtain ⟨c2, sc2, cc2, wc2⟩ := word_fig c 2 (by decide)
  have hu : ∀ i, ([a0, a1, a2, b0, b1, b2] : List Nat).getD i 0 < 16 := fun i => by
    by_cases hi : i < 6
    · exact lt6 (P := fun i => ([a0, a1, a2, b0, b1, b2] : List Nat).getD i 0 < 16) sa0 sa1 sa2 sb0 sb1 sb2 i hi
    · rw [List.getD_eq_getElem?_getD, List.getElem?_eq_none (Nat.le_of_not_lt hi)]; decide
  have hz : ∀ i, ([c0, c1, c2] : List Nat).getD i 0 < 16 := fun i => by
    by_cases hi : i < 3
    · exact lt3 (P := fun i => ([c0, c1, c2] : List Nat).getD i 0 < 16) sc0 sc1 sc2 i hi
    · rw [List.getD_eq_getElem?_getD, List.getElem?_eq_none (Nat.le_of_not_lt hi)]; decide
  have h6 : words6 a b = [wsrc (tokw false a0), wsrc (tokw false a1), wsrc (tokw true a2), wsrc (tokw false b0), wsrc (tokw false b1), wsrc (tokw true b2)] := by
    unfold words6; rw [wa0, wa1, wa2, wb0, wb1, wb2]; rfl
  have h3 : words3 c = [wsrc (tokw false c0), wsrc (tokw false c1), wsrc (tokw true c2)] := by
    unfold words3; rw [wc0, wc1, wc2]; rfl
  have R : RowIs (rowOf a b) (fun i => ([false, false, true, false, false, true] : List Bool).getD i false) (fun i => ([a0, a1, a2, b0, b1, b2] : List Nat).getD i 0) := by
    refine ⟨?_, hu⟩
    unfold rowOf
    rw [show ("" : Str) = ⟨#[]⟩ from rfl, L_join', h6]
    simp only [List.map_cons, List.map_nil, brkt_L]
    rfl
  have hs : ∀ i, i < 6 → code6 a b i = (cdl (([false, false, true, false, false, true] : List Bool).getD i false) (([a0, a1, a2, b0, b1, b2] : List Nat).getD i 0) : Nat) := lt6 ca0 ca1 ca2 cb0 cb1 cb2
  have ht : ∀ m, m < 3 → code (c : Int) m = (cdl (m == 2) (([c0, c1, c2] : List Nat).getD m 0) : Nat) := lt3 cc0 cc1 cc2
  have hlc : ∀ i m, i < 6 → m < 3 → lcost (words6 a b) (words3 c) i m = cost (code6 a b i) (code (c : Int) m) := fun i m hi hm => by
    rw [hs i hi, ht m hm, ← wcost_eq (hu i) (hz m)]
    unfold lcost
    rw [h6, h3]
    have Z : ∀ i < 6, ∀ m < 3, wcost (([wsrc (tokw false a0), wsrc (tokw false a1), wsrc (tokw true a2), wsrc (tokw false b0), wsrc (tokw false b1), wsrc (tokw true b2)] : List Str).getD i "") (([wsrc (tokw false c0), wsrc (tokw false c1), wsrc (tokw true c2)] : List Str).getD m "") =
        wcost (wsrc (tokw (([false, false, true, false, false, true] : List Bool).getD i false) (([a0, a1, a2, b0, b1, b2] : List Nat).getD i 0))) (wsrc (tokw (m == 2) (([c0, c1, c2] : List Nat).getD m 0))) :=
      lt6 (lt3 rfl rfl rfl) (lt3 rfl rfl rfl) (lt3 rfl rfl rfl) (lt3 rfl rfl rfl) (lt3 rfl rfl rfl) (lt3 rfl rfl rfl)
    exact Z i hi m hm
  have hr := due_range (s := code6 a b) (t := code (c : Int))
  refine ⟨⟨_, _, _, plain_tok, plain_tok, plain_tok, wc0, wc1, wc2, ?_⟩, fun v hv => ?_, fun v hv => ?_, ?_, ?_⟩
  · exact price_due (z := fun m => ([c0, c1, c2] : List Nat).getD m 0) hz R hs ht
  · obtain ⟨q0, q⟩ := lev_8 (Lg := words6 a b) (Sh := words3 c) rfl rfl hv
    have k0 := (q 0 (by decide) (by decide)).trans (mch_due hlc (by decide))
    have k1 := (q 1 (by decide) (by decide)).trans (mch_due hlc (by decide))
    have k2 := (q 2 (by decide) (by decide)).trans (mch_due hlc (by decide))
    lia
  · obtain ⟨q0, q⟩ := lev_6 (Lg := words6 a b) (Sh := words3 c) rfl rfl hv
    have k0 := q.trans (mch_due hlc (by decide))
    exact ⟨q0, k0.trans ⟨fun h => by lia, fun h => by lia⟩⟩
  · intro w hw
    rw [h6] at hw
    simp only [List.mem_cons, List.not_mem_nil, or_false] at hw
    rcases hw with rfl | rfl | rfl | rfl | rfl | rfl
    · exact low_short sa0
    · exact low_short sa1
    · exact low_short sa2
    · exact low_short sb0
    · exact low_short sb1
    · exact low_short sb2
  · intro w hw
    rw [h3] at hw
    simp only [List.mem_cons, List.not_mem_nil, or_false] at hw
    rcases hw with rfl | rfl | rfl
    · exact low_short sc0
    · exact low_short sc1
    · exact low_short sc2
end Mine
set_option maxHeartbeats 4000000
namespace Mine
theorem recs_eq : recsOf Mine.view = recsOf PySem.Challenge.pw_rt0035_01 := by rfl
noncomputable abbrev KW (w : World) : Frag := Mine.hd.heap_1 w.params
/-- where the table of the modes' signs stands -/
noncomputable def tabA : List Addr := [77, 78, 79, 80, 81, 82, 83, 85, 87, 89, 90, 91, 93, 95, 97, 98, 99, 101, 103, 105, 106, 107, 84, 86, 88, 92, 94, 96, 100, 102, 104, 108, 109]
theorem tab_all {w : World} {mg : Str → Option Value} {α : List Addr} {h : Heap} (hα : tabA <+: α) (X : ∀ a ∈ tabA, ∀ o, (KW w).lookup a = some o → h.get? a = some o) : All2 (fun o a => OAt mg α h a o) hpT tabA :=
   .cons (show OAt mg α h _ (.tup true _) from ⟨[_, _], ⟨_, X 77 (by decide) _ rfl, rfl, _, rfl⟩, .cons ⟨_, rfl⟩ (.cons ⟨_, rfl⟩ .nil)⟩) (
   .cons (show OAt mg α h _ (.tup true _) from ⟨[_, _], ⟨_, X 78 (by decide) _ rfl, rfl, _, rfl⟩, .cons ⟨_, rfl⟩ (.cons ⟨_, rfl⟩ .nil)⟩) (
   .cons (show OAt mg α h _ (.tup true _) from ⟨[_, _], ⟨_, X 79 (by decide) _ rfl, rfl, _, rfl⟩, .cons ⟨_, rfl⟩ (.cons ⟨_, rfl⟩ .nil)⟩) (
   .cons (show OAt mg α h _ (.tup true _) from ⟨[_, _], ⟨_, X 80 (by decide) _ rfl, rfl, _, rfl⟩, .cons ⟨_, rfl⟩ (.cons ⟨_, rfl⟩ .nil)⟩) (
   .cons (show OAt mg α h _ (.tup true _) from ⟨[_, _], ⟨_, X 81 (by decide) _ rfl, rfl, _, rfl⟩, .cons ⟨_, rfl⟩ (.cons ⟨_, rfl⟩ .nil)⟩) (
   .cons (show OAt mg α h _ (.tup true _) from ⟨[_, _], ⟨_, X 82 (by decide) _ rfl, rfl, _, rfl⟩, .cons ⟨_, rfl⟩ (.cons ⟨_, rfl⟩ .nil)⟩) (
   .cons (show OAt mg α h _ (.tup true _) from ⟨[_, _], ⟨_, X 83 (by decide) _ rfl, rfl, _, rfl⟩, .cons ⟨_, rfl⟩ (.cons ⟨_, rfl⟩ .nil)⟩) (
   .cons (show OAt mg α h _ (.tup true _) from ⟨[_, _], ⟨_, X 85 (by decide) _ rfl, rfl, _, rfl⟩, .cons ⟨_, rfl⟩ (.cons ⟨_, rfl⟩ .nil)⟩) (
   .cons (show OAt mg α h _ (.tup true _) from ⟨[_, _], ⟨_, X 87 (by decide) _ rfl, rfl, _, rfl⟩, .cons ⟨_, rfl⟩ (.cons ⟨_, rfl⟩ .nil)⟩) (
   .cons (show OAt mg α h _ (.tup true _) from ⟨[_, _], ⟨_, X 89 (by decide) _ rfl, rfl, _, rfl⟩, .cons ⟨_, rfl⟩ (.cons ⟨_, rfl⟩ .nil)⟩) (
   .cons (show OAt mg α h _ (.tup true _) from ⟨[_, _], ⟨_, X 90 (by decide) _ rfl, rfl, _, rfl⟩, .cons ⟨_, rfl⟩ (.cons ⟨_, rfl⟩ .nil)⟩) (
   .cons (show OAt mg α h _ (.tup true _) from ⟨[_, _], ⟨_, X 91 (by decide) _ rfl, rfl, _, rfl⟩, .cons ⟨_, rfl⟩ (.cons ⟨_, rfl⟩ .nil)⟩) (
   .cons (show OAt mg α h _ (.tup true _) from ⟨[_, _], ⟨_, X 93 (by decide) _ rfl, rfl, _, rfl⟩, .cons ⟨_, rfl⟩ (.cons ⟨_, rfl⟩ .nil)⟩) (
   .cons (show OAt mg α h _ (.tup true _) from ⟨[_, _], ⟨_, X 95 (by decide) _ rfl, rfl, _, rfl⟩, .cons ⟨_, rfl⟩ (.cons ⟨_, rfl⟩ .nil)⟩) (
   .cons (show OAt mg α h _ (.tup true _) from ⟨[_, _], ⟨_, X 97 (by decide) _ rfl, rfl, _, rfl⟩, .cons ⟨_, rfl⟩ (.cons ⟨_, rfl⟩ .nil)⟩) (
   .cons (show OAt mg α h _ (.tup true _) from ⟨[_, _], ⟨_, X 98 (by decide) _ rfl, rfl, _, rfl⟩, .cons ⟨_, rfl⟩ (.cons ⟨_, rfl⟩ .nil)⟩) (
   .cons (show OAt mg α h _ (.tup true _) from ⟨[_, _], ⟨_, X 99 (by decide) _ rfl, rfl, _, rfl⟩, .cons ⟨_, rfl⟩ (.cons ⟨_, rfl⟩ .nil)⟩) (
   .cons (show OAt mg α h _ (.tup true _) from ⟨[_, _], ⟨_, X 101 (by decide) _ rfl, rfl, _, rfl⟩, .cons ⟨_, rfl⟩ (.cons ⟨_, rfl⟩ .nil)⟩) (
   .cons (show OAt mg α h _ (.tup true _) from ⟨[_, _], ⟨_, X 103 (by decide) _ rfl, rfl, _, rfl⟩, .cons ⟨_, rfl⟩ (.cons ⟨_, rfl⟩ .nil)⟩) (
   .cons (show OAt mg α h _ (.tup true _) from ⟨[_, _], ⟨_, X 105 (by decide) _ rfl, rfl, _, rfl⟩, .cons ⟨_, rfl⟩ (.cons ⟨_, rfl⟩ .nil)⟩) (
   .cons (show OAt mg α h _ (.tup true _) from ⟨[_, _], ⟨_, X 106 (by decide) _ rfl, rfl, _, rfl⟩, .cons ⟨_, rfl⟩ (.cons ⟨_, rfl⟩ .nil)⟩) (
   .cons (show OAt mg α h _ (.tup true _) from ⟨[_, _], ⟨_, X 107 (by decide) _ rfl, rfl, _, rfl⟩, .cons ⟨_, rfl⟩ (.cons ⟨_, rfl⟩ .nil)⟩) (
   .cons (show OAt mg α h _ (.tup true _) from ⟨[_, _, _, _, _, _, _], ⟨_, X 84 (by decide) _ rfl, rfl, _, rfl⟩, .cons ⟨_, pre_get hα rfl, rfl⟩ (.cons ⟨_, pre_get hα rfl, rfl⟩ (.cons ⟨_, pre_get hα rfl, rfl⟩ (.cons ⟨_, pre_get hα rfl, rfl⟩ (.cons ⟨_, pre_get hα rfl, rfl⟩ (.cons ⟨_, pre_get hα rfl, rfl⟩ (.cons ⟨_, pre_get hα rfl, rfl⟩ (.nil)))))))⟩) (
   .cons (show OAt mg α h _ (.tup true _) from ⟨[_], ⟨_, X 86 (by decide) _ rfl, rfl, _, rfl⟩, .cons ⟨_, pre_get hα rfl, rfl⟩ (.nil)⟩) (
   .cons (show OAt mg α h _ (.tup true _) from ⟨[_], ⟨_, X 88 (by decide) _ rfl, rfl, _, rfl⟩, .cons ⟨_, pre_get hα rfl, rfl⟩ (.nil)⟩) (
   .cons (show OAt mg α h _ (.tup true _) from ⟨[_, _, _], ⟨_, X 92 (by decide) _ rfl, rfl, _, rfl⟩, .cons ⟨_, pre_get hα rfl, rfl⟩ (.cons ⟨_, pre_get hα rfl, rfl⟩ (.cons ⟨_, pre_get hα rfl, rfl⟩ (.nil)))⟩) (
   .cons (show OAt mg α h _ (.tup true _) from ⟨[_], ⟨_, X 94 (by decide) _ rfl, rfl, _, rfl⟩, .cons ⟨_, pre_get hα rfl, rfl⟩ (.nil)⟩) (
   .cons (show OAt mg α h _ (.tup true _) from ⟨[_], ⟨_, X 96 (by decide) _ rfl, rfl, _, rfl⟩, .cons ⟨_, pre_get hα rfl, rfl⟩ (.nil)⟩) (
   .cons (show OAt mg α h _ (.tup true _) from ⟨[_, _, _], ⟨_, X 100 (by decide) _ rfl, rfl, _, rfl⟩, .cons ⟨_, pre_get hα rfl, rfl⟩ (.cons ⟨_, pre_get hα rfl, rfl⟩ (.cons ⟨_, pre_get hα rfl, rfl⟩ (.nil)))⟩) (
   .cons (show OAt mg α h _ (.tup true _) from ⟨[_], ⟨_, X 102 (by decide) _ rfl, rfl, _, rfl⟩, .cons ⟨_, pre_get hα rfl, rfl⟩ (.nil)⟩) (
   .cons (show OAt mg α h _ (.tup true _) from ⟨[_], ⟨_, X 104 (by decide) _ rfl, rfl, _, rfl⟩, .cons ⟨_, pre_get hα rfl, rfl⟩ (.nil)⟩) (
   .cons (show OAt mg α h _ (.tup true _) from ⟨[_, _, _], ⟨_, X 108 (by decide) _ rfl, rfl, _, rfl⟩, .cons ⟨_, pre_get hα rfl, rfl⟩ (.cons ⟨_, pre_get hα rfl, rfl⟩ (.cons ⟨_, pre_get hα rfl, rfl⟩ (.nil)))⟩) (
   .cons (show OAt mg α h _ (.tup true _) from ⟨[_, _, _, _, _, _, _, _, _, _], ⟨_, X 109 (by decide) _ rfl, rfl, _, rfl⟩, .cons ⟨_, pre_get hα rfl, rfl⟩ (.cons ⟨_, pre_get hα rfl, rfl⟩ (.cons ⟨_, pre_get hα rfl, rfl⟩ (.cons ⟨_, pre_get hα rfl, rfl⟩ (.cons ⟨_, pre_get hα rfl, rfl⟩ (.cons ⟨_, pre_get hα rfl, rfl⟩ (.cons ⟨_, pre_get hα rfl, rfl⟩ (.cons ⟨_, pre_get hα rfl, rfl⟩ (.cons ⟨_, pre_get hα rfl, rfl⟩ (.cons ⟨_, pre_get hα rfl, rfl⟩ (.nil))))))))))⟩) .nil))))))))))))))))))))))))))))))))
theorem tab_obj {w : World} {mg : Str → Option Value} {α : List Addr} {h : Heap} (hα : tabA <+: α) (X : ∀ a ∈ tabA, ∀ o, (KW w).lookup a = some o → h.get? a = some o) : ∀ (i : Nat) (o : AO) (a : Addr), hpT[i]? = some o → tabA[i]? = some a → OAt mg α h a o := by
  intro i o a e1 e2
  obtain ⟨b, eb, r⟩ := (tab_all hα X).get e1
  rw [e2] at eb
  cases eb
  exact r
noncomputable def isTupB (o : Option Obj) : Bool := match o with
  | some ⟨.type t, _, .seq _ _, _⟩ => t == "tuple"
  | _ => false
theorem isTup_of {o : Option Obj} (h : isTupB o = true) : ∃ o' vs n, o = some o' ∧ o'.cls = .type "tuple" ∧ o'.data = .seq vs n := by
  unfold isTupB at h
  split at h
  · exact ⟨_, _, _, rfl, by rw [beq_iff_eq] at h; rw [h], rfl⟩
  · cases h
theorem tab_tuple {w : World} : ∀ a ∈ tabA, ∃ o vs n, (KW w).lookup a = some o ∧ o.cls = .type "tuple" ∧ o.data = .seq vs n := by
  have h : (tabA.all fun a => isTupB ((KW w).lookup a)) = true := by rfl
  exact fun a ha => isTup_of (List.all_eq_true.mp h a ha)
theorem tabA_nodup : tabA.Nodup := by decide
end Mine
set_option maxHeartbeats 4000000
namespace Mine
noncomputable abbrev GH (s₁ : Shared) : Heap := ghostOf s₁.heap [(54, 50)]
noncomputable def fixB (s₁ : Shared) (w4 : Addr) (b : Addr) : Option Obj := if b ∈ tabA ++ [w4] then none else (GH s₁).get? b
noncomputable def fixF (s₁ : Shared) (w4 : Addr) (b : Addr) : Option Obj := if b ∈ tabA ++ [w4] then (GH s₁).get? b else none
/-- what the top has left, as the join needs it -/
structure Left (w : World) (s₁ : Shared) (mg mb : Str → Option Value) (w4 : Addr) (loose : List Str) (mean : ExcName → Option Value) : Prop where
  T : Top Mine.view loose mean mg mb s₁.heap
  X : (KW w).In s₁.heap
  tabs : TabsAt [(54, 50)] s₁.heap
  list : ∃ items, s₁.heap.IsList w4 items
section
variable {w : World} {s₁ : Shared} {mg mb : Str → Option Value} {w4 : Addr} {loose : List Str} {mean : ExcName → Option Value}
theorem Left.fix (Z : Left w s₁ mg mb w4 loose mean) {b : Addr} {o : Obj} (e : s₁.heap.get? b = some o) (h1 : b ∉ tabA) (h2 : o.cls ≠ .type "list") (h3 : o ≠ tabObj #[]) : fixB s₁ w4 b = some o := by
  unfold fixB
  rw [if_neg]
  · exact ghost_get Z.tabs e h3
  · intro q
    rcases List.mem_append.mp q with q | q
    · exact h1 q
    · simp at q; subst q
      obtain ⟨items, o', e', hc, _⟩ := Z.list
      rw [e] at e'; cases e'; exact h2 hc
theorem Left.fixD (Z : Left w s₁ mg mb w4 loose mean) {b : Addr} {o : Obj} (e : s₁.heap.get? b = some o) (h1 : ∀ vs n, o.data ≠ .seq vs n) (h3 : o ≠ tabObj #[]) : fixB s₁ w4 b = some o := by
  unfold fixB
  rw [if_neg]
  · exact ghost_get Z.tabs e h3
  · intro q
    rcases List.mem_append.mp q with q | q
    · obtain ⟨o', vs, n, k1, _, k3⟩ := tab_tuple (w := w) b q
      have := Z.X _ _ k1
      rw [e] at this; cases this; exact h1 _ _ k3
    · simp at q; subst q
      obtain ⟨items, o', e', _, n, hd⟩ := Z.list
      rw [e] at e'; cases e'; exact h1 _ _ hd
theorem Left.facts (Z : Left w s₁ mg mb w4 loose mean) (h : Heap) (hb : ∀ b o, fixB s₁ w4 b = some o → h.get? b = some o) : Facts PySem.Challenge.pw_rt0035_01 [] mg h where
  g := by
    obtain ⟨o, es, ep, e, hd, r⟩ := Z.T.g
    exact ⟨o, es, ep, hb _ _ (Z.fixD e (by rw [hd]; nofun) (fun q => by rw [q] at hd; cases hd)), hd, r⟩
  b := by
    obtain ⟨o, es, ep, e, hd, r⟩ := Z.T.b
    exact ⟨mb, ⟨o, es, ep, hb _ _ (Z.fixD e (by rw [hd]; nofun) (fun q => by rw [q] at hd; cases hd)), hd, r⟩, Z.T.builtins⟩
  nolimit := by
    obtain ⟨mc, ⟨o, es, ep, e, hd, r⟩, hm⟩ := Z.T.nolimit
    exact ⟨mc, ⟨o, es, ep, hb _ _ (Z.fixD e (by rw [hd]; nofun) (fun q => by rw [q] at hd; cases hd)), hd, r⟩, hm⟩
  fn := fun d hd => by
    rw [← recs_eq] at hd
    obtain ⟨a, o, pm, code, doc, h1, h2, h3, c, oc, vs, t, h4, h5, h6, h7⟩ := Z.T.fn d hd
    refine ⟨a, o, pm, code, doc, h1, hb _ _ (Z.fixD h2 (by rw [h3]; nofun) (fun q => by rw [q] at h3; cases h3)), h3, c, oc, vs, t, h4, hb _ _ (Z.fixD h5 (by rw [h6]; nofun) (fun q => ?_)), h6, h7⟩
    rw [q] at h6
    cases h6
    cases h7
  kin := fun a o e => by cases e
/-- the join's ground -/
noncomputable def SX (Z : Left w s₁ mg mb w4 loose mean) (s0 : Shared) : Sx where
  prog := PySem.Challenge.pw_rt0035_01
  w := w
  K := []
  mg := mg
  tp := 50
  TI := LamTI
  s0 := s0
  fzo := fixF s₁ w4
  st := tabA
  bpro := fixB s₁ w4
  facts := Z.facts
theorem Left.at (Z : Left w s₁ mg mb w4 loose mean) {a : Addr} {o : Obj} (e : (KW w).lookup a = some o) (h1 : a ∉ tabA) (h2 : o.cls ≠ .type "list") (h3 : o ≠ tabObj #[]) {h : Heap} (hb : ∀ b o, fixB s₁ w4 b = some o → h.get? b = some o) : h.get? a = some o :=
  hb _ _ (Z.fix (Z.X _ _ e) h1 h2 h3)
theorem sx_ok (Z : Left w s₁ mg mb w4 loose mean) (s0 : Shared) : Ok (SX Z s0) where
  prog := rfl
  nob := fun x hx => by
    show mg x = none
    simp only [List.mem_cons, List.not_mem_nil, or_false] at hx
    rcases hx with rfl | rfl | rfl | rfl | rfl | rfl | rfl | rfl
    all_goals exact ns_none_of Z.X Z.T.g (by rfl)
  mv := ⟨_, mg_of Z.X Z.T.g (by rfl)⟩
  cc := ⟨_, mg_of Z.X Z.T.g (by rfl)⟩
  ms := ⟨_, mg_of Z.X Z.T.g (by rfl)⟩
theorem sx_fm (Z : Left w s₁ mg mb w4 loose mean) (s0 : Shared) : FmOk (SX Z s0) := ⟨109, mg_of Z.X Z.T.g (by rfl), rfl⟩
theorem sx_twin (Z : Left w s₁ mg mb w4 loose mean) (s0 : Shared) : TwinOk (SX Z s0) 36 where
  mg := mg_of Z.X Z.T.g (by rfl)
  stands := fun h hb => by
    obtain ⟨o, ho⟩ : ∃ o, (KW w).lookup 35 = some o := ⟨_, rfl⟩
    have e35 := Z.at ho (by decide) (by cases ho; nofun) (by cases ho; nofun) hb
    have e36 := Z.at (a := 36) (o := _) rfl (by decide) (by nofun) (by nofun) hb
    exact ⟨35, _, _, o, 0, e36, e35, by cases ho; rfl⟩
theorem sx_lam (Z : Left w s₁ mg mb w4 loose mean) (s0 : Shared) : LamOk (SX Z s0) 54 where
  hd := fun h hb => by
    obtain ⟨⟨o, vs, file, tf, flags, tg, inF, text, tt, e1, e2, e3, r⟩, _⟩ := Z.tabs (54, 50) (by simp)
    exact ⟨o, vs, file, tf, flags, tg, inF, text, tt, hb _ _ (Z.fixD e1 (by rw [e3]; nofun) (fun q => by rw [q] at e2; cases e2)), e2, e3, r⟩
  bi := fun h hb => by
    obtain ⟨bm, ob, h1, h2, h3, h4, h5, h6⟩ := Z.T.bmain
    have n3 : bm ≠ mainGlobals := fun q => by
      obtain ⟨o, es, ep, e, hd, _⟩ := Z.T.g
      rw [← q, h3] at e; cases e; rw [h6] at hd; cases hd
    have n50 : bm ≠ 50 := fun q => by
      have := (Z.tabs (54, 50) (by simp)).2
      rw [← q, h3] at this; cases this; cases h6
    exact ⟨bm, ob, h1, h2, n3, n50, hb _ _ (Z.fixD h3 (by rw [h6]; nofun) (fun q => by rw [q] at h6; cases h6)), h4, h5, h6⟩
  ne := by show (3 : Nat) ≠ 50; decide
  ti := fun _ => Iff.rfl
  code := fun code ⟨h, hb, a, o, pm, doc, h1, h2, h3⟩ => by
    have e1 : mg "_translate" = some (.ref 55) := mg_of Z.X Z.T.g (by rfl)
    have h1' : mg (recAt 1).name = some (.ref a) := h1
    rw [nm1] at h1'
    have e2 : (some (Value.ref a) : Option Value) = some (.ref 55) := h1'.symm.trans e1
    cases e2
    obtain ⟨ob, fd, k1, k2, k3⟩ : ∃ ob fd, (KW w).lookup 55 = some ob ∧ ob.data = .func fd ∧ fd.code = .ref 54 := ⟨_, _, rfl, rfl, rfl⟩
    have e3 := Z.at k1 (by decide) (by cases k1; nofun) (by cases k1; nofun) hb
    rw [h2] at e3
    cases e3
    rw [h3] at k2
    cases k2
    exact k3
noncomputable def escEs (w : World) : Array DictEntry := match (KW w).lookup 38 with
  | some ⟨_, _, .dict es _, _⟩ => es
  | _ => #[]
theorem sx_esc (Z : Left w s₁ mg mb w4 loose mean) (s0 : Shared) : EscOk (SX Z s0) 38 (findBy (intKind PySem.Challenge.pw_rt0035_01 w).is (escEs w)) where
  mg := mg_of Z.X Z.T.g (by rfl)
  sys := by decide
  stands := fun h hb => by
    obtain ⟨o, ep, k1, k2, k3⟩ : ∃ o ep, (KW w).lookup 38 = some o ∧ o.ExactDict ∧ o.data = .dict (escEs w) ep := ⟨_, _, rfl, ⟨rfl, rfl, rfl⟩, rfl⟩
    have e := Z.at k1 (by decide) (by rw [k2.1]; nofun) (fun q => by rw [q] at k3; cases k3) hb
    refine ⟨o, _, ep, e, k2, k3, ?_, fun k => rfl⟩
    intro en hen
    have hall : ((escEs w).toList.all fun e => match e.key with | .int k _ => e.hash == hashInt k | _ => false) = true := by rfl
    have := List.all_eq_true.mp hall en (Array.mem_toList_iff.mpr hen)
    obtain ⟨hs, ky, vl⟩ := en
    cases ky with
    | int k t => exact ⟨k, by show (k == k) = true; simp, beq_iff_eq.mp this⟩
    | _ => cases this
  hyphen := ⟨_, by rfl⟩
  other := fun c hc => by
    simp only [List.mem_cons, List.not_mem_nil, or_false] at hc
    rcases hc with rfl | rfl | rfl | rfl | rfl | rfl | rfl | rfl | rfl
    all_goals rfl
end
end Mine
set_option maxHeartbeats 4000000
namespace Mine
theorem ints_rel {mg α} : ∀ {vs : List Value} {ns : List Int}, IntsAre vs ns → VsRel mg α (ns.map PV.int) vs
  | _, _, .nil => .nil
  | _, _, .cons _ _ h => .cons ⟨_, rfl⟩ (ints_rel h)
noncomputable abbrev lawEnv (s₁ : Shared) (fa : Addr) (cd : Value) : Env := envOfC (recAt 16).name (recAt 16).scope s₁.heap.objs.size fa cd
section
variable {w : World} {s₁ : Shared} {mg mb : Str → Option Value} {w4 : Addr} {loose : List Str} {mean : ExcName → Option Value}
noncomputable def CX (Z : Left w s₁ mg mb w4 loose mean) (s0 : Shared) (fa : Addr) (cd : Value) : Cx where
  toSx := SX Z s0
  A := callerA.deeper (lawEnv s₁ fa cd)
  env := lawEnv s₁ fa cd
  kind := rfl
  glob := rfl
  bi := rfl
  hd := rfl
  lv := 4
  room := ⟨(by decide : callerA.depth + 1 + 4 < recursionLimit), (by decide : callerA.units + 3 + 8 * 4 + 8 < cLine)⟩
theorem law_cells {fa : Addr} {cd : Value} : (lawEnv s₁ fa cd).cells = ([("starts", s₁.heap.objs.size + 1 + 1), ("script", s₁.heap.objs.size + 1)] : List (Str × Addr)) := by rfl
theorem Left.old (Z : Left w s₁ mg mb w4 loose mean) {a : Addr} (h : a ∈ tabA ++ [w4]) : ∃ o, s₁.heap.get? a = some o ∧ o ≠ tabObj #[] := by
  rcases List.mem_append.mp h with q | q
  · obtain ⟨o, vs, n, k1, k2, k3⟩ := tab_tuple (w := w) a q
    exact ⟨o, Z.X _ _ k1, fun q => by rw [q] at k2; cases k2⟩
  · simp at q; subst q
    obtain ⟨items, o, e, hc, _⟩ := Z.list
    exact ⟨o, e, fun q => by rw [q] at hc; cases hc⟩
theorem Left.ghost (Z : Left w s₁ mg mb w4 loose mean) {a : Addr} (h : a ∈ tabA ++ [w4]) : ∃ o, s₁.heap.get? a = some o ∧ (GH s₁).get? a = some o := by
  obtain ⟨o, e, hn⟩ := Z.old h
  exact ⟨o, e, ghost_get Z.tabs e hn⟩
theorem Left.notin (Z : Left w s₁ mg mb w4 loose mean) : w4 ∉ tabA := fun q => by
  obtain ⟨o', vs, n, k1, k2, _⟩ := tab_tuple (w := w) w4 q
  have := Z.X _ _ k1
  obtain ⟨items, o, e, hc, _⟩ := Z.list
  rw [this] at e; cases e; rw [k2] at hc; exact (by nofun : (Value.type "tuple") ≠ .type "list") hc
noncomputable def sig0 (ns : List Int) : AS := ⟨fun _ => none, fun x => if x = "script" then some (.ref 33) else none, hpT ++ [.list true (ns.map PV.int)]⟩
theorem ghost_none {b : Addr} (h : s₁.heap.get? b = none) : (GH s₁).get? b = none := ghost_fresh h
theorem fix_none {b : Addr} (h : (GH s₁).get? b = none) : fixB s₁ w4 b = none ∧ fixF s₁ w4 b = none := by
  unfold fixB fixF
  split <;> exact ⟨by first | rfl | exact h, by first | rfl | exact h⟩
theorem fixB_get {b : Addr} {o : Obj} (h : fixB s₁ w4 b = some o) : (GH s₁).get? b = some o ∧ b ∉ tabA ++ [w4] := by
  unfold fixB at h
  split at h
  · cases h
  · rename_i q; exact ⟨h, q⟩
theorem fixF_get {b : Addr} {o : Obj} (h : fixF s₁ w4 b = some o) : (GH s₁).get? b = some o ∧ b ∈ tabA ++ [w4] := by
  unfold fixF at h
  split at h
  · rename_i q; exact ⟨h, q⟩
  · cases h
theorem fz_all {ns : List Int} : ∀ (i : Nat) (o : AO), (hpT ++ [AO.list true (ns.map PV.int)])[i]? = some o → o.fz = true := by
  intro i o e
  have h := List.mem_of_getElem? e
  rcases List.mem_append.mp h with h | h
  · have : hpT.all (fun o => o.fz) = true := by rfl
    exact List.all_eq_true.mp this o h
  · simp at h; subst h; rfl
theorem rel0 (Z : Left w s₁ mg mb w4 loose mean) {fa : Addr} {cd : Value} {h₁ : Heap} {tk : Tok} {m : Str → Option Value} {oS oP : Obj} {w3 : List Value} {ns : List Int}
    (hL : s₁.heap.IsList w4 w3.toArray) (hI : IntsAre w3 ns) (hoS : oS.data = .cell none) (hoP : oP.data = .cell (some (.ref w4))) (F : Fr (GH s₁) s₁.heap.objs.size h₁ m)
    (N : News (GH s₁) s₁.heap.objs.size h₁ [(s₁.heap.objs.size + 1 + 1, oS), (s₁.heap.objs.size + 1, oP), (50, tabObj #[])]) :
    Rel (CX Z { s₁ with heap := h₁, toks := tk } fa cd) (fixB s₁ w4) (sig0 ns) (tabA ++ [w4]) { s₁ with heap := h₁, toks := tk + 1 } := by
  have hsz : s₁.heap.get? s₁.heap.objs.size = none := get_size_none
  have hold : ∀ a ∈ tabA ++ [w4], a < s₁.heap.objs.size := fun a ha => by obtain ⟨o, e, _⟩ := Z.old ha; exact Heap.lt_size e
  have hS := N _ (List.mem_cons_self)
  have hP := N _ (List.mem_cons_of_mem _ List.mem_cons_self)
  have hT := N _ (List.mem_cons_of_mem _ (List.mem_cons_of_mem _ List.mem_cons_self))
  refine ⟨Nat.succ_pos _, fun _ _ e => e, rfl, fun b o e => F.keep b o (fixB_get e).1, List.prefix_append _ _, ?_, ?_, ?_, fun b o e => F.keep b o (fixF_get e).1, fun b o e => ?_, fun a ha => if_pos ha, ?_, ?_, fix_none (ghost_none hsz), ⟨m, F.ns, fun x pv e => by cases e⟩, ?_, ?_, ?_, ?_⟩
  · show (tabA ++ [w4]).length = (hpT ++ [_]).length
    rfl
  · rw [List.nodup_append]
    refine ⟨tabA_nodup, by simp, fun x hx y hy => ?_⟩
    simp at hy; subst hy
    rintro rfl; exact Z.notin hx
  · intro a ha
    obtain ⟨o, _, e⟩ := Z.ghost ha
    exact ⟨o, F.keep _ _ e⟩
  · show fixF s₁ w4 b = none
    unfold fixF; exact if_neg (fixB_get e).2
  · intro i a o e1 e2 hf
    rw [fz_all i o e2] at hf; cases hf
  · exact fun q => absurd (hold _ q) (Nat.lt_irrefl _)
  · intro i o a e1 e2
    by_cases hi : i < 33
    · have hl : tabA.length = 33 := rfl
      have hl2 : hpT.length = 33 := rfl
      refine tab_obj (w := w) (List.prefix_append _ _) (fun a ha o e => ?_) i o a ?_ ?_
      · obtain ⟨o', e', eg⟩ := Z.ghost (List.mem_append_left _ ha)
        have := Z.X _ _ e
        rw [this] at e'; cases e'
        exact F.keep _ _ eg
      · have : (hpT ++ [AO.list true (ns.map PV.int)])[i]? = some o := e1
        rw [List.getElem?_append_left (by omega)] at this; exact this
      · rw [List.getElem?_append_left (by omega)] at e2; exact e2
    · have h33 : i = 33 := by
        have := get_lt e2
        have hl : (tabA ++ [w4]).length = 34 := rfl
        omega
      subst h33
      have e1' : some (AO.list true (ns.map PV.int)) = some o := e1
      have e2' : some w4 = some a := e2
      cases e1'; cases e2'
      obtain ⟨ol, el, hr⟩ := hL
      obtain ⟨o', e', eg⟩ := Z.ghost (a := w4) (by simp)
      rw [el] at e'; cases e'
      exact ⟨w3, ⟨ol, F.keep _ _ eg, hr⟩, ints_rel hI, fun q => by cases q⟩
  · intro x c e
    have e' : ([("starts", s₁.heap.objs.size + 1 + 1), ("script", s₁.heap.objs.size + 1)] : List (Str × Addr)).lookup x = some c := e
    have hcase : (x = "starts" ∧ c = s₁.heap.objs.size + 1 + 1) ∨ (x = "script" ∧ c = s₁.heap.objs.size + 1) := by
      have := mem_of_lookup e'
      simp only [List.mem_cons, List.not_mem_nil, or_false, Prod.mk.injEq] at this
      exact this
    rcases hcase with ⟨rfl, rfl⟩ | ⟨rfl, rfl⟩
    · refine ⟨fun q => ?_, hS.2.1, fun q => ?_, fix_none hS.2.2, none, ⟨oS, hS.1, hoS⟩, fun pv hpv => ?_⟩
      · exact absurd (show (s₁.heap.objs.size + 1 + 1 : Nat) < s₁.heap.objs.size from hold _ q) (by omega)
      · have h50 : (50 : Nat) < s₁.heap.objs.size := Heap.lt_size (Z.tabs (54, 50) (by simp)).2
        exact absurd (show (s₁.heap.objs.size + 1 + 1 : Nat) = 50 from q) (by omega)
      · have : (if ("starts" : Str) = "script" then some (PV.ref 33) else none) = some pv := hpv
        rw [if_neg (by decide)] at this; cases this
    · refine ⟨fun q => ?_, hP.2.1, fun q => ?_, fix_none hP.2.2, some (.ref w4), ⟨oP, hP.1, hoP⟩, fun pv hpv => ?_⟩
      · exact absurd (show (s₁.heap.objs.size + 1 : Nat) < s₁.heap.objs.size from hold _ q) (by omega)
      · have h50 : (50 : Nat) < s₁.heap.objs.size := Heap.lt_size (Z.tabs (54, 50) (by simp)).2
        exact absurd (show (s₁.heap.objs.size + 1 : Nat) = 50 from q) (by omega)
      · have : (if ("script" : Str) = "script" then some (PV.ref 33) else none) = some pv := hpv
        rw [if_pos rfl] at this; cases this
        exact ⟨.ref w4, rfl, w4, rfl, rfl⟩
  · intro x y c e1 e2
    have e1' : ([("starts", s₁.heap.objs.size + 1 + 1), ("script", s₁.heap.objs.size + 1)] : List (Str × Addr)).lookup x = some c := e1
    have e2' : ([("starts", s₁.heap.objs.size + 1 + 1), ("script", s₁.heap.objs.size + 1)] : List (Str × Addr)).lookup y = some c := e2
    have h1 := mem_of_lookup e1'
    have h2 := mem_of_lookup e2'
    simp only [List.mem_cons, List.not_mem_nil, or_false, Prod.mk.injEq] at h1 h2
    rcases h1 with ⟨rfl, rfl⟩ | ⟨rfl, rfl⟩ <;> rcases h2 with ⟨rfl, h⟩ | ⟨rfl, h⟩
    · rfl
    · exact absurd (show (s₁.heap.objs.size + 1 + 1 : Nat) = s₁.heap.objs.size + 1 from h) (by omega)
    · exact absurd (show (s₁.heap.objs.size + 1 : Nat) = s₁.heap.objs.size + 1 + 1 from h) (by omega)
    · rfl
  · refine ⟨fun q => ?_, hT.2.1, fix_none hT.2.2, #[], hT.1, .inl rfl⟩
    obtain ⟨o, e, hn⟩ := Z.old q
    have := (Z.tabs (54, 50) (by simp)).2
    rw [show (CX Z { s₁ with heap := h₁, toks := tk } fa cd).tp = 50 from rfl] at e
    rw [e] at this
    exact hn (Option.some.inj this)
end
end Mine
set_option maxHeartbeats 4000000
namespace Mine
theorem first_stmt {C : Cx} {σ : AS} {α : List Addr} {pro : Pro} {s : Shared} {x : Str} {np pos pos' p0 p1 p2 p3 : Pos} {k k0 k1 k2 k3 : Nat} {i0 i1 i2 i3 : Int} {rest : List Stmt} {Q : AF → AS → Prop} (r : Rel C pro σ α { s with toks := s.toks + 1 })
    (hs : swapsWithSole [.Name x np] (.Tuple [.Constant (.int i0) k0 p0, .Constant (.int i1) k1 p1, .Constant (.int i2) k2 p2, .Constant (.int i3) k3 p3] k pos') pos.line C.env = pure false)
    (hw : swappedStores [.Name x np] (.Tuple [.Constant (.int i0) k0 p0, .Constant (.int i1) k1 p1, .Constant (.int i2) k2 p2, .Constant (.int i3) k3 p3] k pos') C.env = pure none)
    (h : Sto C x (.ref σ.hp.length) { σ with hp := σ.hp ++ [.tup false [.int i0, .int i1, .int i2, .int i3]] } fun σ2 => Xs C rest σ2 Q) :
    At C (FRel C.mg) (execs (.Assign [.Name x np] (.Tuple [.Constant (.int i0) k0 p0, .Constant (.int i1) k1 p1, .Constant (.int i2) k2 p2, .Constant (.int i3) k3 p3] k pos') pos :: rest) C.env) pro α s Q := by
  intro Q' E kk
  refine wpAny_execs_cons (wpAny_Assign_stores (Tuple_ ?_) hs hw)
  refine Calls.spliced_cons (rest := [(false, _), (false, _), (false, _)]) (wpAny_Constant_int (k := k0) (pos := p0) ?_)
  refine Calls.spliced_cons (rest := [(false, _), (false, _)]) (wpAny_Constant_int (k := k1) (pos := p1) ?_)
  refine Calls.spliced_cons (rest := [(false, _)]) (wpAny_Constant_int (k := k2) (pos := p2) ?_)
  refine Calls.spliced_cons (rest := []) (wpAny_Constant_int (k := k3) (pos := p3) ?_)
  refine Calls.spliced_nil ?_
  refine wpAny_newObj_type ?_ ?_
  · have r1 := r.add (h' := s.heap.push { cls := .type "tuple", data := .seq ([.int i0 s.toks, .int i1 (s.toks + 1), .int i2 (s.toks + 1 + 1), .int i3 (s.toks + 1 + 1 + 1)] : List Value).toArray }) (tk := s.toks + 1 + 1 + 1 + 1) (o := .tup false [.int i0, .int i1, .int i2, .int i3]) push_keep get_size_none ⟨_, Heap.get?_push_size _ rfl⟩ ⟨[.int i0 s.toks, .int i1 (s.toks + 1), .int i2 (s.toks + 1 + 1), .int i3 (s.toks + 1 + 1 + 1)], ⟨_, Heap.get?_push_size _ rfl, rfl, 0, rfl⟩, .cons ⟨_, rfl⟩ (.cons ⟨_, rfl⟩ (.cons ⟨_, rfl⟩ (.cons ⟨_, rfl⟩ .nil)))⟩ (by show s.toks + 1 ≤ _; omega)
    rw [assignEach_plain (by rfl)]
    refine Asn.name (pos := np) h _ _ _ _ r1 (vref_new r.len) _ _ fun _ σ2 α2 s2 _ h2 p2 r2 _ => ?_
    exact h2 pro α2 s2 r2 _ _ fun g σ' α' s' b hq p3 r3 v3 => kk g σ' α' s' b hq (((List.prefix_append _ _).trans p2).trans p3) r3 v3
  · show ([Value.int i0 s.toks, .int i1 (s.toks + 1), .int i2 (s.toks + 1 + 1), .int i3 (s.toks + 1 + 1 + 1)] : List Value).toArray.size ≤ sizeLine
    rw [sizeLine_eq]; show (4 : Nat) ≤ 16777216; decide
end Mine
set_option maxHeartbeats 4000000
namespace Mine
theorem join {w : World} {s₁ : Shared} {mg mb : Str → Option Value} {w4 : Addr} {loose : List Str} {mean : ExcName → Option Value} (Z : Left w s₁ mg mb w4 loose mean) (hgen : s₁.gens = #[])
    {fa : Addr} {cd : Value} {h₁ : Heap} {tk : Tok} {m : Str → Option Value} {oS oP : Obj} {w3 : List Value} {ns : List Int} (hL : s₁.heap.IsList w4 w3.toArray) (hI : IntsAre w3 ns) (hlen : ns.length < 1000)
    (hoS : oS.data = .cell none) (hoP : oP.data = .cell (some (.ref w4))) (F : Fr (GH s₁) s₁.heap.objs.size h₁ m) (N : News (GH s₁) s₁.heap.objs.size h₁ [(s₁.heap.objs.size + 1 + 1, oS), (s₁.heap.objs.size + 1, oP), (50, tabObj #[])])
    {Q : Flow → Shared → Prop} {E : Value → Shared → Prop}
    (hQ : ∀ s', s'.gens = #[] → s'.os = s₁.os → (∀ b o, (GH s₁).get? b = some o → s'.heap.get? b = some o) → (∃ ps, s'.heap.get? 50 = some (tabObj ps)) → Q (.ret (.bool true)) s') :
    wpAny (model PySem.Challenge.pw_rt0035_01 w) (callerA.deeper (lawEnv s₁ fa cd)) (execs (recAt 16).body (lawEnv s₁ fa cd)) Q E { s₁ with heap := h₁, toks := tk } := by
  have r0 := rel0 (fa := fa) (cd := cd) (tk := tk) Z hL hI hoS hoP F N
  have hT : Ext hpT (hpT ++ [AO.list true (ns.map PV.int)]) := ⟨_, rfl⟩
  have hcs : ∃ c, (lawEnv s₁ fa cd).cells.lookup ("starts" : Str) = some c := ⟨_, rfl⟩
  have hrest : Xs (CX Z { s₁ with heap := h₁, toks := tk } fa cd) ((recAt 16).body.drop 1) (({ sig0 ns with hp := (sig0 ns).hp ++ [.tup false [PV.int 35309, PV.int 33184, PV.int 162, PV.int 64]] } : AS).setC "starts" (.ref (sig0 ns).hp.length))
      (FnQ (hpT ++ [AO.list true (ns.map PV.int)]) fun p _ => p = .bool true) :=
    law_rest (lv := 0) (rs := 33) (r0 := (sig0 ns).hp.length) (f := true) (ns := ns) (sx_ok Z _) (sx_esc Z _) (sx_twin Z _) (sx_lam Z _) (sx_fm Z _) hT rfl rfl rfl rfl rfl getNew (getApp (by rfl)) hlen Ext.refl.app pure_law rfl
  obtain ⟨np, pos, pos', p0, p1, p2, p3, e⟩ : ∃ np pos pos' p0 p1 p2 p3, (recAt 16).body = .Assign [.Name "starts" np] (.Tuple [.Constant (.int 35309) 0 p0, .Constant (.int 33184) 0 p1, .Constant (.int 162) 0 p2, .Constant (.int 64) 0 p3] 0 pos') pos :: (recAt 16).body.drop 1 := ⟨_, _, _, _, _, _, _, rfl⟩
  rw [e]
  refine first_stmt (C := CX Z { s₁ with heap := h₁, toks := tk } fa cd) (s := { s₁ with heap := h₁, toks := tk }) (Q := FnQ (hpT ++ [AO.list true (ns.map PV.int)]) fun p _ => p = .bool true) r0 (by rfl) (by rfl) (Sto.cel (sc := (recAt 16).scope) (C := CX Z { s₁ with heap := h₁, toks := tk } fa cd) rfl (by decide) hcs hrest) Q E fun g σ' α' s' b hq _ r v => ?_
  obtain ⟨hf, t, ht, hK⟩ := hq
  have hg : g = .ret (.bool true) := by
    cases g with
    | next => cases hK
    | brk => exact absurd rfl (hf _ rfl).1
    | cont => exact absurd rfl (hf _ rfl).2
    | ret p =>
      cases p with
      | ref k => rcases hK with ⟨_, h⟩ | ⟨_, _, _, _, h⟩ <;> cases h
      | bool b => have : PV.bool b = PV.bool true := hK; rw [this]
      | _ => cases hK
  subst hg
  obtain ⟨v', rfl, hv⟩ := v
  cases hv
  have hsh := r.sh
  refine hQ s' (by rw [hsh]; exact hgen) (by rw [hsh]; rfl) (fun b o eb => ?_) ?_
  · by_cases hb : b ∈ tabA ++ [w4]
    · exact r.keepF b o (by show fixF s₁ w4 b = some o; unfold fixF; rw [if_pos hb]; exact eb)
    · exact r.keep b o (by unfold fixB; rw [if_neg hb]; exact eb)
  · obtain ⟨_, _, _, ps, ep, _⟩ := r.tab
    exact ⟨ps, ep⟩
end Mine
set_option maxHeartbeats 8000000
theorem Mine.post_ok (ns : List Int) : PySem.Challenge.rw_rt0035_01.row.claim.post [ofPy (PyData.list (List.map PyData.int ns))] (WData.bool true) [ofPy (PyData.list (List.map PyData.int ns))] = true :=
  postW_of (X := (true == true)) (by rfl) (w_eq_bool (w_res rfl) w_lit) rfl
theorem PySem.Challenge.cw_rt0035_01_holds : PySem.Challenge.rw_rt0035_01.Holds := by
  exact Mine.hd ⟨Mine.left, by
  k_go0
  rename_i w s₀ s₁ mg mb G Y fa o pm cd doc ho hcd hg X V T B TE TW ns hs hlay0 hL1 hr1 hl2 as6 as5 w4 w3 as2 hL ra w1 r0 hI hr hc1 hc2 hD h₁ tk oS oP left right X0 X' T' K' F N l0
  have hoS : oS.data = .cell none := left
  have hoP : oP.data = .cell (some (.ref w4)) := right
  refine Mine.join ⟨T, km_in_of Y, hT9, ⟨_, hL⟩⟩ hg hL hI (by omega) hoS hoP F N fun s' h1 h2 h3 h4 => ?_
  exact ⟨⟨.inl ⟨.bool true, .bool true, [], rfl, fun _ => rfl, (.bool _), Mine.post_ok ns, fun _ => ⟨List.nodup_nil, fun _ h => nomatch h⟩⟩, h3, h2, h1⟩, h4, trivial⟩⟩
