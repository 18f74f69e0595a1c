import PyProof.Rows.All
import Wide.All
import OpenK.AllK
import Wide.FinOn
import KE.KEqDat
import Lean
import PySem.Challenge.RW_ej5022_01
section
open PySem PySem.W PySem.Calls PyProof.Rows
set_option maxRecDepth 100000
namespace Mine

def keepS : List Nat := [0, 2, 3, 4, 5, 6, 7, 9, 10, 12, 13, 15, 16, 17, 18, 19, 20, 21, 22, 23, 24, 25, 26, 27, 28]
def vw : Program := view PySem.Challenge.pw_ej5022_01 keepS
def looseS : List PySem.Str := ["mappingproxy", "_MEMBERS_VIEW", "EnumType", "Enum", "ParserState"]
/-- an entry of a table under a name -/
abbrev ek (P : Params) (n : String) (t : Nat) (v : Value) : DictEntry := ⟨PyData.keyHash P (PySem.Str.ofString n), .str (.ofString n) t, v⟩
/-- what is said of the enum's classes and of its four members -/
def Ka (P : Params) : Frag := [
  (633, ⟨(.ref 608), (some 632), .plain, #[]⟩),
  (635, ⟨(.ref 608), (some 634), .plain, #[]⟩),
  (637, ⟨(.ref 608), (some 636), .plain, #[]⟩),
  (639, ⟨(.ref 608), (some 638), .plain, #[]⟩),
  (608, ⟨(.ref 419), none, (.cls { name := (.ofString "ParserState"), bases := [(.ref 585)], mro := [(.ref 608), (.ref 585), (.type "object")], ns := 607, qualname := (.ofString "ParserState"), hasDict := true, slotNames := [], subclasses := [], abstract := false, collection := none, hasDel := false }), #[some (.ref 595), none, some (.str (.ofString "ParserState") 915), some (.str (.ofString "ParserState") 923), some .none, some (.bool true)]⟩),
  (607, ⟨(.type "dict"), none, (.dict #[ek P "__module__" 922 (.str (.ofString "pg8000.converters") 913), ek P "__firstlineno__" 926 (.int 329 925), ek P "_written_out_" 928 (.int 0 953), ek P "_member_names_" 933 (.ref 602), ek P "_value_repr_" 935 .none, ek P "__static_attributes__" 936 (.ref 603), ek P "__doc__" 946 .none, ek P "__new__" 994 (.ref 486), ek P "InString" 1058 (.ref 633), ek P "InEscape" 1066 (.ref 635), ek P "InValue" 1074 (.ref 637), ek P "Out" 1082 (.ref 639), ek P "_member_map_" 1098 (.ref 652), ek P "_value2member_map_" 1110 (.ref 656), ek P "_hashable_values_" 1118 (.ref 660)] 10), #[]⟩),
  (585, ⟨(.ref 419), none, (.cls { name := (.ofString "Enum"), bases := [(.type "object")], mro := [(.ref 585), (.type "object")], ns := 584, qualname := (.ofString "Enum"), hasDict := true, slotNames := [], subclasses := [(.ref 608)], abstract := false, collection := none, hasDel := false }), #[none, none, some (.str (.ofString "Enum") 726), some (.str (.ofString "Enum") 734), some .none, some (.bool true)]⟩),
  (584, ⟨(.type "dict"), none, (.dict #[ek P "__module__" 733 (.str (.ofString "enum") 738), ek P "__firstlineno__" 737 (.int 235 736), ek P "_written_out_" 741 (.int 0 906), ek P "_member_names_" 742 (.ref 473), ek P "_member_map_" 743 (.ref 474), ek P "_value2member_map_" 744 (.ref 475), ek P "_hashable_values_" 745 (.ref 476), ek P "_unhashable_values_" 746 (.ref 477), ek P "_unhashable_values_map_" 747 (.ref 478), ek P "_members_" 748 (.ref 479), ek P "_value_repr_" 749 .none, ek P "_is_flag_" 750 (.bool false), ek P "_making_" 751 (.bool false), ek P "__new__" 766 (.ref 586), ek P "_missing_" 786 (.ref 495), ek P "__init__" 795 (.ref 503), ek P "__repr__" 803 (.ref 510), ek P "__str__" 810 (.ref 517), ek P "__format__" 818 (.ref 524), ek P "__hash__" 825 (.ref 531), ek P "__reduce_ex__" 833 (.ref 538), ek P "__deepcopy__" 841 (.ref 545), ek P "__copy__" 848 (.ref 552), ek P "__dir__" 855 (.ref 559), ek P "_add_alias_" 863 (.ref 566), ek P "_add_value_alias_" 871 (.ref 573), ek P "name" 877 (.ref 575), ek P "value" 883 (.ref 578), ek P "__static_attributes__" 884 (.ref 580), ek P "__dict__" 896 (.ref 587), ek P "__weakref__" 898 (.ref 588), ek P "__doc__" 899 .none] 4), #[]⟩),
  (419, ⟨(.type "type"), none, (.cls { name := (.ofString "EnumType"), bases := [(.type "type")], mro := [(.ref 419), (.type "type"), (.type "object")], ns := 418, qualname := (.ofString "EnumType"), hasDict := true, slotNames := [], subclasses := [], abstract := false, collection := none, hasDel := false }), #[some (.ref 208), none, some (.str (.ofString "EnumType") 411), some (.str (.ofString "EnumType") 419), some .none, some (.bool true)]⟩),
  (418, ⟨(.type "dict"), none, (.dict #[ek P "__module__" 418 (.str (.ofString "enum") 423), ek P "__firstlineno__" 422 (.int 88 421), ek P "_written_out_" 426 (.int 0 425), ek P "__new__" 439 (.ref 420), ek P "_planted_" 448 (.ref 230), ek P "_planted_at_" 455 (.ref 237), ek P "_held_value_" 465 (.ref 244), ek P "_canonical_" 475 (.ref 251), ek P "_book_value_" 485 (.ref 258), ek P "_mixed_" 493 (.ref 265), ek P "_held_def_" 502 (.ref 272), ek P "_closed_" 509 (.ref 279), ek P "_held_auto_" 518 (.ref 286), ek P "_unique_" 525 (.ref 293), ek P "_close_" 532 (.ref 300), ek P "_expect_" 540 (.ref 307), ek P "_value_of_" 549 (.ref 314), ek P "_args_of_" 557 (.ref 321), ek P "__bool__" 564 (.ref 328), ek P "__call__" 573 (.ref 335), ek P "__contains__" 582 (.ref 342), ek P "__getitem__" 590 (.ref 349), ek P "__iter__" 598 (.ref 356), ek P "__len__" 605 (.ref 363), ek P "__members__" 613 (.ref 371), ek P "__repr__" 620 (.ref 378), ek P "__reversed__" 628 (.ref 385), ek P "__setattr__" 638 (.ref 393), ek P "__delattr__" 647 (.ref 401), ek P "_store_" 657 (.ref 409), ek P "__dir__" 664 (.ref 416), ek P "__static_attributes__" 665 (.ref 417), ek P "__doc__" 668 .none] 3), #[]⟩)]
def adrs : List Addr := [633, 635, 637, 639, 608, 607, 585, 584, 419, 418]
def Kv (P : Params) : List (Option Obj) := (Ka P).map fun p => some p.2
def Yf (s : Shared) : List (Option Obj) := adrs.map s.heap.get?
def stillAt (s : Shared) : Bool := s.heap.isNs cStatics && (s.heap.nsMap cStatics "thirdparty.any").isNone
def psAt (s : Shared) : Bool := match s.heap.nsMap mainGlobals "ParserState" with
  | some (.ref a) => a == 608
  | _ => false
def Xt (s : Shared) : Bool := (xlAt vw [] s && (stillAt s && psAt s)) && recOk (RowW.records PySem.Challenge.rw_ej5022_01.row.toRowW) s
def row : String := "special-get-raises"
def env0 : Env := { scope := PySem.Challenge.pw_ej5022_01.main.scope, locals := mainNs, globals := mainNs, cells := [], code := .ref 13, frame := some 14 }
def body0 : List Stmt := behindTheImports PySem.Challenge.pw_ej5022_01
def code0 : Code := .body body0 env0
def pos0 : Pos := ⟨0, 0, 0, 0⟩
noncomputable def st0 (w : World) (os : OsState) : Shared := ⟨boot_heap w.params, #[], boot_drawn, boot_toks, os⟩
def ann0 : Option Value := some (.ref 6)

/-- a tree of a list of objects -/
def mkT : List Obj → BT → Nat → Option BT
  | [], t, _ => some t
  | o :: r, t, n => match ((t.ins n o).get n).isSome with
    | true => mkT r (t.ins n o) (n + 1)
    | false => none

theorem mkT_abs {life : Life} : ∀ {l : List Obj} {t t' : BT} {n : Nat}, mkT l t n = some t' → absHeap t' (n + l.length) life = ⟨(absHeap t n life).objs ++ l.toArray, life⟩
  | [], t, t', n, h => by
    cases h
    simp [absHeap]
  | o :: r, t, t', n, h => by
    unfold mkT at h
    cases e : ((t.ins n o).get n).isSome with
    | false => rw [e] at h; cases h
    | true =>
      rw [e] at h
      have := mkT_abs (life := life) h
      rw [absHeap_ins e] at this
      rw [show n + (o :: r).length = n + 1 + r.length by simp; omega, this]
      simp [Heap.push]

/-- the test behind the run -/
noncomputable def tst (w : World) (s : Shared) : Bool := staticsOk (importedModules PySem.Challenge.pw_ej5022_01.main.body) (boot_heap w.params) s.heap && namesBound PySem.Challenge.pw_ej5022_01 s.heap && gensDone s && laidKept (boot_heap w.params) s.heap
def sn (s : Shared) := openSeen vw looseS (importedModules PySem.Challenge.pw_ej5022_01.main.body) Xt true s
/-- the whole run of the top, and what is seen behind it -/
noncomputable def obs (w : World) (os : OsState) :=
  (topGo treeTable PySem.Challenge.pw_ej5022_01 w 11 ann0 12 (st0 w os) (topStub PySem.Challenge.pw_ej5022_01)).bind fun a =>
  (mkT a.1.heap.objs.toList .nil 0).bind fun t =>
  (segRunT treeTable PySem.Challenge.pw_ej5022_01 w 11 ann0 1 8000 ⟨t, a.1.heap.objs.size, a.1.heap.life, a.1.gens, a.1.drawn, a.1.toks, a.1.os⟩ (piecesOf body0 env0 code0 pos0 [topFrame pos0])).bind fun r =>
  (topRun treeTable PySem.Challenge.pw_ej5022_01 w 11 ann0 2 r.2.1.abs ⟨doneF .next, code0, r.2.2.2, [topFrame pos0]⟩).map fun s =>
    ((a.2, r.1, r.2.2.1), tst w s, sn s, Yf s)
noncomputable def due (w : World) := ((({ cur := denote treeTable code0, code := code0, pos := pos0, stack := [topFrame pos0] } : Thread), Flow.next, code0), true, openGood vw looseS, Kv w.params)
noncomputable def sz (w : World) := ((boot_heap w.params).isNs mainGlobals && (#[] : Array GenState).size == 0, (boot_heap w.params).objs.size, (boot_heap w.params).nsMap mainGlobals "__annotations__")
def bl {α : Sort _} (_ : α) : Bool := true
theorem mk_obs : bl obs = true := by k_qdec
theorem mk_due : bl due = true := by k_qdec
end Mine

end
section
open PySem PySem.W PySem.Calls PyProof.Rows
set_option maxRecDepth 100000
namespace Mine

theorem szs (w : World) : sz w = (true, 11, ann0) := by kernel_rfl
theorem opn : ∀ w : World, (fencedOpening treeTable PySem.Challenge.pw_ej5022_01 w 20000).map (fun s => (s.heap, s.gens, s.drawn, s.toks)) = some (boot_heap w.params, #[], boot_drawn, boot_toks) :=
  boot_open (p := PySem.Challenge.pw_ej5022_01) (N := 20000) (by kernel_rfl) (by kernel_rfl) (fun s => by kernel_rfl)
theorem runF (w : World) (os : OsState) : mk_obs.tw7565400561704045661 (w.withFollow row false) os = some (mk_due.tw12328627700263322127 (w.withFollow row false)) := by kernel_rfl
theorem runT (w : World) (os : OsState) : mk_obs.tw7565400561704045661 (w.withFollow row true) os = some (mk_due.tw12328627700263322127 (w.withFollow row true)) := by kernel_rfl
theorem run_all (w : World) (os : OsState) : obs w os = some (due w) := by
  have h : ∀ w : World, ∀ os, obs w os = some (due w) := fun w => byRow2 row (P := fun w => ∀ os, obs w os = some (due w))
    (fun w os => by rw [mk_obs.te7565400561704045661, mk_due.te12328627700263322127]; exact runF w os)
    (fun w os => by rw [mk_obs.te7565400561704045661, mk_due.te12328627700263322127]; exact runT w os) w
  exact h w os
theorem blk (w : World) (s : Shared) : segRun treeTable PySem.Challenge.pw_ej5022_01 w 11 ann0 1 1 s (blockOf body0 env0 code0 pos0 [topFrame pos0]) = some (.next, s, code0, pos0) := by kernel_rfl

theorem leftA (w : World) (os : OsState) : ∃ s, topRun treeTable PySem.Challenge.pw_ej5022_01 w 11 ann0 (12 + (1 + (8000 + 2))) (st0 w os) (topStub PySem.Challenge.pw_ej5022_01) = some s ∧ tst w s = true ∧ sn s = openGood vw looseS ∧ Yf s = Kv w.params := by
  have hr := run_all w os
  unfold obs due at hr
  obtain ⟨a, ha, hr⟩ := Option.bind_eq_some_iff.mp hr
  obtain ⟨t, ht, hr⟩ := Option.bind_eq_some_iff.mp hr
  obtain ⟨r, hq, hr⟩ := Option.bind_eq_some_iff.mp hr
  obtain ⟨s, hs, hr⟩ := Option.map_eq_some_iff.mp hr
  obtain ⟨sa, ta⟩ := a
  obtain ⟨fl, st, cd, ps⟩ := r
  obtain ⟨h123, h456⟩ := Prod.mk.inj hr
  obtain ⟨h1, h23⟩ := Prod.mk.inj h123
  obtain ⟨h2, h3⟩ := Prod.mk.inj h23
  obtain ⟨h4, h56⟩ := Prod.mk.inj h456
  obtain ⟨h5, h6⟩ := Prod.mk.inj h56
  dsimp only at h1 h2 h3 ht hq hs
  refine ⟨s, ?_, h4, h5, h6⟩
  clear h4 h5 h6
  subst h1 h2 h3
  have ab := mkT_abs (life := sa.heap.life) ht
  have e0 : absHeap .nil 0 sa.heap.life = ⟨#[], sa.heap.life⟩ := rfl
  rw [e0] at ab
  have ab' : absHeap t sa.heap.objs.size sa.heap.life = sa.heap := by
    have : absHeap t (0 + sa.heap.objs.toList.length) sa.heap.life = sa.heap := by rw [ab]; simp
    simpa using this
  have q := segRun_of hq
  have eab : (SharedT.abs ⟨t, sa.heap.objs.size, sa.heap.life, sa.gens, sa.drawn, sa.toks, sa.os⟩) = sa := by
    unfold SharedT.abs
    dsimp only
    rw [ab']
  rw [eab] at q
  have p1 := piece_app (rest := []) q (piece_nil hs)
  rw [List.append_nil] at p1
  have p2 := piece_block (b := body0) (env := env0) (q := pos0) (n := 1) (s := sa) (s' := sa) (c := code0) (pos := pos0) (p' := pos0) (blk w sa) p1
  exact go_top ha p2
theorem leftB (w : World) (os : OsState) : ∃ s, topFrom treeTable PySem.Challenge.pw_ej5022_01 w 20000 (st0 w os) = some s ∧ sn s = openGood vw looseS ∧ Yf s = Kv w.params := by
  obtain ⟨s, p3, h4, h5, h6⟩ := leftA w os
  have p4 := topRun_mono (20000 - (12 + (1 + (8000 + 2)))) _ _ _ _ p3
  rw [show 12 + (1 + (8000 + 2)) + (20000 - (12 + (1 + (8000 + 2)))) = 20000 from rfl] at p4
  have hz := szs w
  unfold sz at hz
  obtain ⟨z1, z23⟩ := Prod.mk.inj hz
  obtain ⟨z2, z3⟩ := Prod.mk.inj z23
  refine ⟨s, ?_, h5, h6⟩
  unfold topFrom st0
  dsimp only
  rw [z1, z2, z3]
  unfold st0 at p4
  dsimp only
  rw [p4]
  unfold tst at h4
  rw [Option.bind_some, h4]
theorem left : LeftO PySem.Challenge.pw_ej5022_01 vw looseS Xt Yf (fun w => Kv w.params) 20000 := fun w => by
  obtain ⟨⟨h, gs, d, k, os⟩, e, e'⟩ := Option.map_eq_some_iff.mp (opn w)
  obtain ⟨e1, e23⟩ := Prod.mk.inj e'
  obtain ⟨e2, e34⟩ := Prod.mk.inj e23
  obtain ⟨e3, e4⟩ := Prod.mk.inj e34
  clear e' e23 e34
  dsimp only at e1 e2 e3 e4
  subst e1 e2 e3 e4
  obtain ⟨s, tf, h5, h6⟩ := leftB w os
  unfold openEnds
  rw [e, Option.bind_some]
  unfold st0 at tf
  rw [tf, Option.map_some]
  unfold sn at h5
  rw [h5, h6]
end Mine

end
set_option Elab.async false
section
open PySem PySem.W PySem.Calls PyProof.Rows PySem.Spec
set_option maxRecDepth 100000
namespace Mine

/-! the defs of the text, by their place -/
def stm (i : Nat) : Stmt := PySem.Challenge.pw_ej5022_01.main.body.getD i (.Pass ⟨0, 0, 0, 0⟩)
def dParams : Stmt → Arguments
  | .FunctionDef _ a _ _ _ _ _ _ _ _ => a
  | _ => { posonlyargs := [], args := [], vararg := none, kwonlyargs := [], kw_defaults := [], kwarg := none, defaults := [] }
def dBody : Stmt → List Stmt
  | .FunctionDef _ _ b _ _ _ _ _ _ _ => b
  | _ => []
def dScope : Stmt → Scope
  | .FunctionDef _ _ _ _ _ _ sc _ _ _ => sc
  | _ => { kind := .function, names := [], isGenerator := false, isCoroutine := false, more := [] }

structure IsDef (h : Heap) (mg : Str → Option Value) (x : Str) (i : Nat) (f : Addr) (cdv : Value) : Prop where
  name : mg x = some (.ref f)
  obj : ∃ o pm doc, h.get? f = some o ∧ o.data = .func (fnX x x (dParams (stm i)) (dBody (stm i)) (dScope (stm i)) [] .none .none doc pm none cdv .none)
  code : h.CodeRec cdv x

theorem IsDef.keeps {h h' : Heap} {mg : Str → Option Value} {x : Str} {i : Nat} {f : Addr} {cdv : Value} (D : IsDef h mg x i f cdv) (k : ∀ b o, h.get? b = some o → h'.get? b = some o) : IsDef h' mg x i f cdv :=
  ⟨D.name, let ⟨o, pm, doc, a, b⟩ := D.obj; ⟨o, pm, doc, k _ _ a, b⟩, D.code.keeps k⟩

structure IsB (mg mb : Str → Option Value) (x : Str) (v : Value) : Prop where
  none : mg x = none
  some : mb x = some v

/-- no other party's class is loaded -/
def Still (h : Heap) : Prop := ∃ mc, h.Ns cStatics mc ∧ mc "thirdparty.any" = none
theorem Still.keeps {h h' : Heap} (x : Still h) (k : ∀ b o, h.get? b = some o → h'.get? b = some o) : Still h' := let ⟨mc, a, b⟩ := x; ⟨mc, a.keeps k, b⟩
theorem Still.of {s : Shared} (x : stillAt s = true) : Still s.heap := by
  obtain ⟨a, b⟩ := Bool.and_eq_true_iff.mp x
  exact ⟨_, .of_isNs a, Option.isNone_iff_eq_none.mp b⟩
/-- what stands at the top -/
structure Lib (w : World) (mg mb : Str → Option Value) (h : Heap) : Prop where
  g : h.Ns mainGlobals mg
  b : h.Ns builtinsNs mb
  nolimit : h.NoLimit
  X : (Ka w.params).In h
  still : Still h
  T : ∃ loose mean, Top topProg loose mean mg mb h
  parse : ∃ f c, IsDef h mg "_parse_array" 12 f c
  arrayIn : ∃ f c P, IsDef h mg "_array_in" 13 f (.ref c) ∧ CodeHd h c P
  next : ∃ f c, IsDef h mg "_law_next" 18 f c
  text : ∃ f c, IsDef h mg "_law_text" 19 f c
  leaf : ∃ f c, IsDef h mg "_law_leaf" 20 f c
  tree : ∃ f c, IsDef h mg "_law_tree" 21 f c
  quoted : ∃ f c, IsDef h mg "_law_quoted" 22 f c
  written : ∃ f c, IsDef h mg "_law_written" 23 f c
  leaves : ∃ f c, IsDef h mg "_law_leaves" 24 f c
  marked : ∃ f c, IsDef h mg "_law_marked" 25 f c
  listener : ∃ f c P, IsDef h mg "_law_listener" 26 f (.ref c) ∧ CodeHd h c P
  stopped : ∃ f c, IsDef h mg "_law_stopped" 27 f c
  word : ∃ t, mg "_law_WORD" = some (.str (.ofString "aZ7-.:'éあ") t)
  any' : ∃ t, mg "_law_ANY" = some (.str (.ofString "aZ7-.:'éあ{},\"\\ \n\t()") t)
  must : ∃ t, mg "_law_MUST" = some (.str (.ofString "{},\"\\ \n\t()") t)
  state : mg "ParserState" = some (.ref 608)
  len : IsB mg mb "len" (.builtin "len")
  range : IsB mg mb "range" (.type "range")
  list : IsB mg mb "list" (.type "list")
  isinstance : IsB mg mb "isinstance" (.builtin "isinstance")
  any : IsB mg mb "any" (.builtin "any")
  valueError : IsB mg mb "ValueError" (.type "ValueError")

/-- what stands around a body -/
structure Sta (w : World) (mg mb : Str → Option Value) (A : Around) (h₀ : Heap) (L : Addr) : Prop where
  bel : ∃ A₀ base outer env, Below A₀ base outer h₀ ∧ A.frames = some (env :: outer) ∧ env.frame = some L ∧ env.scope.kind = .function
  hand : A.handled = none
  lib : Lib w mg mb h₀

theorem Lib.keeps {w : World} {mg mb : Str → Option Value} {h h' : Heap} (k : ∀ b o, h.get? b = some o → h'.get? b = some o) (B : Lib w mg mb h) : Lib w mg mb h' where
  g := B.g.keeps k
  b := B.b.keeps k
  nolimit := B.nolimit.keeps k
  X := B.X.keeps k
  still := B.still.keeps k
  T := let ⟨l, m, t⟩ := B.T; ⟨l, m, t.keeps k⟩
  parse := let ⟨f, c, D⟩ := B.parse; ⟨f, c, D.keeps k⟩
  arrayIn := let ⟨f, c, P, D, H⟩ := B.arrayIn; ⟨f, c, P, D.keeps k, H.keeps k⟩
  next := let ⟨f, c, D⟩ := B.next; ⟨f, c, D.keeps k⟩
  text := let ⟨f, c, D⟩ := B.text; ⟨f, c, D.keeps k⟩
  leaf := let ⟨f, c, D⟩ := B.leaf; ⟨f, c, D.keeps k⟩
  tree := let ⟨f, c, D⟩ := B.tree; ⟨f, c, D.keeps k⟩
  quoted := let ⟨f, c, D⟩ := B.quoted; ⟨f, c, D.keeps k⟩
  written := let ⟨f, c, D⟩ := B.written; ⟨f, c, D.keeps k⟩
  leaves := let ⟨f, c, D⟩ := B.leaves; ⟨f, c, D.keeps k⟩
  marked := let ⟨f, c, D⟩ := B.marked; ⟨f, c, D.keeps k⟩
  listener := let ⟨f, c, P, D, H⟩ := B.listener; ⟨f, c, P, D.keeps k, H.keeps k⟩
  stopped := let ⟨f, c, D⟩ := B.stopped; ⟨f, c, D.keeps k⟩
  word := B.word
  any' := B.any'
  must := B.must
  state := B.state
  len := B.len
  range := B.range
  list := B.list
  isinstance := B.isinstance
  any := B.any
  valueError := B.valueError

abbrev prog : Program := PySem.Challenge.pw_ej5022_01

theorem Sta.of {w : World} {mg mb : Str → Option Value} {A₀ A : Around} {base h₀ g : Heap} {outer : List Env} {L L' : Addr} {env env' : Env} (S : Sta w mg mb A h₀ L)
    (hA : A.frames = some (env :: outer)) (B : Below A base (env :: outer) g) (k : h₀.StaysIn g) (hf : env'.frame = some L') (hk : env'.scope.kind = .function) : Sta w mg mb (A.deeper env') g L' :=
  ⟨⟨A, base, env :: outer, env', B, Around.frames_deeper hA, hf, hk⟩, S.hand, S.lib.keeps k⟩

/-- the way back out of a body -/
def Back (h₀ g : Heap) (L L' : Addr) (m : Str → Option Value) (Q : Value → Shared → Prop) (v : Value) (s' : Shared) : Prop :=
  ∃ m' news', Fr g L' s'.heap m' ∧ News g L' s'.heap news' ∧ (Fr h₀ L s'.heap m → News h₀ L s'.heap news' → Q v s')
theorem back_ {h₀ g : Heap} {L L' : Addr} {m m' : Str → Option Value} {news' : List (Addr × Obj)} {Q : Value → Shared → Prop} {v : Value} {s' : Shared} (F' : Fr g L' s'.heap m') (N' : News g L' s'.heap news')
    (k : Fr h₀ L s'.heap m → News h₀ L s'.heap news' → Q v s') : Back h₀ g L L' m Q v s' := ⟨m', news', F', N', k⟩
def retOf (fl : Flow) : Value := match fl with | .ret v => v | _ => .none

/-- a call of a def without cells -/
theorem enter {w : World} {mg mb : Str → Option Value} {A : Around} {h₀ : Heap} {L : Addr} {s : Shared} {m : Str → Option Value} {news : List (Addr × Obj)} {x : Str} {i : Nat} {f : Addr} {cdv : Value} {vals : List Value} {binds : List (Str × Value)}
    {Q E : Value → Shared → Prop} (S : Sta w mg mb A h₀ L) (F : Fr h₀ L s.heap m) (N : News h₀ L s.heap news) (D : IsDef h₀ mg x i f cdv) (hroom : A.depth < recursionLimit)
    (hbind : ∀ doc pm, bindArgs (fnX x x (dParams (stm i)) (dBody (stm i)) (dScope (stm i)) [] .none .none doc pm none cdv .none) ⟨vals, []⟩ = pure binds)
    (hloc : ∀ y ∈ binds, (dScope (stm i)).names.lookup y.1 = some .local)
    (h : ∀ g L' h₁, Sta w mg mb (A.deeper (envX x (dScope (stm i)) L' f cdv [])) g L' → Fr g L' h₁ (fun y => binds.reverse.lookup y) → News g L' h₁ news →
      wpAny (model prog w) (A.deeper (envX x (dScope (stm i)) L' f cdv [])) (execs (dBody (stm i)) (envX x (dScope (stm i)) L' f cdv []))
        (fun fl s' => Back h₀ g L L' m Q (retOf fl) s')
        (fun e s' => wpAny (model prog w) (A.deeper (envX x (dScope (stm i)) L' f cdv [])) (leaving (envX x (dScope (stm i)) L' f cdv []) e) (fun _ s'' => E e s'') (fun e' s'' => E e' s'') s')
        { s with heap := h₁, toks := s.toks + binds.length })
    (hcell : ∀ x ∈ (dScope (stm i)).names, x.2 ≠ .cell) (hco : (dScope (stm i)).isCoroutine = false) (hgen : (dScope (stm i)).isGenerator = false) (hk : (dScope (stm i)).kind = .function) :
    wpAny (model prog w) A (call (.ref f) vals) Q E s := by
  obtain ⟨A₀, base, outer, env, bel, hA, hf, hke⟩ := S.bel
  obtain ⟨o, pm, doc, ho, hd⟩ := D.obj
  refine wpAny_call (callX_plain bel F N S.lib.nolimit hA hf hke (F.keep _ _ ho) hd (D.code.keeps F.keep) hroom (.of_eq (hbind doc pm)) hloc (fun g L' h₁ FG F' N' B' st _ => ?_) hcell hco hgen hk)
  refine wpAny_mono (h g L' h₁ ⟨⟨A, base, env :: outer, _, B', Around.frames_deeper hA, rfl, hk⟩, S.hand, S.lib.keeps st⟩ F' N') (fun fl s' hl => ?_) fun _ _ e => e
  obtain ⟨m', news', F₁, N₁, k⟩ := hl
  exact ⟨L', m', news', F₁, N₁, k⟩

/-- a call of a def with cells -/
theorem enterC {w : World} {mg mb : Str → Option Value} {A : Around} {h₀ : Heap} {L : Addr} {s : Shared} {m m₁ cm : Str → Option Value} {news : List (Addr × Obj)} {x : Str} {i : Nat} {f : Addr} {cdv : Value} {vals : List Value} {binds : List (Str × Value)} {cl : Addr → List (Str × Addr)}
    {Q E : Value → Shared → Prop} (S : Sta w mg mb A h₀ L) (F : Fr h₀ L s.heap m) (N : News h₀ L s.heap news) (D : IsDef h₀ mg x i f cdv) (hroom : A.depth < recursionLimit)
    (hbind : ∀ doc pm, bindArgs (fnX x x (dParams (stm i)) (dBody (stm i)) (dScope (stm i)) [] .none .none doc pm none cdv .none) ⟨vals, []⟩ = pure binds)
    (hkind : (binds.all fun y => (dScope (stm i)).names.lookup y.1 == some .local || (dScope (stm i)).names.lookup y.1 == some .cell) = true)
    (hnd : ((cellsFrom 0 (dScope (stm i)).names []).map (·.1)).Nodup)
    (hcl : ∀ L', cellsFrom (L' + 1) (dScope (stm i)).names [] = cl L')
    (hm : ∀ L', bindL (envX x (dScope (stm i)) L' f cdv (cl L')).kindOf binds (fun _ => none) = m₁) (hc : ∀ L', bindC (envX x (dScope (stm i)) L' f cdv (cl L')).kindOf binds (fun _ => none) = cm)
    (h : ∀ g L' h₁ tk cells, Sta w mg mb (A.deeper (envX x (dScope (stm i)) L' f cdv (cl L'))) g L' → Fr g L' h₁ m₁ → News g L' h₁ (cells ++ news) → CellsAre cm (cl L') cells → (∀ p ∈ news, p.1 < L') →
      wpAny (model prog w) (A.deeper (envX x (dScope (stm i)) L' f cdv (cl L'))) (execs (dBody (stm i)) (envX x (dScope (stm i)) L' f cdv (cl L')))
        (fun fl s' => Back h₀ g L L' m Q (retOf fl) s')
        (fun e s' => wpAny (model prog w) (A.deeper (envX x (dScope (stm i)) L' f cdv (cl L'))) (leaving (envX x (dScope (stm i)) L' f cdv (cl L')) e) (fun _ s'' => E e s'') (fun e' s'' => E e' s'') s')
        { s with heap := h₁, toks := tk })
    (hco : (dScope (stm i)).isCoroutine = false) (hgen : (dScope (stm i)).isGenerator = false) (hk : (dScope (stm i)).kind = .function) :
    wpAny (model prog w) A (call (.ref f) vals) Q E s := by
  obtain ⟨A₀, base, outer, env, bel, hA, hf, hke⟩ := S.bel
  obtain ⟨o, pm, doc, ho, hd⟩ := D.obj
  refine wpAny_call (callX_cells bel F N S.lib.nolimit hA hf hke (F.keep _ _ ho) hd (D.code.keeps F.keep) hroom (.of_eq (hbind doc pm)) (kindsX hkind) hnd (fun g L' h₁ tk cells FG F' N' Y B' st lt => ?_) hco hgen hk)
  have ee : envOfC x (dScope (stm i)) L' f cdv = envX x (dScope (stm i)) L' f cdv (cl L') := by rw [← hcl L']; rfl
  rw [ee, hm L'] at F'
  rw [ee, hc L', hcl L'] at Y
  rw [ee]
  refine wpAny_mono (h g L' h₁ tk cells ⟨⟨A, base, env :: outer, _, B', Around.frames_deeper hA, rfl, hk⟩, S.hand, S.lib.keeps st⟩ F' N' Y lt) (fun fl s' hl => ?_) fun _ _ e => e
  obtain ⟨m', news', F₁, N₁, k⟩ := hl
  exact ⟨L', m', news', F₁, N₁, k⟩
end Mine

end
section
open PySem PySem.W PySem.Calls PyProof.Rows PySem.Spec
set_option maxRecDepth 100000
namespace Mine

theorem News.sub {h₀ h : Heap} {L : Addr} {a b : List (Addr × Obj)} (N : News h₀ L h a) (k : ∀ p ∈ b, p ∈ a) : News h₀ L h b := fun p hp => N p (k p hp)

section
variable {w : World} {mg mb : Str → Option Value} {A A' : Around} {h₀ : Heap} {L a : Addr} {s : Shared} {m : Str → Option Value} {news rest : List (Addr × Obj)} {x : Str} {i : Nat} {f : Addr} {cdv : Value} {E : Value → Shared → Prop}
  {cn : Str} {cs : Scope} {ccd : Value} {cl : List (Str × Addr)} {pos : Pos}

/-- a def of the top, by its name -/
theorem nmD {env : Env} {Q : Value → Shared → Prop} (S : Sta w mg mb A' h₀ L) (F : Fr h₀ L s.heap m) (D : IsDef h₀ mg x i f cdv) (h : Q (.ref f) s)
    (hg : env.globals = mainGlobals) (hk : env.scope.kind = .function) (hx : env.kindOf x = some .globalImplicit) (hd : (x == ("__debug__" : Str)) = false) :
    wpAny (model prog w) A (eval (.Name x pos) env) Q E s :=
  Name_function_global hk hx (loadGlobal_global (env := env) (hg ▸ S.lib.g.keeps F.keep) D.name h) hd
/-- a value of the top -/
theorem nmV {env : Env} {v : Value} {Q : Value → Shared → Prop} (S : Sta w mg mb A' h₀ L) (F : Fr h₀ L s.heap m) (D : mg x = some v) (h : Q v s)
    (hg : env.globals = mainGlobals) (hk : env.scope.kind = .function) (hx : env.kindOf x = some .globalImplicit) (hd : (x == ("__debug__" : Str)) = false) :
    wpAny (model prog w) A (eval (.Name x pos) env) Q E s :=
  Name_function_global hk hx (loadGlobal_global (env := env) (hg ▸ S.lib.g.keeps F.keep) D h) hd
/-- a built-in name -/
theorem nmB {env : Env} {v : Value} {Q : Value → Shared → Prop} (S : Sta w mg mb A' h₀ L) (F : Fr h₀ L s.heap m) (D : IsB mg mb x v) (h : Q v s)
    (hg : env.globals = mainGlobals) (hb : env.builtins = builtinsNs) (hk : env.scope.kind = .function) (hx : env.kindOf x = some .globalImplicit) (hd : (x == ("__debug__" : Str)) = false) :
    wpAny (model prog w) A (eval (.Name x pos) env) Q E s :=
  Name_function_global hk hx (loadGlobal_builtin (env := env) (hg ▸ S.lib.g.keeps F.keep) D.none (hb ▸ S.lib.b.keeps F.keep) D.some h) hd

variable {d : Addr} {its : Array Value} {n : Nat} {k : Int} {t : Tok} {v : Value}
/-- a store into a list that stands first in the ledger -/
theorem setHd {Q : Unit → Shared → Prop} (F : Fr h₀ L s.heap m) (N : News h₀ L s.heap ((d, listOf its n) :: rest)) (ap : ∀ p ∈ rest, p.1 ≠ d) (h0 : 0 ≤ k) (hfit : k < 2 ^ 63) (hn : k < its.size)
    (h : ∀ h', Fr h₀ L h' m → News h₀ L h' ((d, listOf (its.setIfInBounds k.toNat v) n) :: rest) → Q () { s with heap := h' }) :
    wpAny (model prog w) A (setItem (.ref d) (.int k t) v) Q E s := by
  have z := N _ (.head _)
  refine ki_setAt z.1 h0 hfit hn (h _ (F.change (Heap.SameBut.update ..) z.2.1 z.2.2) ?_)
  have := ki_turn (pre := []) (post := rest) (its' := its.setIfInBounds k.toNat v) (n' := n) (·.setIfInBounds k.toNat v) N (fun _ h => nomatch h) ap rfl (by simp)
  exact this
/-- a store at place 1 of a pair that stands first in the ledger -/
theorem setHd1 {a0 a1 : Value} {Q : Unit → Shared → Prop} (F : Fr h₀ L s.heap m) (N : News h₀ L s.heap ((d, listOf #[a0, a1] n) :: rest)) (ap : ∀ p ∈ rest, p.1 ≠ d)
    (h : ∀ h', Fr h₀ L h' m → News h₀ L h' ((d, listOf #[a0, v] n) :: rest) → Q () { s with heap := h' }) :
    wpAny (model prog w) A (setItem (.ref d) (.int 1 t) v) Q E s := setHd F N ap (by decide) (by decide) (by simp) h
/-- len of a list of the ledger -/
theorem lenL {Q : Value → Shared → Prop} (N : News h₀ L s.heap news) (hm : (d, listOf its n) ∈ news) (hb : its.size ≤ 2 ^ 20) (h : ∀ t tk, Q (.int its.size t) { s with toks := tk }) : wpAny (model prog w) A (call (.builtin "len") [.ref d]) Q E s :=
  len_list (PySem.IsL.isList (n := n) (N _ hm).1) (by omega) (h _ _)
/-- a cell of the frame's own -/
theorem nmC {c : Addr} {o : Obj} {v : Value} {Q : Value → Shared → Prop} (N : News h₀ L s.heap news) (hc : cl.lookup x = some c) (hm : (c, o) ∈ news) (hd : o.data = .cell (some v)) (h : Q v s)
    (hk : cs.kind = .function) (hx : (envX cn cs L a ccd cl).kindOf x = some .cell) (hb : (x == ("__debug__" : Str)) = false) :
    wpAny (model prog w) A (eval (.Name x pos) (envX cn cs L a ccd cl)) Q E s := wpAny_Name (wpAny_loadName_cell hk hx hc ⟨o, N.get hm, hd⟩ h) hb

/-- the frame stands at this heap -/
def Stood (h₀ : Heap) (L : Addr) (h : Heap) : Prop := ∃ m, Fr h₀ L h m
/-- a call's arguments, the callee a def of the top -/
theorem cwD {e : Expr} {rest : List Expr} {env : Env} {Q : Value → Shared → Prop} (D : IsDef h₀ mg x i f cdv)
    (h : wpAny (model prog w) A (spliced (backTo pos (starEach (e :: rest) env))) (fun vs s₁ => Stood h₀ L s₁.heap ∧ wpAny (model prog w) A (call (.ref f) vs) Q E s₁) E s)
    (he : starEach (e :: rest) env = (false, eval e env) :: starEach rest env := by rfl) (hplain : (backTo pos (starEach rest env)).any (·.1) = false := by rfl) :
    wpAny (model prog w) A (callWith pos (.ref f) [] (backTo pos (starEach (e :: rest) env)) []) Q E s := by
  obtain ⟨o, pm, doc, ho, hd⟩ := D.obj
  obtain ⟨oc, od, dt, sl⟩ := o
  dsimp only at hd
  subst hd
  rw [he] at h ⊢
  refine callWith_of (P := FnAt f) (by show ((false || (backTo pos (starEach rest env)).any (·.1)) || false) = false; rw [hplain]; rfl) keeps_F (evalArgs_plain (wpAny_mono h (fun vs s₁ q => ?_) fun _ _ e => e))
  obtain ⟨⟨m₁, F₁⟩, q⟩ := q
  exact ⟨⟨_, _, _, _, F₁.keep _ _ ho⟩, q⟩
end

theorem ints_get {vs : List Value} {ns : List Int} (hi : IntsAre vs ns) {j : Nat} (h : j < ns.length) : ∃ x t, vs[j]? = some (.int x t) := by
  obtain ⟨t, e⟩ := hi.get j ns[j] (by simp [h])
  exact ⟨_, t, e⟩

/-- a new cell lies off what stood before -/
theorem cell1 {a L : Addr} (h : a < L) : L + 1 ≠ a := Nat.ne_of_gt (Nat.lt_succ_of_lt h)
theorem cell2 {a L : Addr} (h : a < L) : L + 1 + 1 ≠ a := Nat.ne_of_gt (Nat.lt_succ_of_lt (Nat.lt_succ_of_lt h))
theorem off_nil {a : Addr} : ∀ p ∈ ([] : List (Addr × Obj)), p.1 ≠ a := fun _ h => nomatch h
theorem off_cons {a b : Addr} {o : Obj} {l : List (Addr × Obj)} (h : b ≠ a) (k : ∀ p ∈ l, p.1 ≠ a) : ∀ p ∈ (b, o) :: l, p.1 ≠ a := fun p hp => by
  rcases List.mem_cons.mp hp with rfl | hp
  · exact h
  · exact k p hp
theorem off_app {a : Addr} {l l' : List (Addr × Obj)} (h : ∀ p ∈ l, p.1 ≠ a) (k : ∀ p ∈ l', p.1 ≠ a) : ∀ p ∈ l ++ l', p.1 ≠ a := fun p hp => (List.mem_append.mp hp).elim (h p) (k p)

/-- a comprehension by what holds between its turns -/
theorem comp_ind {w : World} {A : Around} {h₀ : Heap} {L : Addr} {m : Str → Option Value} {env : Env} {elt : Expr} {x : Str} {scope : Scope} {cl : List (Str × Addr)} {s : Shared} {S : List (Addr × Obj) → Prop} {P : Nat → Value → Prop} {Fin : List Value → List (Addr × Obj) → Prop} {n : Nat} {news : List (Addr × Obj)}
    (J : Nat → List Value → List (Addr × Obj) → Prop)
    (turn : ∀ i ys news v I oI C oC D m₂ h tk (E' : Value → Shared → Prop), i < n → P i v → J i ys news → LCg.NsObj oC m₂ → m₂ x = some v → Fr h₀ L h m → News h₀ L h ((I, oI) :: (C, oC) :: (D, LCg.lst ys) :: news) → LCg.Off3 I C D news → ((@Ne Nat I C) ∧ (@Ne Nat I D) ∧ (@Ne Nat C D)) →
      wpAny (model prog w) A (eval elt (compEnvC scope cl C env)) (LCg.CompEnd h₀ L m { s with heap := h, toks := tk } I oI C oC D (LCg.lst ys) S (fun y news' => J (i + 1) (ys ++ [y]) news')) E' { s with heap := h, toks := tk })
    (fin : ∀ ys news, J n ys news → Fin ys news) (h0 : J 0 [] news) : LCg.CompRest prog w A h₀ L m env elt x scope cl s S P Fin n 0 [] news := by
  have key : ∀ (j i : Nat) (ys : List Value) (news : List (Addr × Obj)), i + j = n → J i ys news → LCg.CompRest prog w A h₀ L m env elt x scope cl s S P Fin j i ys news := by
    intro j
    induction j with
    | zero =>
      intro i ys news e hj
      rw [Nat.add_zero] at e
      subst e
      exact LCg.CompRest.zero (fin ys news hj)
    | succ j ih =>
      intro i ys news e hj
      refine LCg.CompRest.succ ?_
      intro v I oI C oC D m₂ h tk E' hv hC hx F N off ne
      refine wpAny_mono (turn i ys news v I oI C oC D m₂ h tk E' (by omega) hv hj hC hx F N off ne) (fun y s₂ hq => ?_) fun _ _ e => e
      obtain ⟨h', tk', nw, e', F', N', off', hS, hn⟩ := hq
      exact ⟨h', tk', nw, e', F', N', off', hS, ih (i + 1) _ nw (by omega) hn⟩
  exact key n 0 [] news (by omega) h0

theorem range_size {v : Int} (h0 : 0 ≤ v) : Builtin.Range.rangeSize 0 v 1 = ((v.toNat : Nat) : Int) := by
  unfold Builtin.Range.rangeSize
  rw [if_pos (by decide)]
  split
  · rw [Int.ediv_one]; omega
  · omega
theorem ofS_nil : (Str.ofString "").cps = #[] := by decide +kernel

theorem glue_nil : ∀ (l : List PySem.Str) (a : Array Nat), l.foldl (fun acc p => acc ++ (#[] : Array Nat) ++ p.cps) a = a ++ (l.flatMap fun p => p.cps.toList).toArray
  | [], a => by simp
  | p :: l, a => by
    rw [List.foldl_cons, glue_nil l]
    apply Array.toList_inj.mp
    simp
theorem join_nil (l : List PySem.Str) : Txt.join (Str.ofString "") l = ⟨(l.flatMap fun p => p.cps.toList).toArray⟩ := by
  unfold Txt.join Builtin.Str.glued
  rw [ofS_nil, glue_nil]
  cases l with
  | nil => simp [PySem.Str.empty]
  | cons p l => simp
theorem join_signs (cs : List Nat) : Txt.join (Str.ofString "") (cs.map fun c => (⟨#[c]⟩ : PySem.Str)) = ⟨cs.toArray⟩ := by
  rw [join_nil]
  congr 2
  induction cs with
  | nil => rfl
  | cons c r ih => simpa using ih

theorem itemS {w : World} {A : Around} {E : Value → Shared → Prop} {s : Shared} {x : PySem.Str} {t u : Tok} {i : Int} {value slice : Expr} {Q : Value → Shared → Prop} (h0 : 0 ≤ i) (h1 : i < x.length) (hb : x.length ≤ 2 ^ 20)
    (h : ∀ c t, c ∈ x.cps.toList → Q (.str ⟨#[c]⟩ t) { s with toks := s.toks + 1 })
    (hs : subscripted slice false (.str x t) (.int i u) = operate [.str x t, .int i u] (getItem (.str x t) (.int i u)) := by with_unfolding_all rfl)
    (ht : ∀ r, letTemporaryGo value (.str x t) r = pure () := by intro _; with_unfolding_all rfl) :
    wpAny (model prog w) A (subscriptTail value slice (.str x t) (.int i u)) Q E s := by
  have hi : i.toNat < x.cps.size := by have : (x.length : Int) = x.cps.size := rfl; omega
  have e : Txt.item x i = ⟨#[x.cps[i.toNat]]⟩ := by
    have e0 : seqIndex? i x.length = some i.toNat := by
      unfold seqIndex?
      simp only [if_neg (show ¬ i < 0 by omega)]
      rw [if_pos (by simp; omega)]
    unfold Txt.item Txt.charAt
    rw [e0]
    simp [hi]
  refine item_str (fitsSsize_of (N := 9223372036854775808) (by omega) (by omega) (Int.le_refl _)) (by omega) h1 (fun _ => ?_) hs ht
  rw [e]
  exact h _ _ (by simp)
end Mine

end
section
open PySem PySem.W PySem.Calls PyProof.Rows PySem.Spec
set_option maxRecDepth 100000
set_option maxHeartbeats 4000000
namespace Mine
local macro_rules | `(tactic| walk_at "eval Name") => `(tactic| first
  | (refine' nmB ?S ?F ?D ?_ ?g ?b ?k ?x ?d; (case S => assumption); (case F => assumption); (case D => assumption); (case g => kernel_rfl); (case b => kernel_rfl); (case k => kernel_rfl); (case x => kernel_rfl); (case d => decide +kernel))
  | (refine' nmD ?S ?F ?D ?_ ?g ?k ?x ?d; (case S => assumption); (case F => assumption); (case D => assumption); (case g => kernel_rfl); (case k => kernel_rfl); (case x => kernel_rfl); (case d => decide +kernel))
  | (refine' nmV ?S ?F ?D ?_ ?g ?k ?x ?d; (case S => assumption); (case F => assumption); (case D => assumption); (case g => kernel_rfl); (case k => kernel_rfl); (case x => kernel_rfl); (case d => decide +kernel))
  | (refine' nmC ?N ?c ?m ?d ?_ ?k ?x ?e; (case N => assumption); (case c => rfl); (case m => k_mem); (case d => assumption); (case k => kernel_rfl); (case x => kernel_rfl); (case e => decide +kernel))
  | (refine' kcf_cell ?N ?c ?m ?d ?_ ?k ?x ?e; (case N => assumption); (case c => rfl); (case m => k_mem); (case d => assumption); (case k => kernel_rfl); (case x => kernel_rfl); (case e => decide +kernel)))
local macro_rules | `(tactic| walk_at "callWith ref") => `(tactic| (refine' cwD ?D ?_; (case D => assumption)))
local macro_rules | `(tactic| walk_at "Stood") => `(tactic| exact ⟨_, by assumption⟩)
theorem next_spec {w : World} {mg mb : Str → Option Value} {A : Around} {h₀ : Heap} {L : Addr} {s : Shared} {m : Str → Option Value} {rest : List (Addr × Obj)} {f st scr : Addr} {cdv : Value} {k : Int} {tk : Tok} {n n' : Nat} {vs : List Value} {ns : List Int} {lim : Int} {tl : Tok}
    {Q E : Value → Shared → Prop} (S : Sta w mg mb A h₀ L) (F : Fr h₀ L s.heap m) (N : News h₀ L s.heap ((st, listOf #[.ref scr, .int k tk] n) :: (scr, listOf vs.toArray n') :: rest)) (D : IsDef h₀ mg "_law_next" 18 f cdv) (hroom : A.depth + 1 < recursionLimit) (hu : A.units + 10 < cLine)
    (hne : scr ≠ st) (hoff : ∀ p ∈ rest, p.1 ≠ st) (hi : IntsAre vs ns) (hlen : ns.length ≤ 40) (hk0 : 0 ≤ k) (hk1 : k ≤ 1000000) (hl0 : 0 < lim) (hl1 : lim ≤ 100)
    (hQ : ∀ v t tk' h' tk2, 0 ≤ v → v < lim → Fr h₀ L h' m → News h₀ L h' ((st, listOf #[.ref scr, .int (k + 1) tk'] n) :: (scr, listOf vs.toArray n') :: rest) → Q (.int v t) { s with heap := h', toks := tk2 }) :
    wpAny (model prog w) A (call (.ref f) [.ref st, .int lim tl]) Q E s := by
  refine enter (binds := [("state", .ref st), ("limit", .int lim tl)]) S F N D (by omega) (fun doc pm => by kernel_rfl) (locs (by kernel_rfl)) (fun g L' h₁ S' F' N' => ?_) (by decide +kernel) (by kernel_rfl) (by kernel_rfl) (by kernel_rfl)
  refine wpAny_execs_cons ?_
  clear F N S D
  have Blen := S'.lib.len
  w_on
  k_unmd
  k_fold
  repeat' (first | walk1 | (dsimp only; walk1))
  dsimp only
  refine setHd1 F' N' (by intro p hp; rcases List.mem_cons.mp hp with rfl | hp; exact hne; exact hoff p hp) fun h2 F2 N2 => ?_
  clear F' N'
  k_unfold
  dsimp only
  repeat' (first | walk1 | (dsimp only; walk1) | (k_unfold; dsimp only))
  have hlv : vs.length = ns.length := hi.length
  refine lenL N2 (.tail _ (.head _)) (by rw [List.size_toArray]; omega) fun t1 tk1 => ?_
  dsimp only
  repeat' (first | walk1 | (dsimp only; walk1) | (k_unfold; dsimp only))
  · exact back_ F2 N2 fun F9 N9 => hQ _ _ _ _ _ (by omega) (by omega) F9 N9
  · exact back_ F2 N2 fun F9 N9 => hQ _ _ _ _ _ (Int.fmod_nonneg_of_pos _ hl0) (Int.fmod_lt_of_pos _ hl0) F9 N9
end Mine

end
section
open PySem PySem.W PySem.Calls PyProof.Rows PySem.Spec
set_option maxRecDepth 100000
set_option maxHeartbeats 4000000
namespace Mine
local macro_rules | `(tactic| walk_at "eval Name") => `(tactic| first
  | (refine' nmB ?S ?F ?D ?_ ?g ?b ?k ?x ?d; (case S => assumption); (case F => assumption); (case D => assumption); (case g => kernel_rfl); (case b => kernel_rfl); (case k => kernel_rfl); (case x => kernel_rfl); (case d => decide +kernel))
  | (refine' nmD ?S ?F ?D ?_ ?g ?k ?x ?d; (case S => assumption); (case F => assumption); (case D => assumption); (case g => kernel_rfl); (case k => kernel_rfl); (case x => kernel_rfl); (case d => decide +kernel))
  | (refine' nmV ?S ?F ?D ?_ ?g ?k ?x ?d; (case S => assumption); (case F => assumption); (case D => assumption); (case g => kernel_rfl); (case k => kernel_rfl); (case x => kernel_rfl); (case d => decide +kernel))
  | (refine' nmC ?N ?c ?m ?d ?_ ?k ?x ?e; (case N => assumption); (case c => rfl); (case m => k_mem); (case d => assumption); (case k => kernel_rfl); (case x => kernel_rfl); (case e => decide +kernel))
  | (refine' kcf_cell ?N ?c ?m ?d ?_ ?k ?x ?e; (case N => assumption); (case c => rfl); (case m => k_mem); (case d => assumption); (case k => kernel_rfl); (case x => kernel_rfl); (case e => decide +kernel)))
local macro_rules | `(tactic| walk_at "callWith ref") => `(tactic| (refine' cwD ?D ?_; (case D => assumption)))
local macro_rules | `(tactic| walk_at "Stood") => `(tactic| exact ⟨_, by assumption⟩)
theorem text_spec {w : World} {mg mb : Str → Option Value} {A : Around} {h₀ : Heap} {L : Addr} {s : Shared} {m : Str → Option Value} {rest : List (Addr × Obj)} {f st scr : Addr} {cdv : Value} {k : Int} {tk : Tok} {n n' : Nat} {vs : List Value} {ns : List Int} {sg : PySem.Str} {tl : Tok}
    {Q E : Value → Shared → Prop} (S : Sta w mg mb A h₀ L) (F : Fr h₀ L s.heap m) (N : News h₀ L s.heap ((st, listOf #[.ref scr, .int k tk] n) :: (scr, listOf vs.toArray n') :: rest)) (D : IsDef h₀ mg "_law_text" 19 f cdv) (hroom : A.depth + 2 < recursionLimit) (hu : A.units + 30 < cLine)
    (hne : scr ≠ st) (hoff : ∀ p ∈ rest, p.1 ≠ st) (hi : IntsAre vs ns) (hlen : ns.length ≤ 40) (hk0 : 0 ≤ k) (hk1 : k ≤ 900000) (hs0 : 0 < sg.length) (hs1 : sg.length ≤ 100)
    (hQ : ∀ (x : PySem.Str) t k' tk' h' tk2, k ≤ k' → k' ≤ k + 5 → x.length ≤ 4 → (∀ c ∈ x.cps.toList, c ∈ sg.cps.toList) → Fr h₀ L h' m → News h₀ L h' ((st, listOf #[.ref scr, .int k' tk'] n) :: (scr, listOf vs.toArray n') :: rest) → Q (.str x t) { s with heap := h', toks := tk2 }) :
    wpAny (model prog w) A (call (.ref f) [.ref st, .str sg tl]) Q E s := by
  refine enterC (binds := [("state", .ref st), ("signs", .str sg tl)]) (cl := fun L' => [("signs", L' + 1 + 1), ("state", L' + 1)]) (m₁ := fun _ => none)
    (cm := fun y => if y = "signs" then some (.str sg tl) else if y = "state" then some (.ref st) else none) S F N D (by omega) (fun doc pm => by kernel_rfl) (by kernel_rfl) (by decide +kernel) (fun L' => by kernel_rfl) (fun L' => by kernel_rfl) (fun L' => by kernel_rfl)
    (fun g L' h₁ tk0 cells S' F' N' Y lt => ?_) (by kernel_rfl) (by kernel_rfl) (by kernel_rfl)
  obtain ⟨o1, o2, rfl, d1, d2⟩ := Y.two
  replace d1 : o1.data = .cell (some (.str sg tl)) := by simpa using d1
  replace d2 : o2.data = .cell (some (.ref st)) := by rw [d2]; rfl
  dsimp only [List.cons_append, List.nil_append] at N'
  refine wpAny_execs_cons ?_
  clear F N S D
  have Blen := S'.lib.len
  have Brange := S'.lib.range
  obtain ⟨fn, cn, Dn⟩ := S'.lib.next
  w_on
  k_unmd
  k_fold
  repeat' (first | walk1 | (dsimp only; walk1))
  refine LCg.ListComp_U (cl := [("state", L' + 1), ("signs", L' + 1 + 1)]) F' (by kernel_rfl) (by decide +kernel) (by kernel_rfl) (by decide +kernel) (by kernel_rfl) ?_
  k_fold
  repeat' (first | walk1 | (dsimp only; walk1))
  have hst : st < L' := lt _ (.head _)
  refine next_spec (rest := (L' + 1 + 1, o1) :: (L' + 1, o2) :: rest) S' F' (News.sub N' (by kqd_sub)) Dn (by show A.depth + 1 + 1 < _; omega) (by show A.units + 3 + 10 < _; omega) hne
    (off_cons (cell2 hst) (off_cons (cell1 hst) hoff)) hi hlen hk0 (by omega) (by decide) (by decide) fun v t tk' h2 tk2 hv0 hv1 F2 N2 => ?_
  clear F' N'
  dsimp only
  repeat' (first | walk1 | (dsimp only; walk1))
  k_unfold
  dsimp only
  rename News _ _ _ _ => N3
  rename IsRange _ _ _ _ _ _ _ _ => hr
  rename Fr _ _ _ _ => F3
  refine LCg.CompSrc.range (n := v.toNat) (by show A.handled = none; exact S'.hand) F3 N3 hr (small_one (by decide) (by decide) (by omega) (by omega)) (range_size hv0) (by rw [sizeLine_eq]; omega) (fun g' => ?_)
  refine comp_ind (fun i ys nw => ∃ (cs : List Nat) (k' : Int) (tk' : Tok), StrsAre ys (cs.map fun c => ⟨#[c]⟩) ∧ cs.length = i ∧ k ≤ k' ∧ k' ≤ k + 1 + i ∧ (∀ c ∈ cs, c ∈ sg.cps.toList) ∧ nw = (st, listOf #[.ref scr, .int k' tk'] n) :: (scr, listOf vs.toArray n') :: (L' + 1 + 1, o1) :: (L' + 1, o2) :: rest) ?turn ?fin ⟨[], k + 1, _, .nil, rfl, by omega, by omega, by simp, rfl⟩
  case turn =>
    clear N3 F3
    rintro i ys nw v1 I oI C oC D m₂ h tk E' hin hv ⟨cs, k', tk', hs, hl, hk2, hk3, hx, rfl⟩ hC hx' F3 N3 off ne
    k_fold
    repeat' (first | walk1 | (dsimp only; walk1))
    have of := off.mem _ (.head _)
    refine next_spec (rest := (I, oI) :: (C, oC) :: (D, LCg.lst ys) :: (L' + 1 + 1, o1) :: (L' + 1, o2) :: rest) S' F3 (News.sub N3 (by kqd_sub)) Dn (by show A.depth + 1 + 1 < _; omega) (by show A.units + 3 + 10 < _; omega) hne
      (off_cons of.1.symm (off_cons of.2.1.symm (off_cons of.2.2.symm (off_cons (cell2 hst) (off_cons (cell1 hst) hoff))))) hi hlen (by omega) (by omega) (by omega) (by omega) fun v2 t2 tk2' h3 tk3 hv20 hv21 F4 N4 => ?_
    clear F3 N3
    dsimp only
    refine itemS hv20 hv21 (by omega) fun c tc hc => ?_
    k_unfold
    dsimp only
    refine LCg.CompEnd.intro F4 N4 ((st, listOf #[.ref scr, .int (k' + 1) tk2'] n) :: (scr, listOf vs.toArray n') :: (L' + 1 + 1, o1) :: (L' + 1, o2) :: rest) (by kqd_sub) ?_ trivial ⟨cs ++ [c], k' + 1, tk2', ?_, by simp [hl], by omega, by omega, ?_, rfl⟩
    · exact LCg.Off3.of (fun p hp => by
        rcases List.mem_cons.mp hp with rfl | hp
        · exact of
        · exact off.mem p (.tail _ hp))
    · rw [List.map_append]
      exact StrsAre.append' hs (.cons _ _ .nil)
    · intro x hx9
      rcases List.mem_append.mp hx9 with hx9 | hx9
      · exact hx x hx9
      · rw [List.mem_singleton.mp hx9]; exact hc
  case fin =>
    rintro ys nw ⟨cs, k', tk', hs, hl, hk2, hk3, hx, rfl⟩
    intro D h tk F4 N4 o4
    dsimp only
    repeat' (first | walk1 | (dsimp only; walk1))
    have hl4 : cs.length ≤ 4 := by omega
    refine join_listW (items := ys.toArray) (PySem.IsL.isList (n := ys.length) (N4 _ (.head _)).1) hs (by decide) ?_ fun t' tk9 => ?_
    · rw [List.map_map]
      have : ∀ l : List Nat, ((l.map (PySem.Str.length ∘ fun c => (⟨#[c]⟩ : PySem.Str))).sum = l.length) := by
        intro l
        induction l with
        | nil => rfl
        | cons a r ih => rw [List.map_cons, List.sum_cons, ih, List.length_cons]; show 1 + _ = _; omega
      rw [this, List.length_map]
      omega
    k_unfold
    dsimp only
    rw [join_signs]
    refine back_ F4 N4 fun F9 N9 => hQ _ _ k' tk' _ _ (by omega) (by omega) ?_ hx F9 (News.sub N9 (by kqd_sub))
    show cs.toArray.size ≤ 4
    simpa using hl4
end Mine

end
section
open PySem PySem.W

namespace Mine

/-- what is built: nothing, a text, a row -/
inductive Tr where
  | nul
  | leaf (s : List Nat)
  | node (ts : List Tr)

def NULLT : List Nat := [78, 85, 76, 76]

inductive Md where
  | out
  | val (v : List Nat)
  | str (v : List Nat)
  | esc (v : List Nat)

structure PS where
  md : Md
  stk : List (List Dat)
  heard : List (List Nat)

inductive Res where
  | ok (s : PS)
  | refused (h : List (List Nat))
  | bad

def mkS (l : List Nat) : PySem.Str := ⟨l.toArray⟩

def push (d : Dat) : List (List Dat) → List (List Dat)
  | [] => []
  | l :: r => (l ++ [d]) :: r

def got (n : Nat) (t : List Nat) : Dat := .tuple [.int (n : Int), .str (mkS t)]

def hear (stop : Nat) (t : List Nat) (s : PS) : Res :=
  if s.heard.length + 1 = stop then .refused (s.heard ++ [t])
  else .ok { md := .out, stk := push (got (s.heard.length + 1) t) s.stk, heard := s.heard ++ [t] }

def outStep (c : Nat) (s : PS) : Res :=
  if c = 123 then .ok { s with md := .out, stk := [] :: s.stk }
  else if c = 125 then (match s.stk with
    | l :: p :: r => .ok { s with md := .out, stk := push (.list l) (p :: r) }
    | _ => .bad)
  else if c = 44 then .ok { s with md := .out }
  else if c = 34 then .ok { s with md := .str [] }
  else .ok { s with md := .val [c] }

def Res.then (r : Res) (f : PS → Res) : Res := match r with
  | .ok s => f s
  | r => r

def step (stop : Nat) (c : Nat) (s : PS) : Res := match s.md with
  | .out => outStep c s
  | .val v =>
    if c = 125 ∨ c = 44 then
      (if v = NULLT then Res.ok { s with md := .out, stk := push .none s.stk } else hear stop v s).then (outStep c)
    else .ok { s with md := .val (v ++ [c]) }
  | .str v =>
    if c = 34 then hear stop v s
    else if c = 92 then .ok { s with md := .esc v }
    else .ok { s with md := .str (v ++ [c]) }
  | .esc v => .ok { s with md := .str (v ++ [c]) }

def run (stop : Nat) : List Nat → PS → Res
  | [], s => .ok s
  | c :: r, s => (step stop c s).then (run stop r)

theorem run_append (stop : Nat) (a b : List Nat) (s : PS) : run stop (a ++ b) s = (run stop a s).then (run stop b) := by
  induction a generalizing s with
  | nil => rfl
  | cons c r ih =>
    show (step stop c s).then (run stop (r ++ b)) = ((step stop c s).then (run stop r)).then (run stop b)
    cases step stop c s with
    | ok s' => exact ih s'
    | refused h => rfl
    | bad => rfl

/-! the writing -/
def bareOk (s : List Nat) : Prop := s ≠ [] ∧ s ≠ NULLT ∧ ∀ c ∈ s, c ∉ [123, 125, 44, 34, 92, 32, 10, 9, 40, 41]

def quoted (s : List Nat) (every : Bool) : List Nat :=
  34 :: (s.flatMap fun c => if every = true ∨ c = 34 ∨ c = 92 then [92, c] else [c]) ++ [34]

def commas : List (List Nat) → List Nat
  | [] => []
  | [a] => a
  | a :: b :: r => a ++ 44 :: commas (b :: r)

mutual
inductive Wr : Tr → List Nat → Prop
  | nul : Wr .nul NULLT
  | bare {s : List Nat} : bareOk s → Wr (.leaf s) s
  | quoted {s : List Nat} (every : Bool) : Wr (.leaf s) (quoted s every)
  | node {ts : List Tr} {xs : List (List Nat)} : Wrs ts xs → Wr (.node ts) (123 :: commas xs ++ [125])
inductive Wrs : List Tr → List (List Nat) → Prop
  | nil : Wrs [] []
  | cons {t : Tr} {x : List Nat} {ts : List Tr} {xs : List (List Nat)} : Wr t x → Wrs ts xs → Wrs (t :: ts) (x :: xs)
end

/-! what is due -/
mutual
def mk : Tr → List (List Nat) → Dat × List (List Nat)
  | .nul, h => (.none, h)
  | .leaf s, h => (got (h.length + 1) s, h ++ [s])
  | .node ts, h => let r := mks ts h; (.list r.1, r.2)
def mks : List Tr → List (List Nat) → List Dat × List (List Nat)
  | [], h => ([], h)
  | t :: ts, h => let a := mk t h; let b := mks ts a.2; (a.1 :: b.1, b.2)
end

mutual
def leaves : Tr → List (List Nat)
  | .nul => []
  | .leaf s => [s]
  | .node ts => leavess ts
def leavess : List Tr → List (List Nat)
  | [] => []
  | t :: ts => leaves t ++ leavess ts
end

mutual
theorem mk_heard : ∀ (t : Tr) (h : List (List Nat)), (mk t h).2 = h ++ leaves t
  | .nul, h => by simp [mk, leaves]
  | .leaf s, h => by simp [mk, leaves]
  | .node ts, h => by simp only [mk, leaves]; exact mks_heard ts h
theorem mks_heard : ∀ (ts : List Tr) (h : List (List Nat)), (mks ts h).2 = h ++ leavess ts
  | [], h => by simp [mks, leavess]
  | t :: ts, h => by simp only [mks, leavess]; rw [mks_heard ts, mk_heard t, List.append_assoc]
end

/-- where the reading stands behind one item: the rest is to be read from there; or the reader has refused -/
def After (stop : Nat) (t : Tr) (s : PS) (r : List Nat) (res : Res) : Prop :=
  (stop = 0 ∨ s.heard.length ≥ stop ∨ s.heard.length + (leaves t).length < stop) ∧ res = run stop r { md := .out, stk := push (mk t s.heard).1 s.stk, heard := s.heard ++ leaves t }
  ∨ (s.heard.length < stop ∧ stop ≤ s.heard.length + (leaves t).length) ∧ res = .refused ((s.heard ++ leaves t).take stop)

theorem run_str (stop : Nat) (every : Bool) (r : List Nat) : ∀ (s v : List Nat) (st : PS),
    run stop ((s.flatMap fun c => if every = true ∨ c = 34 ∨ c = 92 then [92, c] else [c]) ++ 34 :: r) { st with md := .str v } = (hear stop (v ++ s) { st with md := .str (v ++ s) }).then (run stop r)
  | [], v, st => by simp [run, step]
  | c :: s, v, st => by
    have ih := run_str stop every r s (v ++ [c]) st
    rw [List.append_assoc] at ih
    by_cases h : every = true ∨ c = 34 ∨ c = 92
    · simp only [List.flatMap_cons, if_pos h, List.cons_append, List.nil_append]
      simpa [run, step, Res.then] using ih
    · simp only [List.flatMap_cons, if_neg h, List.cons_append, List.nil_append]
      have h1 : c ≠ 34 := fun e => h (.inr (.inl e))
      have h2 : c ≠ 92 := fun e => h (.inr (.inr e))
      simpa [run, step, Res.then, h1, h2] using ih

theorem run_val (stop : Nat) (d : Nat) (hd : d = 125 ∨ d = 44) (r : List Nat) : ∀ (s v : List Nat) (st : PS), (∀ c ∈ s, c ≠ 125 ∧ c ≠ 44) →
    run stop (s ++ d :: r) { st with md := .val v } = ((if v ++ s = NULLT then Res.ok { st with md := .out, stk := push .none st.stk } else hear stop (v ++ s) { st with md := .val (v ++ s) }).then (outStep d)).then (run stop r)
  | [], v, st, _ => by simp [run, step, hd]
  | c :: s, v, st, h => by
    have ih := run_val stop d hd r s (v ++ [c]) st fun c hc => h c (.tail _ hc)
    rw [List.append_assoc] at ih
    have h1 := h c (.head _)
    simpa [run, step, Res.then, h1] using ih

theorem hear_then (stop : Nat) (t : List Nat) (st : PS) (md : Md) (f : PS → Res) : (hear stop t { st with md := md }).then f =
    if st.heard.length + 1 = stop then .refused (st.heard ++ [t]) else f { md := .out, stk := push (got (st.heard.length + 1) t) st.stk, heard := st.heard ++ [t] } := by
  unfold hear
  split <;> rfl

theorem take_last (h : List (List Nat)) (s : List Nat) (stop : Nat) (e : h.length + 1 = stop) : (h ++ [s]).take stop = h ++ [s] := by
  rw [List.take_of_length_le]; simp; omega

theorem after_leaf {stop : Nat} {s : List Nat} {st : PS} {r : List Nat} {f : PS → Res} (hf : ∀ st' : PS, f { st' with md := .out } = run stop r { st' with md := .out }) :
    After stop (.leaf s) st r (if st.heard.length + 1 = stop then .refused (st.heard ++ [s]) else f { md := .out, stk := push (got (st.heard.length + 1) s) st.stk, heard := st.heard ++ [s] }) := by
  unfold After
  simp only [leaves, List.length_singleton, mk]
  by_cases e : st.heard.length + 1 = stop
  · rw [if_pos e, take_last _ _ _ e]
    exact .inr ⟨⟨by omega, by omega⟩, rfl⟩
  · rw [if_neg e]
    refine .inl ⟨by omega, ?_⟩
    exact hf { md := .out, stk := push (got (st.heard.length + 1) s) st.stk, heard := st.heard ++ [s] }

/-- the out step at a closing sign, then the rest -/
theorem run_cons_out (stop c : Nat) (r : List Nat) (st : PS) : run stop (c :: r) { st with md := .out } = (outStep c { st with md := .out }).then (run stop r) := rfl

theorem run_leaf_bare {stop : Nat} {s : List Nat} (h : bareOk s) {d : Nat} (hd : d = 125 ∨ d = 44) (r : List Nat) (st : PS) (ho : st.md = .out) :
    After stop (.leaf s) st (d :: r) (run stop (s ++ d :: r) st) := by
  obtain ⟨h0, hn, hc⟩ := h
  cases s with
  | nil => exact absurd rfl h0
  | cons c s =>
    have c1 := hc c (.head _)
    simp at c1
    have e : run stop ((c :: s) ++ d :: r) st = run stop (s ++ d :: r) { st with md := .val [c] } := by
      show (step stop c st).then (run stop (s ++ d :: r)) = _
      unfold step
      rw [ho]
      simp [outStep, c1, Res.then]
    rw [e, run_val stop d hd r s [c] st fun x hx => by have := hc x (.tail _ hx); simp at this; omega]
    have e2 : [c] ++ s = c :: s := rfl
    rw [e2, if_neg hn, hear_then]
    have := @after_leaf stop (c :: s) st (d :: r) (fun st' => (outStep d st').then (run stop r)) (fun st' => rfl)
    split
    · rename_i q; rw [if_pos q] at this; exact this
    · rename_i q; rw [if_neg q] at this; exact this

theorem run_nul {stop : Nat} {d : Nat} (hd : d = 125 ∨ d = 44) (r : List Nat) (st : PS) (ho : st.md = .out) :
    After stop .nul st (d :: r) (run stop (NULLT ++ d :: r) st) := by
  have e : run stop (NULLT ++ d :: r) st = run stop ([85, 76, 76] ++ d :: r) { st with md := .val [78] } := by
    show (step stop 78 st).then (run stop ([85, 76, 76] ++ d :: r)) = _
    unfold step
    rw [ho]
    simp [outStep, Res.then]
  rw [e, run_val stop d hd r [85, 76, 76] [78] st fun x hx => by simp at hx; omega]
  have e2 : [78] ++ [85, 76, 76] = NULLT := rfl
  rw [e2, if_pos rfl]
  refine .inl ⟨?_, ?_⟩
  · simp [leaves]; omega
  · simp [mk, leaves]; rfl

theorem run_leaf_quoted {stop : Nat} {s : List Nat} (every : Bool) (r : List Nat) (st : PS) (ho : st.md = .out) :
    After stop (.leaf s) st r (run stop (quoted s every ++ r) st) := by
  have e : run stop (quoted s every ++ r) st = run stop ((s.flatMap fun c => if every = true ∨ c = 34 ∨ c = 92 then [92, c] else [c]) ++ 34 :: r) { st with md := .str [] } := by
    have : quoted s every ++ r = 34 :: ((s.flatMap fun c => if every = true ∨ c = 34 ∨ c = 92 then [92, c] else [c]) ++ 34 :: r) := by simp [quoted]
    rw [this]
    show (step stop 34 st).then _ = _
    unfold step
    rw [ho]
    simp [outStep, Res.then]
  rw [e, run_str, List.nil_append, hear_then]
  exact after_leaf fun _ => rfl

theorem push_push (l : List Dat) (d : Dat) (r : List (List Dat)) : push d (l :: r) = (l ++ [d]) :: r := rfl

mutual
theorem run_tree {stop : Nat} : ∀ {t : Tr} {x : List Nat}, Wr t x → ∀ {d : Nat}, (d = 125 ∨ d = 44) → ∀ (r : List Nat) (st : PS), st.md = .out → st.stk ≠ [] →
    After stop t st (d :: r) (run stop (x ++ d :: r) st)
  | _, _, .nul, _, hd, r, st, ho, _ => run_nul hd r st ho
  | _, _, .bare h, _, hd, r, st, ho, _ => run_leaf_bare h hd r st ho
  | _, _, .quoted every, _, _, r, st, ho, _ => run_leaf_quoted every _ st ho
  | _, _, .node hs, d, hd, r, st, ho, hk => by
    exact run_node hs (d :: r) st ho hk
theorem run_node {stop : Nat} : ∀ {ts : List Tr} {xs : List (List Nat)}, Wrs ts xs → ∀ (r : List Nat) (st : PS), st.md = .out → st.stk ≠ [] →
    After stop (.node ts) st r (run stop ((123 :: commas xs ++ [125]) ++ r) st)
  | ts, xs, hs, r, st, ho, hk => by
    have e : run stop ((123 :: commas xs ++ [125]) ++ r) st = run stop (commas xs ++ 125 :: r) { md := .out, stk := [] :: st.stk, heard := st.heard } := by
      have : (123 :: commas xs ++ [125]) ++ r = 123 :: (commas xs ++ 125 :: r) := by simp
      rw [this]
      show (step stop 123 st).then _ = _
      unfold step
      rw [ho]
      simp [outStep, Res.then]
    rw [e]
    have h := run_items (stop := stop) hs r [] st.stk st.heard hk
    unfold After
    simp only [leaves, mk]
    rcases h with ⟨a, b⟩ | ⟨a, b⟩
    · exact .inl ⟨a, by rw [b, List.nil_append]⟩
    · exact .inr ⟨a, b⟩
theorem run_items {stop : Nat} : ∀ {ts : List Tr} {xs : List (List Nat)}, Wrs ts xs → ∀ (r : List Nat) (l : List Dat) (k : List (List Dat)) (h : List (List Nat)), k ≠ [] →
    ((stop = 0 ∨ h.length ≥ stop ∨ h.length + (leavess ts).length < stop) ∧ run stop (commas xs ++ 125 :: r) { md := .out, stk := l :: k, heard := h } = run stop r { md := .out, stk := push (.list (l ++ (mks ts h).1)) k, heard := h ++ leavess ts })
    ∨ ((h.length < stop ∧ stop ≤ h.length + (leavess ts).length) ∧ run stop (commas xs ++ 125 :: r) { md := .out, stk := l :: k, heard := h } = .refused ((h ++ leavess ts).take stop))
  | _, _, .nil, r, l, k, h, hk => by
    refine .inl ⟨by simp [leavess]; omega, ?_⟩
    cases k with
    | nil => exact absurd rfl hk
    | cons p q => simp [commas, run, step, outStep, Res.then, mks, leavess]
  | t :: ts, x :: xs, .cons ht hs, r, l, k, h, hk => by
    cases xs with
    | nil =>
      cases hs
      have a := run_tree (stop := stop) ht (d := 125) (.inl rfl) r { md := .out, stk := l :: k, heard := h } rfl (by simp)
      unfold After at a
      simp only [commas, leavess, List.append_nil, mks]
      rcases a with ⟨a, b⟩ | ⟨a, b⟩
      · refine .inl ⟨a, ?_⟩
        rw [b]
        cases k with
        | nil => exact absurd rfl hk
        | cons p q => simp [run, step, outStep, Res.then, push]
      · exact .inr ⟨a, b⟩
    | cons y ys =>
      have a := run_tree (stop := stop) ht (d := 44) (.inr rfl) (commas (y :: ys) ++ 125 :: r) { md := .out, stk := l :: k, heard := h } rfl (by simp)
      unfold After at a
      have e : commas (x :: y :: ys) ++ 125 :: r = x ++ 44 :: (commas (y :: ys) ++ 125 :: r) := by simp [commas]
      rw [e]
      simp only [leavess, mks, List.length_append]
      rcases a with ⟨a, b⟩ | ⟨a, b⟩
      · rw [b]
        have q : run stop (44 :: (commas (y :: ys) ++ 125 :: r)) { md := .out, stk := push (mk t h).1 (l :: k), heard := h ++ leaves t } = run stop (commas (y :: ys) ++ 125 :: r) { md := .out, stk := (l ++ [(mk t h).1]) :: k, heard := h ++ leaves t } := by
          simp [run, step, outStep, Res.then, push]
        rw [q]
        have c := run_items (stop := stop) hs r (l ++ [(mk t h).1]) k (h ++ leaves t) hk
        rw [List.append_assoc, List.append_assoc, List.length_append] at c
        rw [mk_heard]
        dsimp only at a
        rcases c with ⟨c, d⟩ | ⟨c, d⟩
        · refine .inl ⟨by omega, ?_⟩
          rw [d]; rfl
        · refine .inr ⟨by omega, ?_⟩
          rw [d]
      · refine .inr ⟨?_, ?_⟩
        · dsimp only at a; omega
        · rw [b]
          dsimp only at a ⊢
          rw [← List.append_assoc, List.take_append_of_le_length (l₁ := h ++ leaves t) (by rw [List.length_append]; omega)]
end

/-- the law's plain half -/
theorem run_whole {stop : Nat} {ts : List Tr} {x : List Nat} (h : Wr (.node ts) x) :
    run stop x { md := .out, stk := [[]], heard := [] } =
      if stop = 0 ∨ (leaves (.node ts)).length < stop then .ok { md := .out, stk := [[(mk (.node ts) []).1]], heard := leaves (.node ts) } else .refused ((leaves (.node ts)).take stop) := by
  cases h with
  | node hs =>
    have a := run_node (stop := stop) hs [] { md := .out, stk := [[]], heard := [] } rfl (by simp)
    unfold After at a
    simp only [List.append_nil, List.nil_append, List.length_nil, Nat.zero_add, push] at a
    rcases a with ⟨a, b⟩ | ⟨a, b⟩
    · rw [b, if_pos (by omega)]; rfl
    · rw [b, if_neg (by omega)]
end Mine

end
section
open PySem PySem.W PySem.Calls PyProof.Rows PySem.Spec
set_option maxRecDepth 100000
set_option maxHeartbeats 4000000
namespace Mine
local macro_rules | `(tactic| walk_at "eval Name") => `(tactic| first
  | (refine' nmB ?S ?F ?D ?_ ?g ?b ?k ?x ?d; (case S => assumption); (case F => assumption); (case D => assumption); (case g => kernel_rfl); (case b => kernel_rfl); (case k => kernel_rfl); (case x => kernel_rfl); (case d => decide +kernel))
  | (refine' nmD ?S ?F ?D ?_ ?g ?k ?x ?d; (case S => assumption); (case F => assumption); (case D => assumption); (case g => kernel_rfl); (case k => kernel_rfl); (case x => kernel_rfl); (case d => decide +kernel))
  | (refine' nmV ?S ?F ?D ?_ ?g ?k ?x ?d; (case S => assumption); (case F => assumption); (case D => assumption); (case g => kernel_rfl); (case k => kernel_rfl); (case x => kernel_rfl); (case d => decide +kernel))
  | (refine' nmC ?N ?c ?m ?d ?_ ?k ?x ?e; (case N => assumption); (case c => rfl); (case m => k_mem); (case d => assumption); (case k => kernel_rfl); (case x => kernel_rfl); (case e => decide +kernel))
  | (refine' kcf_cell ?N ?c ?m ?d ?_ ?k ?x ?e; (case N => assumption); (case c => rfl); (case m => k_mem); (case d => assumption); (case k => kernel_rfl); (case x => kernel_rfl); (case e => decide +kernel)))
local macro_rules | `(tactic| walk_at "callWith ref") => `(tactic| (refine' cwD ?D ?_; (case D => assumption)))
local macro_rules | `(tactic| walk_at "Stood") => `(tactic| exact ⟨_, by assumption⟩)
/-- a text that a leaf may be -/
def OkT (s : List Nat) : Prop := s.length ≤ 5 ∧ ∀ c ∈ s, c < 55296
inductive LeafV : Value → Tr → Prop
  | nul : LeafV .none .nul
  | txt {s : List Nat} {t : Tok} : OkT s → LeafV (.str (mkS s) t) (.leaf s)
theorem mkS_cps (x : PySem.Str) : mkS x.cps.toList = x := by cases x; simp [mkS]
theorem any_ok : ∀ c ∈ (Str.ofString "aZ7-.:'éあ{},\"\\ \n\t()").cps.toList, c < 55296 := by decide +kernel
theorem word_ok : ∀ c ∈ (Str.ofString "aZ7-.:'éあ").cps.toList, c < 55296 := by decide +kernel

theorem leaf_spec {w : World} {mg mb : Str → Option Value} {A : Around} {h₀ : Heap} {L : Addr} {s : Shared} {m : Str → Option Value} {rest : List (Addr × Obj)} {f st scr : Addr} {cdv : Value} {k : Int} {tk : Tok} {n n' : Nat} {vs : List Value} {ns : List Int}
    {Q E : Value → Shared → Prop} (S : Sta w mg mb A h₀ L) (F : Fr h₀ L s.heap m) (N : News h₀ L s.heap ((st, listOf #[.ref scr, .int k tk] n) :: (scr, listOf vs.toArray n') :: rest)) (D : IsDef h₀ mg "_law_leaf" 20 f cdv) (hroom : A.depth + 3 < recursionLimit) (hu : A.units + 40 < cLine)
    (hne : scr ≠ st) (hoff : ∀ p ∈ rest, p.1 ≠ st) (hi : IntsAre vs ns) (hlen : ns.length ≤ 40) (hk0 : 0 ≤ k) (hk1 : k ≤ 800000)
    (hQ : ∀ v t k' tk' h' tk2, k ≤ k' → k' ≤ k + 6 → LeafV v t → Fr h₀ L h' m → News h₀ L h' ((st, listOf #[.ref scr, .int k' tk'] n) :: (scr, listOf vs.toArray n') :: rest) → Q v { s with heap := h', toks := tk2 }) :
    wpAny (model prog w) A (call (.ref f) [.ref st]) Q E s := by
  refine enter (binds := [("state", .ref st)]) S F N D (by omega) (fun doc pm => by kernel_rfl) (locs (by kernel_rfl)) (fun g L' h₁ S' F' N' => ?_) (by decide +kernel) (by kernel_rfl) (by kernel_rfl) (by kernel_rfl)
  refine wpAny_execs_cons ?_
  clear F N S D
  obtain ⟨fn, cn, Dn⟩ := S'.lib.next
  obtain ⟨ft, ct, Dt⟩ := S'.lib.text
  obtain ⟨t1, hAny⟩ := S'.lib.any'
  obtain ⟨t2, hWord⟩ := S'.lib.word
  w_on
  k_unmd
  k_fold
  repeat' (first | walk1 | (dsimp only; walk1))
  refine next_spec (rest := rest) S' F' N' Dn (by show A.depth + 1 + 1 < _; omega) (by show A.units + 3 + 10 < _; omega) hne hoff hi hlen hk0 (by omega) (by decide) (by decide) fun v t tk' h2 tk2 hv0 hv1 F2 N2 => ?_
  clear F' N'
  dsimp only
  repeat' (first | walk1 | (dsimp only; walk1) | (k_unfold; dsimp only))
  all_goals (rename Fr _ _ _ _ => F3; rename News _ _ _ _ => N3)
  · refine text_spec (rest := rest) S' F3 N3 Dt (by show A.depth + 1 + 2 < _; omega) (by show A.units + 3 + 30 < _; omega) hne hoff hi hlen (by omega) (by omega) (by decide +kernel) (by decide +kernel) fun x tx k' tk3 h5 tk5 hk2 hk3 hx hc F5 N5 => ?_
    dsimp only
    refine back_ F5 N5 fun F9 N9 => hQ _ (.leaf x.cps.toList) k' _ _ _ (by omega) (by omega) ?_ F9 N9
    show LeafV (.str x tx) _
    rw [← mkS_cps x]
    refine .txt ⟨?_, fun c hc9 => any_ok c (hc c ?_)⟩
    · have : x.cps.size = x.length := rfl
      simp [mkS]; omega
    · simpa [mkS] using hc9
  · refine text_spec (rest := rest) S' F3 N3 Dt (by show A.depth + 1 + 2 < _; omega) (by show A.units + 3 + 30 < _; omega) hne hoff hi hlen (by omega) (by omega) (by decide +kernel) (by decide +kernel) fun x tx k' tk3 h5 tk5 hk2 hk3 hx hc F5 N5 => ?_
    dsimp only
    clear F3 N3
    repeat' (first | walk1 | (dsimp only; walk1) | (k_unfold; dsimp only))
    refine back_ (by assumption) (by assumption) fun F9 N9 => hQ _ (.leaf (119 :: x.cps.toList)) k' _ _ _ (by omega) (by omega) ?_ F9 N9
    have e : Str.ofString "w" ++ x = mkS (119 :: x.cps.toList) := by
      refine PySem.Str.ext' (Array.toList_inj.mp ?_)
      rw [PySem.Str.cps_append, show (Str.ofString "w").cps = #[119] by decide +kernel]
      simp [mkS]
    show LeafV (.str (Str.ofString "w" ++ x) _) _
    rw [e]
    refine .txt ⟨?_, fun c hc9 => ?_⟩
    · have : x.cps.size = x.length := rfl
      simp; omega
    · rcases List.mem_cons.mp hc9 with rfl | hc9
      · decide
      · exact word_ok c (hc c hc9)
  · dsimp only
    exact back_ F3 N3 fun F9 N9 => hQ _ .nul _ _ _ _ (by omega) (by omega) .nul F9 N9
  · dsimp only
    refine back_ F3 N3 fun F9 N9 => hQ _ (.leaf NULLT) _ _ _ _ (by omega) (by omega) ?_ F9 N9
    rw [show Str.ofString "NULL" = mkS NULLT by decide +kernel]
    exact .txt ⟨by decide, by decide⟩
  · dsimp only
    refine back_ F3 N3 fun F9 N9 => hQ _ (.leaf []) _ _ _ _ (by omega) (by omega) ?_ F9 N9
    rw [show Str.ofString "" = mkS [] by decide +kernel]
    exact .txt ⟨by decide, by decide⟩
end Mine

end
section
open PySem PySem.W PySem.Calls PyProof.Rows PySem.Spec
set_option maxRecDepth 100000
set_option maxHeartbeats 4000000
namespace Mine
/-- the library's form of a loop, under a name of its own -/
def LoopM (prog : Program) (w : World) (A : Around) (h₀ : Heap) (env : Env) (x : Str) (body : List Stmt) (Q : Flow → Shared → Prop) (E : Value → Shared → Prop) (it : Value) (s₂ : Shared) : Prop := LoopAtV prog w A h₀ env x body Q E it s₂
section
variable {w : World} {A : Around} {E : Value → Shared → Prop} {s : Shared} {env : Env} {h₀ : Heap} {x : Str} {body : List Stmt} {Q : Flow → Shared → Prop}
theorem for_ {m : Str → Option Value} {px pos : Pos} {iter : Expr} (_F : Fr h₀ env.locals s.heap m) (hx : env.kindOf x = some .local)
    (hp : (env.scope.kind == .class || (env.scope.kind == .module && env.locals != env.globals)) = false)
    (h : wpAny (model prog w) A (eval iter env) (fun xv s₁ => wpAny (model prog w) A (pyIter xv) (fun it s₂ => LoopM prog w A h₀ env x body Q E it s₂) E s₁) E s)
    (hs : ∀ x, foldedSetIterable iter env x = pure x := by intro _; rfl)
    (hE : PassesOwn (model prog w) A env E := by passes_own) :
    wpAny (model prog w) A (exec (.For (.Name x px) iter body [] pos) env) Q E s := For_invV h₀ hx hp h hs hE
/-- a loop over a list of the ledger -/
theorem for_list {l : Addr} {vs : List Value} {nn : Nat} {m₀ : Str → Option Value} {news : List (Addr × Obj)} (J : Nat → (Str → Option Value) → List (Addr × Obj) → Prop)
    (hh : A.handled = none) (F : Fr h₀ env.locals s.heap m₀) (N : News h₀ env.locals s.heap news) (hl : (l, listOf vs.toArray nn) ∈ news) (hj : J 0 m₀ news)
    (turn : ∀ i v m₁ news₁ h tk own, vs[i]? = some v → OwnOff own (news₁.map (·.1)) → (l, listOf vs.toArray nn) ∈ news₁ → J i m₁ news₁ → Fr h₀ env.locals h (fun y => if y = x then some v else m₁ y) → News h₀ env.locals h (news₁ ++ own) →
      wpAny (model prog w) A (execs body env) (InvPostG h₀ env.locals (fun m' nx => (l, listOf vs.toArray nn) ∈ nx ∧ J (i + 1) m' nx) own { s with heap := h, toks := tk } Q) E { s with heap := h, toks := tk })
    (done : ∀ m₁ news₁ h tk, J vs.length m₁ news₁ → Fr h₀ env.locals h m₁ → News h₀ env.locals h news₁ → Q .next { s with heap := h, toks := tk }) :
    wpAny (model prog w) A (pyIter (.ref l)) (fun it s₂ => LoopM prog w A h₀ env x body Q E it s₂) E s := kdl_iter J hh hl F N hj turn done
/-- a loop over a range, by what holds between its turns -/
theorem for_range {r : Addr} {b₀ : Int} {t₀ u₀ v₀ : Tok} {n : Nat} {m₀ : Str → Option Value} {news : List (Addr × Obj)} (J : Nat → (Str → Option Value) → List (Addr × Obj) → Prop)
    (hh : A.handled = none) (F : Fr h₀ env.locals s.heap m₀) (N : News h₀ env.locals s.heap news) (hr : IsRange s.heap r 0 b₀ 1 t₀ u₀ v₀) (hsmall : Builtin.Range.small 0 b₀ 1 = true) (hsz : Builtin.Range.rangeSize 0 b₀ 1 = (n : Int)) (hj : J 0 m₀ news)
    (turn : ∀ i t m₁ nx h tk own, i < n → OwnOff own (nx.map (·.1)) → J i m₁ nx → Fr h₀ env.locals h (fun y => if y = x then some (.int (i : Int) t) else m₁ y) → News h₀ env.locals h (nx ++ own) →
      wpAny (model prog w) A (execs body env) (InvPostG h₀ env.locals (J (i + 1)) own { s with heap := h, toks := tk } Q) E { s with heap := h, toks := tk })
    (done : ∀ m₁ nx h tk, J n m₁ nx → Fr h₀ env.locals h m₁ → News h₀ env.locals h nx → Q .next { s with heap := h, toks := tk }) :
    wpAny (model prog w) A (pyIter (.ref r)) (fun it s₂ => LoopM prog w A h₀ env x body Q E it s₂) E s := by
  refine wpAny_pyIter_range hr hsmall ?_
  have W : Walks prog w A s.heap.objs.size [s.heap.objs.size] [s.heap.objs.size] n (fun i v => ∃ t, v = .int (0 + i * 1) t)
      (fun i h => IsRangeIter h s.heap.objs.size (0 + (i : Nat) * 1) ((n : Int) - (i : Nat)) 1) := Walks.range hh _ 0 1 n
  refine kdr_loop J W (fun _ h => h) (fun _ h => h) ?_ ?_ ?_ ?_ (by show IsRangeIter _ _ _ _ _; rw [hsz]; simpa using Heap.get?_push_size _ rfl) (F.push _) (fun p hp => ⟨Heap.get?_push_of_some _ (N p hp).1, (N p hp).2⟩) hj ?_ done
  · intro i h hi b hb
    rw [List.mem_singleton.mp hb]
    exact ⟨_, hi⟩
  · intro hm
    exact absurd F.ns.lt ((List.mem_singleton.mp hm) ▸ Nat.lt_irrefl _)
  · intro b hb
    rw [List.mem_singleton.mp hb]
    exact next_is_new F
  · intro p hp hI
    exact absurd (Heap.lt_size (N p hp).1) ((List.mem_singleton.mp hI) ▸ Nat.lt_irrefl _)
  · rintro i v m₁ nx h tk own hi ⟨t, rfl⟩ hoff hj' F₁ N₁
    have e1 : (0 : Int) + (i : Int) * 1 = (i : Int) := by omega
    rw [e1] at F₁
    exact turn i t m₁ nx h tk own hi hoff hj' F₁ N₁
/-- a loop over the signs of a text -/
theorem for_str {z : PySem.Str} {t₀ : Tok} {m₀ : Str → Option Value} {news : List (Addr × Obj)} (J : Nat → (Str → Option Value) → List (Addr × Obj) → Prop)
    (hh : A.handled = none) (F : Fr h₀ env.locals s.heap m₀) (N : News h₀ env.locals s.heap news) (hj : J 0 m₀ news)
    (turn : ∀ i c t m₁ nx h tk own, z.cps[i]? = some c → OwnOff own (nx.map (·.1)) → J i m₁ nx → Fr h₀ env.locals h (fun y => if y = x then some (.str ⟨#[c]⟩ t) else m₁ y) → News h₀ env.locals h (nx ++ own) →
      wpAny (model prog w) A (execs body env) (InvPostG h₀ env.locals (J (i + 1)) own { s with heap := h, toks := tk } Q) E { s with heap := h, toks := tk })
    (done : ∀ m₁ nx h tk, J z.cps.size m₁ nx → Fr h₀ env.locals h m₁ → News h₀ env.locals h nx → Q .next { s with heap := h, toks := tk }) :
    wpAny (model prog w) A (pyIter (.str z t₀)) (fun it s₂ => LoopM prog w A h₀ env x body Q E it s₂) E s := by
  have key : ∀ (o : Obj) (St : Nat → Heap → Prop), (∀ A' : Around, A'.handled = none → Walks prog w A' s.heap.objs.size [s.heap.objs.size] [s.heap.objs.size] z.cps.size (SignAt z) St) → (∀ i h, St i h → ∃ o, h.get? s.heap.objs.size = some o) → St 0 (s.heap.push o) →
      LoopAtV prog w A h₀ env x body Q E (.ref s.heap.objs.size) { s with heap := s.heap.push o } := by
    intro o St W ho h0
    refine kdr_loop J (W A hh) (fun _ h => h) (fun _ h => h) ?_ ?_ ?_ ?_ h0 (F.push _) (fun p hp => ⟨Heap.get?_push_of_some _ (N p hp).1, (N p hp).2⟩) hj ?_ done
    · intro i h hi b hb
      rw [List.mem_singleton.mp hb]
      exact ho i h hi
    · intro hm
      exact absurd F.ns.lt ((List.mem_singleton.mp hm) ▸ Nat.lt_irrefl _)
    · intro b hb
      rw [List.mem_singleton.mp hb]
      exact next_is_new F
    · intro p hp hI
      exact absurd (Heap.lt_size (N p hp).1) ((List.mem_singleton.mp hI) ▸ Nat.lt_irrefl _)
    · rintro i v m₁ nx h tk own hi ⟨c, u, hc, rfl⟩ hoff hj' F₁ N₁
      exact turn i c u m₁ nx h tk own hc hoff hj' F₁ N₁
  cases ha : z.cps.all (· < 128)
  · exact wpAny_pyIter_wide ha (key _ (fun i h => h.IsStrIter s.heap.objs.size "str_iterator" z t₀ i) (fun A' hA => Walks.strWide hA _ z t₀) (fun i h hs => let ⟨o, e, _⟩ := hs; ⟨o, e⟩) ⟨_, Heap.get?_push_size _ rfl, rfl, rfl⟩)
  · exact wpAny_pyIter_ascii ha (key _ (fun i h => h.IsStrIter s.heap.objs.size "str_ascii_iterator" z t₀ i) (fun A' hA => Walks.strAscii hA _ z t₀) (fun i h hs => let ⟨o, e, _⟩ := hs; ⟨o, e⟩) ⟨_, Heap.get?_push_size _ rfl, rfl, rfl⟩)

/-- a new address lies behind the ledger -/
def Behind (news : List (Addr × Obj)) (l : Addr) : Prop := ∀ p ∈ news, p.1 < l
theorem Behind.ne {news : List (Addr × Obj)} {l : Addr} (h : Behind news l) {p : Addr × Obj} (hp : p ∈ news) : l ≠ p.1 := Nat.ne_of_gt (h p hp)
theorem newL {L : Addr} {m : Str → Option Value} {news : List (Addr × Obj)} {vs : List Value} {Q : Value → Shared → Prop} (F : Fr h₀ L s.heap m) (N : News h₀ L s.heap news)
    (h : ∀ l h', Fr h₀ L h' m → News h₀ L h' ((l, listOf vs.toArray 0) :: news) → Behind news l → Q (.ref l) { s with heap := h' }) (hsz : vs.length ≤ sizeLine := by size_fits) : wpAny (model prog w) A (newList vs) Q E s := newList_K F N h hsz
section
variable {L a c : Addr} {news : List (Addr × Obj)} {cn x : Str} {cs : Scope} {ccd v : Value} {cl : List (Str × Addr)} {o : Obj} {pos : Pos} {Q : Value → Shared → Prop}
theorem nmCell (N : News h₀ L s.heap news) (hc : cl.lookup x = some c) (hm : (c, o) ∈ news) (hd : o.data = .cell (some v)) (h : Q v s)
    (hk : cs.kind = .function) (hx : cs.names.lookup x = some .cell) (hb : (x == ("__debug__" : Str)) = false) :
    wpAny (model prog w) A (eval (.Name x pos) (envX cn cs L a ccd cl)) Q E s := nameX_C N hc hm hd h hk hx hb
theorem nmFree (N : News h₀ L s.heap news) (hc : cl.lookup x = some c) (hm : (c, o) ∈ news) (hd : o.data = .cell (some v)) (h : Q v s)
    (hk : cs.kind = .function) (hx : cs.names.lookup x = some .free) (hb : (x == ("__debug__" : Str)) = false) (hn : (x == ("__classdict__" : Str)) = false) :
    wpAny (model prog w) A (eval (.Name x pos) (envX cn cs L a ccd cl)) Q E s := nameX_F N hc hm hd h hk hx hb hn
end
theorem newT {L : Addr} {m : Str → Option Value} {news : List (Addr × Obj)} {vs : List Value} {Q : Value → Shared → Prop} (F : Fr h₀ L s.heap m) (N : News h₀ L s.heap news)
    (h : ∀ l h', Fr h₀ L h' m → News h₀ L h' ((l, ({ cls := .type "tuple", data := .seq vs.toArray 0 } : Obj)) :: news) → Behind news l → Q (.ref l) { s with heap := h' }) (hsz : vs.length ≤ sizeLine := by size_fits) : wpAny (model prog w) A (newTuple vs) Q E s :=
  kup_newTuple F N h hsz
/-- here the walk stops -/
def Halt (P : Prop) : Prop := P
theorem halt {P : Prop} (h : Halt P) : P := h
/-- append to a list that stands first in the ledger -/
theorem appendHd {L d : Addr} {m : Str → Option Value} {rest : List (Addr × Obj)} {its : Array Value} {n : Nat} {v : Value} {Q : Value → Shared → Prop} (F : Fr h₀ L s.heap m) (N : News h₀ L s.heap ((d, listOf its n) :: rest)) (ap : ∀ p ∈ rest, p.1 ≠ d)
    (hsz : its.size ≤ sizeLine) (h : ∀ h', Fr h₀ L h' m → News h₀ L h' ((d, listOf (its.push v) (n + 1)) :: rest) → Q .none { s with heap := h' }) :
    wpAny (model prog w) A (call (.builtin "list.append") [.ref d, v]) Q E s := by
  have z := N _ (.head _)
  exact append_at (hsz := hsz) z.1 fun h' hs ho' => h h' (F.change hs z.2.1 z.2.2) (news_set (pre := []) N off_nil ap hs ho')
end

/-! a row's values as data -/
mutual
def dT : Tr → Dat
  | .nul => .none
  | .leaf s => .str (mkS s)
  | .node ts => .list (dTs ts)
def dTs : List Tr → List Dat
  | [] => []
  | t :: ts => dT t :: dTs ts
end
theorem dTs_append : ∀ (a b : List Tr), dTs (a ++ b) = dTs a ++ dTs b
  | [], b => rfl
  | t :: a, b => by simp [dTs, dTs_append a b]
theorem dTs_length : ∀ (a : List Tr), (dTs a).length = a.length
  | [] => rfl
  | t :: a => by simp [dTs, dTs_length a]
/-- how deep a row may be, how wide -/
def OkN : Nat → Tr → Prop
  | _, .nul => True
  | _, .leaf s => OkT s
  | 0, .node _ => False
  | n + 1, .node ts => ts.length ≤ 3 ∧ ∀ t ∈ ts, OkN n t
/-- what is new lies behind what was -/
def Fresh (add : List (Addr × Obj)) (old : List Addr) : Prop := ∀ q ∈ add, ∀ b ∈ old, b < q.1
theorem Fresh.ne {add : List (Addr × Obj)} {old : List Addr} (h : Fresh add old) {b : Addr} (hb : b ∈ old) : ∀ p ∈ add, p.1 ≠ b := fun p hp => Nat.ne_of_gt (h p hp b hb)
theorem Fresh.sub {add : List (Addr × Obj)} {old old' : List Addr} (h : Fresh add old) (k : ∀ b ∈ old', b ∈ old) : Fresh add old' := fun q hq b hb => h q hq b (k b hb)
theorem Fresh.app {a b : List (Addr × Obj)} {old : List Addr} (h : Fresh a old) (k : Fresh b old) : Fresh (a ++ b) old := fun q hq => (List.mem_append.mp hq).elim (h q) (k q)
theorem Fresh.nil {old : List Addr} : Fresh [] old := fun _ h => nomatch h
theorem Fresh.cons {a : Addr} {o : Obj} {l : List (Addr × Obj)} {old : List Addr} (h : ∀ b ∈ old, b < a) (k : Fresh l old) : Fresh ((a, o) :: l) old := fun q hq => by
  rcases List.mem_cons.mp hq with rfl | hq
  · exact h
  · exact k q hq
/-- the loop's own name is bound anew -/
theorem bind2 {x : Str} {v : Option Value} {u : Option Value} {M : Str → Option Value} : (fun y => if y = x then v else if y = x then u else M y) = fun y => if y = x then v else M y := by
  funext y
  by_cases e : y = x
  · rw [if_pos e, if_pos e]
  · rw [if_neg e, if_neg e, if_neg e]
theorem bind0 {x : Str} {M : Str → Option Value} (h : M x = none) : M = fun y => if y = x then none else M y := by
  funext y
  by_cases e : y = x
  · rw [if_pos e, e, h]
  · rw [if_neg e]
theorem LeafV.dat {v : Value} {t : Tr} (h : LeafV v t) (led : List (Addr × Obj)) : DatIn led v (dT t) := by
  cases h with
  | nul => exact .none
  | txt _ => exact .str _ _
theorem LeafV.ok {v : Value} {t : Tr} (h : LeafV v t) (n : Nat) : OkN n t := by
  cases h with
  | nul => cases n <;> trivial
  | txt k => cases n <;> exact k
end Mine

end
section
open PySem PySem.W PySem.Calls PyProof.Rows PySem.Spec
set_option maxRecDepth 100000
set_option maxHeartbeats 4000000
namespace Mine
local macro_rules | `(tactic| walk_at "eval Name") => `(tactic| first
  | (refine' nmB ?S ?F ?D ?_ ?g ?b ?k ?x ?d; (case S => assumption); (case F => assumption); (case D => assumption); (case g => kernel_rfl); (case b => kernel_rfl); (case k => kernel_rfl); (case x => kernel_rfl); (case d => decide +kernel))
  | (refine' nmD ?S ?F ?D ?_ ?g ?k ?x ?d; (case S => assumption); (case F => assumption); (case D => assumption); (case g => kernel_rfl); (case k => kernel_rfl); (case x => kernel_rfl); (case d => decide +kernel))
  | (refine' nmV ?S ?F ?D ?_ ?g ?k ?x ?d; (case S => assumption); (case F => assumption); (case D => assumption); (case g => kernel_rfl); (case k => kernel_rfl); (case x => kernel_rfl); (case d => decide +kernel))
  | (refine' nmCell ?N ?c ?m ?d ?_ ?k ?x ?e; (case N => assumption); (case c => rfl); (case m => k_mem); (case d => assumption); (case k => kernel_rfl); (case x => kernel_rfl!); (case e => decide +kernel))
  | (refine' kcf_cell ?N ?c ?m ?d ?_ ?k ?x ?e; (case N => assumption); (case c => rfl); (case m => k_mem); (case d => assumption); (case k => kernel_rfl); (case x => kernel_rfl!); (case e => decide +kernel)))
local macro_rules | `(tactic| walk_at "callWith ref") => `(tactic| (refine' cwD ?D ?_; (case D => assumption)))
local macro_rules | `(tactic| walk_at "Stood") => `(tactic| exact ⟨_, by assumption⟩)
local macro_rules | `(tactic| walk_at "exec For") => `(tactic| (refine' for_ ?F ?x ?p ?_; (case F => assumption); (case x => kernel_rfl); (case p => kernel_rfl); k_fold))
local macro_rules | `(tactic| walk_at "newList") => `(tactic| (refine' newL ?F ?N ?_ ?z; (case F => assumption); (case N => assumption); (case z => size_fits); (intro _ _ _ _ _)))
local macro_rules | `(tactic| kqd_sub) => `(tactic| (intro p hp; simp only [List.mem_cons, List.mem_append, List.not_mem_nil, or_false, false_or] at hp ⊢; grind))
local macro_rules | `(tactic| walk_at "eval Name") => `(tactic| first
  | (refine' nameX_L ?F ?v ?_ ?k ?x ?d; (case F => assumption); (case v => (with_unfolding_all rfl)); (case k => kernel_rfl); (case x => kernel_rfl!); (case d => decide +kernel))
  | (refine' nmFree ?N ?c ?m ?d ?_ ?k ?x ?e ?f; (case N => assumption); (case c => rfl); (case m => k_mem); (case d => assumption); (case k => kernel_rfl); (case x => kernel_rfl!); (case e => decide +kernel); (case f => decide +kernel)))
local macro_rules | `(tactic| walk_at "eval Name") => `(tactic| (refine' LCgL.ld_own ?N ?m ?c ?x ?_; (case N => assumption); (case m => k_mem); (case c => assumption); (case x => assumption)))
local macro_rules | `(tactic| walk_at "storeName") => `(tactic| (refine' storeX_L ?F ?N ?_ ?k ?x; (case F => assumption); (case N => assumption); (case k => kernel_rfl); (case x => kernel_rfl!); (intro _ _ _)))
local macro_rules | `(tactic| walk_at "eval ListComp") => `(tactic| (refine halt ?_))
local macro_rules | `(tactic| walk_at "newTuple") => `(tactic| (refine' newT ?F ?N ?_ ?z; (case F => assumption); (case N => assumption); (case z => size_fits); (intro _ _ _ _ _)))
local macro_rules | `(tactic| walk_at "call builtin:str.join cons nil") => `(tactic| (refine halt ?_))
local macro_rules | `(tactic| walk_at "call builtin:list.append cons nil") => `(tactic| (refine halt ?_))
local macro_rules | `(tactic| walk_at "call ref cons nil") => `(tactic| (refine halt ?_))
/-- the draws that a row of this depth may take; a turn of it -/
def C : Nat → Nat
  | 0 => 19
  | d + 1 => 1 + 3 * (1 + C d)
def U : Nat → Nat
  | 0 => 6
  | d + 1 => 1 + C d
theorem C_U (d : Nat) : C d = 1 + 3 * U d := by cases d <;> rfl
theorem U_ge (d : Nat) : 6 ≤ U d := by
  induction d with
  | zero => decide
  | succ d ih => have := C_U d; show 6 ≤ 1 + C d; omega

theorem U_ge1 (d : Nat) : d = 0 ∨ 7 ≤ U d := by
  cases d with
  | zero => exact .inl rfl
  | succ d => refine .inr ?_; have := C_U d; have := U_ge d; show 7 ≤ 1 + C d; omega

def TreeC (w : World) (mg mb : Str → Option Value) (vs : List Value) (d : Nat) : Prop := ∀ {f : Addr} {cdv : Value} {A : Around} {h₀ : Heap} {L : Addr} {s : Shared} {m : Str → Option Value} {rest : List (Addr × Obj)} {st scr : Addr} {k : Int} {tk : Tok} {n n' : Nat} {least : Int} {td tl : Tok}
    {Q E : Value → Shared → Prop} (_ : Sta w mg mb A h₀ L) (_ : Fr h₀ L s.heap m) (_ : News h₀ L s.heap ((st, listOf #[.ref scr, .int k tk] n) :: (scr, listOf vs.toArray n') :: rest)) (_ : IsDef h₀ mg "_law_tree" 21 f cdv) (_ : A.depth + d + 5 < recursionLimit) (_ : A.units + 3 * d + 60 < cLine)
    (_ : scr ≠ st) (_ : ∀ p ∈ rest, p.1 ≠ st) (_ : 0 ≤ k) (_ : k + C d ≤ 700000) (_ : 0 ≤ least) (_ : least ≤ 1)
    (_ : ∀ a ws nn ts k' tk' h' tk2 add, k ≤ k' → k' ≤ k + C d → (a, listOf ws.toArray nn) ∈ add → DatAll add ws (dTs ts) → OkN (d + 1) (.node ts) → Fresh add (st :: scr :: rest.map (·.1)) → Fr h₀ L h' m → News h₀ L h' ((st, listOf #[.ref scr, .int k' tk'] n) :: (scr, listOf vs.toArray n') :: (add ++ rest)) → Q (.ref a) { s with heap := h', toks := tk2 }),
    wpAny (model prog w) A (call (.ref f) [.ref st, .int (d : Int) td, .int least tl]) Q E s

theorem tree_step {w : World} {mg mb : Str → Option Value} {vs : List Value} {ns : List Int} (hi : IntsAre vs ns) (hlen : ns.length ≤ 40) (d : Nat) (ih : ∀ d', d = d' + 1 → TreeC w mg mb vs d') : TreeC w mg mb vs d := by
  intro f cdv A h₀ L s m rest st scr k tk n n' least td tl Q E S F N D hroom hu hne hoff hk0 hk1 hl0 hl1 hQ
  refine enter (binds := [("state", .ref st), ("depth", .int (d : Int) td), ("least", .int least tl)]) S F N D (by omega) (fun doc pm => by kernel_rfl) (locs (by kernel_rfl)) (fun g L' h₁ S' F' N' => ?_) (by decide +kernel) (by kernel_rfl) (by kernel_rfl) (by kernel_rfl)
  refine wpAny_execs_cons ?_
  clear F N S D
  obtain ⟨fn, cn, Dn⟩ := S'.lib.next
  obtain ⟨fl, cl, Dl⟩ := S'.lib.leaf
  obtain ⟨ft, ct, Dt⟩ := S'.lib.tree
  have Brange := S'.lib.range
  have CU := C_U d
  have Ug := U_ge d
  have U1 := U_ge1 d
  w_on
  k_unmd
  k_fold
  repeat' (first | walk1 | (dsimp only; walk1))
  rename Fr _ _ _ _ => F3; rename News _ _ _ _ => N3
  rename_i a _ _ _ _ _
  rename Behind _ _ => hlt
  have hast : a ≠ st := Nat.ne_of_gt (hlt _ (.head _))
  refine next_spec (rest := (a, listOf #[] 0) :: rest) S' F3 (News.sub N3 (by kqd_sub)) Dn (by show A.depth + 1 + 1 < _; omega) (by show A.units + 3 + 10 < _; omega) hne (off_cons hast hoff) hi hlen hk0 (by omega) (by omega) (by omega) fun v t tk' h2 tk2 hv0 hv1 F4 N4 => ?_
  clear F3 N3 F' N'
  dsimp only
  repeat' (first | walk1 | (dsimp only; walk1))
  k_unfold
  dsimp only
  rename IsRange _ _ _ _ _ _ _ _ => hr
  rename News _ _ _ _ => N5
  rename Fr _ _ _ _ => F5
  trace_state
  refine for_range (J := fun i m₁ nx => ∃ (u : Option Value) (ws : List Value) (nn : Nat) (ts : List Tr) (k' : Int) (tk' : Tok) (add : List (Addr × Obj)), m₁ = (fun (y : Str) => if y = ("k" : Str) then u else if y = ("found" : Str) then some (.ref a) else List.lookup y ([("state", Value.ref st), ("depth", Value.int (d : Int) td), ("least", Value.int least tl)] : List (Str × Value)).reverse) ∧ nx = (a, listOf ws.toArray nn) :: (st, listOf #[.ref scr, .int k' tk'] n) :: (scr, listOf vs.toArray n') :: (add ++ rest) ∧
      DatAll add ws (dTs ts) ∧ ts.length = i ∧ (∀ t ∈ ts, OkN d t) ∧ Fresh add (st :: scr :: rest.map (·.1)) ∧ Fresh add [a] ∧ k + 1 ≤ k' ∧ k' ≤ k + 1 + ((i * U d : Nat) : Int)) S'.hand F5 (News.sub (b := (a, listOf #[] 0) :: (st, listOf #[.ref scr, .int (k + 1) tk'] n) :: (scr, listOf vs.toArray n') :: rest) N5 (by kqd_sub)) hr (small_one (by decide) (by decide) (by omega) (by omega)) (range_size (by omega)) ?_ ?turn ?done
  case turn =>
    clear F5 N5
    rintro i t m₁ nx h tk own hin hown ⟨u, ws, nn, ts, k', tk'', add, rfl, rfl, hd, hl, hok, hfr, hna, hk2, hk3⟩ F6 N6
    k_fold
    have hadd : ∀ p ∈ add, p.1 ≠ st := hfr.ne (.head _)
    have hown1 : ∀ p ∈ own, p.1 ≠ st := fun p hp => hown p hp st (by simp)
    have hown2 : ∀ p ∈ own, p.1 ≠ a := fun p hp => hown p hp a (by simp)
    have hrest : ∀ p ∈ rest, p.1 ≠ a := fun p hp => (hlt.ne (.tail _ (.tail _ hp))).symm
    have hsa : st ≠ a := (hlt.ne (.head _)).symm
    have hca : scr ≠ a := (hlt.ne (.tail _ (.head _))).symm
    have e1 : (i + 1) * U d = i * U d + U d := Nat.succ_mul _ _
    have e2 : i * U d ≤ 2 * U d := Nat.mul_le_mul_right _ (by omega)
    have hsz : ws.toArray.size ≤ sizeLine := by rw [sizeLine_eq, List.size_toArray, hd.length, dTs_length]; omega
    have hoff2 : ∀ p ∈ (a, listOf ws.toArray nn) :: ((add ++ rest) ++ own), p.1 ≠ st := off_cons hast (off_app (off_app hadd hoff) hown1)
    have fin : ∀ {k3 : Int} {tk3 : Tok} {h9 : Heap} {tk9 : Nat} {v : Value} {tr : Tr} (add2 : List (Addr × Obj)) {m' : Str → Option Value}, m' = (fun (y : Str) => if y = ("k" : Str) then some (.int (i : Int) t) else if y = ("k" : Str) then u else if y = ("found" : Str) then some (.ref a) else List.lookup y ([("state", Value.ref st), ("depth", Value.int (d : Int) td), ("least", Value.int least tl)] : List (Str × Value)).reverse) →
        k' ≤ k3 → k3 ≤ k' + U d → DatIn add2 v (dT tr) → OkN d tr → Fresh add2 (st :: scr :: ((a, listOf ws.toArray nn) :: ((add ++ rest) ++ own)).map (·.1)) → Fr g L' h9 m' → News g L' h9 ((a, listOf (ws.toArray.push v) (nn + 1)) :: (st, listOf #[.ref scr, .int k3 tk3] n) :: (scr, listOf vs.toArray n') :: (add2 ++ ((add ++ rest) ++ own))) →
        InvEndG g L' (fun m₁ nx => ∃ (u : Option Value) (ws : List Value) (nn : Nat) (ts : List Tr) (k' : Int) (tk' : Tok) (add : List (Addr × Obj)), m₁ = (fun (y : Str) => if y = ("k" : Str) then u else if y = ("found" : Str) then some (.ref a) else List.lookup y ([("state", Value.ref st), ("depth", Value.int (d : Int) td), ("least", Value.int least tl)] : List (Str × Value)).reverse) ∧ nx = (a, listOf ws.toArray nn) :: (st, listOf #[.ref scr, .int k' tk'] n) :: (scr, listOf vs.toArray n') :: (add ++ rest) ∧
          DatAll add ws (dTs ts) ∧ ts.length = i + 1 ∧ (∀ t ∈ ts, OkN d t) ∧ Fresh add (st :: scr :: rest.map (·.1)) ∧ Fresh add [a] ∧ k + 1 ≤ k' ∧ k' ≤ k + 1 + (((i + 1) * U d : Nat) : Int)) own { s with heap := h, toks := tk } { s with heap := h9, toks := tk9 } := by
      intro k3 tk3 h9 tk9 v tr add2 m' em ha hb hv ho hf2 F9 N9
      rw [List.push_toArray] at N9
      refine InvEndG.intro (s₁ := { s with heap := h, toks := tk }) (nx := (a, listOf (ws ++ [v]).toArray (nn + 1)) :: (st, listOf #[.ref scr, .int k3 tk3] n) :: (scr, listOf vs.toArray n') :: ((add2 ++ add) ++ rest)) F9 N9 ⟨_, ws ++ [v], nn + 1, ts ++ [tr], k3, tk3, add2 ++ add, em.trans bind2, rfl, ?_, by simp [hl], ?_, ?_, ?_, by omega, by omega⟩ ?_ ?_ ?_
      · rw [dTs_append]
        exact DatAll.append (hd.mono fun p hp => List.mem_append.mpr (.inr hp)) (DatAll.one (hv.mono fun p hp => List.mem_append.mpr (.inl hp)))
      · intro x hx
        rcases List.mem_append.mp hx with hx | hx
        · exact hok x hx
        · rw [List.mem_singleton.mp hx]; exact ho
      · refine Fresh.app (hf2.sub ?_) hfr
        intro b hb
        simp only [List.map_cons, List.map_append, List.mem_cons, List.mem_append] at hb ⊢
        grind
      · exact Fresh.app (hf2.sub fun b hb => by rw [List.mem_singleton.mp hb]; exact .tail _ (.tail _ (.head _))) hna
      · intro p hp b hb
        have q := hown p hp b
        simp only [List.map_cons, List.map_append, List.mem_cons, List.mem_append] at hb q
        rcases hb with hb | hb | hb | (hb | hb) | hb
        · exact q (.inl hb)
        · exact q (.inr (.inl hb))
        · exact q (.inr (.inr (.inl hb)))
        · obtain ⟨z, hz, rfl⟩ := List.mem_map.mp hb
          refine Nat.ne_of_lt (hf2 z hz p.1 ?_)
          refine .tail _ (.tail _ (List.mem_map.mpr ⟨p, .tail _ (List.mem_append.mpr (.inr hp)), rfl⟩))
        · exact q (.inr (.inr (.inr (.inl hb))))
        · exact q (.inr (.inr (.inr (.inr hb))))
      · kqd_sub
      · kqd_sub
    repeat' (first | walk1 | (dsimp only; walk1))
    · refine next_spec (rest := (a, listOf ws.toArray nn) :: ((add ++ rest) ++ own)) S' (by assumption) (News.sub N6 (by kqd_sub)) Dn (by show A.depth + 1 + 1 < _; omega) (by show A.units + 3 + 10 < _; omega) hne hoff2 hi hlen (by omega) (by omega) (by omega) (by omega) fun v3 t3 tk3 h3 tk4 hv30 hv31 F7 N7 => ?_
      clear F6 N6
      dsimp only
      repeat' (first | walk1 | (dsimp only; walk1))
      · have e3 : ∃ d', d = d' + 1 := ⟨d - 1, by omega⟩
        obtain ⟨d', rfl⟩ := e3
        have e4 : U (d' + 1) = 1 + C d' := rfl
        rename Fr _ _ _ _ => F8; rename News _ _ _ _ => N8
        rw [show ((d' + 1 : Nat) : Int) - 1 = (d' : Int) by omega]
        refine ih d' rfl (rest := (a, listOf ws.toArray nn) :: ((add ++ rest) ++ own)) S' F8 (News.sub N8 (by kqd_sub)) Dt (by show A.depth + 1 + d' + 5 < _; omega) (by show A.units + 3 + 3 * d' + 60 < _; omega) hne hoff2 (by omega) (by omega) (by omega) (by omega) fun a2 ws2 nn2 ts2 k3 tk3 h5 tk5 add2 hk5 hk6 hm2 hda hok2 hf2 F9 N9 => ?_
        clear F8 N8
        dsimp only
        repeat' (first | walk1 | (dsimp only; walk1))
        refine appendHd (n := nn) (rest := (st, listOf #[.ref scr, .int k3 tk3] n) :: (scr, listOf vs.toArray n') :: (add2 ++ ((add ++ rest) ++ own))) F9 (News.sub N9 (by kqd_sub)) (off_cons hsa (off_cons hca (off_app (hf2.ne (by simp)) (off_app (off_app (hna.ne (.head _)) hrest) hown2)))) hsz fun h7 F10 N10 => ?_
        clear F9 N9
        dsimp only
        repeat' (first | walk1 | (dsimp only; walk1) | (k_unfold; dsimp only [InvPostG]))
        exact fin add2 rfl (by omega) (by omega) (.list hm2 hda) hok2 hf2 F10 N10
      · rename Fr _ _ _ _ => F8; rename News _ _ _ _ => N8
        refine leaf_spec (rest := (a, listOf ws.toArray nn) :: ((add ++ rest) ++ own)) S' F8 (News.sub N8 (by kqd_sub)) Dl (by show A.depth + 1 + 3 < _; omega) (by show A.units + 3 + 40 < _; omega) hne hoff2 hi hlen (by omega) (by omega) fun v9 t9 k3 tk3 h5 tk5 hk5 hk6 hv9 F9 N9 => ?_
        clear F8 N8
        dsimp only
        repeat' (first | walk1 | (dsimp only; walk1))
        refine appendHd (n := nn) (rest := (st, listOf #[.ref scr, .int k3 tk3] n) :: (scr, listOf vs.toArray n') :: ((add ++ rest) ++ own)) F9 (News.sub N9 (by kqd_sub)) (off_cons hsa (off_cons hca (off_app (off_app (hna.ne (.head _)) hrest) hown2))) hsz fun h7 F10 N10 => ?_
        clear F9 N9
        dsimp only
        repeat' (first | walk1 | (dsimp only; walk1) | (k_unfold; dsimp only [InvPostG]))
        exact fin [] rfl (by omega) (by omega) (hv9.dat _) (hv9.ok _) Fresh.nil F10 N10
    · rename Fr _ _ _ _ => F8; rename News _ _ _ _ => N8
      refine leaf_spec (rest := (a, listOf ws.toArray nn) :: ((add ++ rest) ++ own)) S' F8 (News.sub N8 (by kqd_sub)) Dl (by show A.depth + 1 + 3 < _; omega) (by show A.units + 3 + 40 < _; omega) hne hoff2 hi hlen (by omega) (by omega) fun v9 t9 k3 tk3 h5 tk5 hk5 hk6 hv9 F9 N9 => ?_
      clear F8 N8
      dsimp only
      repeat' (first | walk1 | (dsimp only; walk1))
      refine appendHd (n := nn) (rest := (st, listOf #[.ref scr, .int k3 tk3] n) :: (scr, listOf vs.toArray n') :: ((add ++ rest) ++ own)) F9 (News.sub N9 (by kqd_sub)) (off_cons hsa (off_cons hca (off_app (off_app (hna.ne (.head _)) hrest) hown2))) hsz fun h7 F10 N10 => ?_
      clear F9 N9
      dsimp only
      repeat' (first | walk1 | (dsimp only; walk1) | (k_unfold; dsimp only [InvPostG]))
      exact fin [] rfl (by omega) (by omega) (hv9.dat _) (hv9.ok _) Fresh.nil F10 N10
  case done =>
    rintro m₁ nx h tk0 ⟨u, ws, nn, ts, k', tk'', add, rfl, rfl, hd, hl, hok, hfr, hna, hk2, hk3⟩ F6 N6
    dsimp only
    repeat' (first | walk1 | (dsimp only; walk1) | (k_unfold; dsimp only))
    have e5 : (least + v).toNat * U d ≤ 3 * U d := Nat.mul_le_mul_right _ (by omega)
    refine back_ F6 N6 fun F9 N9 => hQ a ws nn ts k' tk'' _ _ ((a, listOf ws.toArray nn) :: add) (by omega) (by omega) (.head _) (hd.mono fun p hp => .tail _ hp) ⟨by omega, hok⟩ (.cons ?_ hfr) F9 (News.sub N9 (by kqd_sub))
    intro b hb
    have : ∃ o, (b, o) ∈ (st, listOf #[.ref scr, .int k tk] n) :: (scr, listOf vs.toArray n') :: rest := by
      rcases List.mem_cons.mp hb with rfl | hb
      · exact ⟨_, .head _⟩
      · rcases List.mem_cons.mp hb with rfl | hb
        · exact ⟨_, .tail _ (.head _)⟩
        · obtain ⟨z, hz, rfl⟩ := List.mem_map.mp hb
          exact ⟨z.2, .tail _ (.tail _ hz)⟩
    obtain ⟨o, ho⟩ := this
    exact hlt _ ho
  · exact ⟨none, [], 0, [], k + 1, tk', [], bind0 (by kernel_rfl), rfl, .nil, rfl, by simp, Fresh.nil, Fresh.nil, by omega, by simp⟩
theorem tree_spec {w : World} {mg mb : Str → Option Value} {vs : List Value} {ns : List Int} (hi : IntsAre vs ns) (hlen : ns.length ≤ 40) (d : Nat) : TreeC w mg mb vs d := by
  induction d with
  | zero => exact tree_step hi hlen 0 fun d' e => absurd e (by omega)
  | succ d ih => exact tree_step hi hlen (d + 1) fun d' e => by cases e; exact ih
end Mine

end
section
open PySem PySem.W PySem.Calls PyProof.Rows PySem.Spec
set_option maxRecDepth 100000
set_option maxHeartbeats 4000000
namespace Mine
/-- a comprehension's source: a text -/
def CompStr (w : World) (A : Around) (h₀ : Heap) (L : Addr) (m : Str → Option Value) (env : Env) (elt : Expr) (x : Str) (scope : Scope) (cl : List (Str × Addr)) (Fin : Shared → List Value → List (Addr × Obj) → Prop) (xv : Value) (s₁ : Shared) : Prop :=
  ∃ (z : PySem.Str) (t : Tok) (news : List (Addr × Obj)), xv = .str z t ∧ A.handled = none ∧ Fr h₀ L s₁.heap m ∧ News h₀ L s₁.heap news ∧ z.cps.size ≤ sizeLine ∧
    ∀ s₂ : Shared, (∃ h, s₂ = { s₁ with heap := h }) → LCg.CompRest prog w A h₀ L m env elt x scope cl s₂ (fun _ => True) (SignAt z) (Fin s₂) z.cps.size 0 [] news
theorem comp_str {w : World} {A : Around} {E : Value → Shared → Prop} {s : Shared} {h₀ : Heap} {L : Addr} {m : Str → Option Value} {env : Env} {elt iter : Expr} {x : Str} {px : Pos} {scope : Scope} {cl : List (Str × Addr)} {pos : Pos} {Q : Value → Shared → Prop} (F₀ : Fr h₀ L s.heap m)
    (hclos : closureFor scope env = pure cl) (hcell : ∀ y ∈ scope.names, y.2 ≠ .cell) (hkind : scope.kind = .function)
    (hnames : ∀ y ∈ scope.names, y.2 = .local → scope.names.lookup y.1 = some .local) (hx : scope.names.lookup x = some .local)
    (h : wpAny (model prog w) A (eval iter env) (CompStr w A h₀ L m env elt x scope cl (fun s₂ => LCg.FinE h₀ L m s₂ Q)) E s)
    (hs : ∀ x, foldedSetIterable iter env x = pure x := by intro _; rfl) :
    wpAny (model prog w) A (eval (.ListComp elt [⟨.Name x px, iter, [], 0⟩] scope pos) env) Q E s := by
  rw [eval_ListComp]
  refine wpAny_comprehension_free (use := none) rfl hs hclos hkind hnames (wpAny_mono h (fun xv s₁ h₁ => ?_) fun _ _ e => e)
  obtain ⟨z, t, news, rfl, hh, F, N, hsz, R⟩ := h₁
  cases ha : z.cps.all (· < 128)
  · refine wpAny_pyIter_wide ha ?_
    refine LCg.block_U (Walks.strWide hh s₁.heap.objs.size z t) hsz (fun i h st => let ⟨o, e, _⟩ := st; ⟨o, e⟩) (fun i h h' o nw st e e' _ _ _ => let ⟨o', q, r⟩ := st; ⟨o', by rw [e', ← e]; exact q, r⟩) hcell hkind hx ⟨_, Heap.get?_push_size _ rfl, rfl, rfl⟩ (fun b hb => ?_)
      (F.keeps fun _ _ e => Heap.get?_push_of_some _ e) (N.grown fun _ _ e => Heap.get?_push_of_some _ e) (Nat.ne_of_lt F.ns.lt) (next_is_new F) (fun p hp => Nat.ne_of_lt (Heap.lt_size (N p hp).1)) trivial (R _ ⟨_, rfl⟩) ?_
    · rw [List.mem_singleton.mp hb]
      show s₁.heap.objs.size < (s₁.heap.push _).objs.size
      rw [Heap.size_push]; exact Nat.lt_succ_self _
    · intro D C h tk m' ys news' F' N' o1 hn hC₀ hD₀ hCL hDL hCD offC fin
      refine ⟨m', hn, fun h'' hs'' => fin D h'' tk (F'.change hs'' hCL hC₀) (fun p hp => ?_) o1⟩
      refine ⟨hs''.extBut _ _ ?_ (N' p hp).1, (N' p hp).2⟩
      rcases List.mem_cons.mp hp with rfl | hp
      · exact Ne.symm hCD
      · exact offC p hp
  · refine wpAny_pyIter_ascii ha ?_
    refine LCg.block_U (Walks.strAscii hh s₁.heap.objs.size z t) hsz (fun i h st => let ⟨o, e, _⟩ := st; ⟨o, e⟩) (fun i h h' o nw st e e' _ _ _ => let ⟨o', q, r⟩ := st; ⟨o', by rw [e', ← e]; exact q, r⟩) hcell hkind hx ⟨_, Heap.get?_push_size _ rfl, rfl, rfl⟩ (fun b hb => ?_)
      (F.keeps fun _ _ e => Heap.get?_push_of_some _ e) (N.grown fun _ _ e => Heap.get?_push_of_some _ e) (Nat.ne_of_lt F.ns.lt) (next_is_new F) (fun p hp => Nat.ne_of_lt (Heap.lt_size (N p hp).1)) trivial (R _ ⟨_, rfl⟩) ?_
    · rw [List.mem_singleton.mp hb]
      show s₁.heap.objs.size < (s₁.heap.push _).objs.size
      rw [Heap.size_push]; exact Nat.lt_succ_self _
    · intro D C h tk m' ys news' F' N' o1 hn hC₀ hD₀ hCL hDL hCD offC fin
      refine ⟨m', hn, fun h'' hs'' => fin D h'' tk (F'.change hs'' hCL hC₀) (fun p hp => ?_) o1⟩
      refine ⟨hs''.extBut _ _ ?_ (N' p hp).1, (N' p hp).2⟩
      rcases List.mem_cons.mp hp with rfl | hp
      · exact Ne.symm hCD
      · exact offC p hp
end Mine

end
section
open PySem PySem.W PySem.Calls PyProof.Rows PySem.Spec
set_option maxRecDepth 100000
set_option maxHeartbeats 4000000
namespace Mine
local macro_rules | `(tactic| walk_at "eval Name") => `(tactic| first
  | (refine' nmB ?S ?F ?D ?_ ?g ?b ?k ?x ?d; (case S => assumption); (case F => assumption); (case D => assumption); (case g => kernel_rfl); (case b => kernel_rfl); (case k => kernel_rfl); (case x => kernel_rfl); (case d => decide +kernel))
  | (refine' nmD ?S ?F ?D ?_ ?g ?k ?x ?d; (case S => assumption); (case F => assumption); (case D => assumption); (case g => kernel_rfl); (case k => kernel_rfl); (case x => kernel_rfl); (case d => decide +kernel))
  | (refine' nmV ?S ?F ?D ?_ ?g ?k ?x ?d; (case S => assumption); (case F => assumption); (case D => assumption); (case g => kernel_rfl); (case k => kernel_rfl); (case x => kernel_rfl); (case d => decide +kernel))
  | (refine' nmCell ?N ?c ?m ?d ?_ ?k ?x ?e; (case N => assumption); (case c => rfl); (case m => k_mem); (case d => assumption); (case k => kernel_rfl); (case x => kernel_rfl!); (case e => decide +kernel))
  | (refine' kcf_cell ?N ?c ?m ?d ?_ ?k ?x ?e; (case N => assumption); (case c => rfl); (case m => k_mem); (case d => assumption); (case k => kernel_rfl); (case x => kernel_rfl!); (case e => decide +kernel)))
local macro_rules | `(tactic| walk_at "callWith ref") => `(tactic| (refine' cwD ?D ?_; (case D => assumption)))
local macro_rules | `(tactic| walk_at "Stood") => `(tactic| exact ⟨_, by assumption⟩)
local macro_rules | `(tactic| walk_at "exec For") => `(tactic| (refine' for_ ?F ?x ?p ?_; (case F => assumption); (case x => kernel_rfl); (case p => kernel_rfl); k_fold))
local macro_rules | `(tactic| walk_at "newList") => `(tactic| (refine' newL ?F ?N ?_ ?z; (case F => assumption); (case N => assumption); (case z => size_fits); (intro _ _ _ _ _)))
local macro_rules | `(tactic| kqd_sub) => `(tactic| (intro p hp; simp only [List.mem_cons, List.mem_append, List.not_mem_nil, or_false, false_or] at hp ⊢; grind))
local macro_rules | `(tactic| walk_at "eval Name") => `(tactic| first
  | (refine' nameX_L ?F ?v ?_ ?k ?x ?d; (case F => assumption); (case v => (with_unfolding_all rfl)); (case k => kernel_rfl); (case x => kernel_rfl!); (case d => decide +kernel))
  | (refine' nmFree ?N ?c ?m ?d ?_ ?k ?x ?e ?f; (case N => assumption); (case c => rfl); (case m => k_mem); (case d => assumption); (case k => kernel_rfl); (case x => kernel_rfl!); (case e => decide +kernel); (case f => decide +kernel)))
local macro_rules | `(tactic| walk_at "eval Name") => `(tactic| (refine' LCgL.ld_own ?N ?m ?c ?x ?_; (case N => assumption); (case m => k_mem); (case c => assumption); (case x => assumption)))
local macro_rules | `(tactic| walk_at "storeName") => `(tactic| (refine' storeX_L ?F ?N ?_ ?k ?x; (case F => assumption); (case N => assumption); (case k => kernel_rfl); (case x => kernel_rfl!); (intro _ _ _)))
local macro_rules | `(tactic| walk_at "eval ListComp") => `(tactic| (refine halt ?_))
local macro_rules | `(tactic| walk_at "newTuple") => `(tactic| (refine' newT ?F ?N ?_ ?z; (case F => assumption); (case N => assumption); (case z => size_fits); (intro _ _ _ _ _)))
local macro_rules | `(tactic| walk_at "call builtin:str.join cons nil") => `(tactic| (refine halt ?_))
local macro_rules | `(tactic| walk_at "call builtin:list.append cons nil") => `(tactic| (refine halt ?_))
local macro_rules | `(tactic| walk_at "call ref cons nil") => `(tactic| (refine halt ?_))
def esc (b : Bool) (c : Nat) : PySem.Str := mkS (if b = true ∨ c = 34 ∨ c = 92 then [92, c] else [c])
theorem esc_yes {b : Bool} {c : Nat} (h : b = true ∨ c = 34 ∨ c = 92) : Str.ofString "\\" ++ ⟨#[c]⟩ = esc b c := by
  unfold esc
  rw [if_pos h]
  refine PySem.Str.ext' (Array.toList_inj.mp ?_)
  rw [PySem.Str.cps_append, show (Str.ofString "\\").cps = #[92] by decide +kernel]
  simp [mkS]
theorem esc_no {b : Bool} {c : Nat} (h : ¬(b = true ∨ c = 34 ∨ c = 92)) : (⟨#[c]⟩ : PySem.Str) = esc b c := by
  unfold esc
  rw [if_neg h]
  rfl
theorem esc_len (b : Bool) : ∀ (l : List Nat), ((l.map (esc b)).map PySem.Str.length).sum ≤ 2 * l.length
  | [] => by simp
  | c :: l => by
    have ih := esc_len b l
    have : (esc b c).length ≤ 2 := by
      unfold esc
      show (List.toArray _).size ≤ 2
      split <;> simp
    simp only [List.map_cons, List.sum_cons, List.length_cons]
    omega
theorem esc_join_len (b : Bool) (l : List Nat) : (Txt.join (Str.ofString "") (l.map (esc b))).length ≤ 2 * l.length := by
  rw [join_nil]
  show (List.toArray _).size ≤ _
  rw [List.size_toArray]
  induction l with
  | nil => simp
  | cons c l ih =>
    have : (esc b c).cps.toList.length ≤ 2 := by
      unfold esc
      show (List.toArray _).toList.length ≤ 2
      split <;> simp
    simp only [List.map_cons, List.flatMap_cons, List.length_append, List.length_cons]
    omega
theorem len_app (x y : PySem.Str) : (x ++ y).length = x.length + y.length := by
  show (x ++ y).cps.size = x.cps.size + y.cps.size
  rw [PySem.Str.cps_append, Array.size_append]
theorem quote_cps : (Str.ofString "\"\\").cps.toList = [34, 92] := by decide +kernel
theorem quoted_join (b : Bool) (l : List Nat) : Str.ofString "\"" ++ Txt.join (Str.ofString "") (l.map (esc b)) ++ Str.ofString "\"" = mkS (quoted l b) := by
  refine PySem.Str.ext' (Array.toList_inj.mp ?_)
  rw [join_nil, PySem.Str.cps_append, PySem.Str.cps_append, show (Str.ofString "\"").cps = #[34] by decide +kernel]
  have : (l.map (esc b)).flatMap (fun p => p.cps.toList) = l.flatMap fun c => if b = true ∨ c = 34 ∨ c = 92 then [92, c] else [c] := by
    rw [List.flatMap_map]
    rfl
  rw [this]
  simp [mkS, quoted]
theorem quoted_spec {w : World} {mg mb : Str → Option Value} {A : Around} {h₀ : Heap} {L : Addr} {s : Shared} {m : Str → Option Value} {news : List (Addr × Obj)} {f : Addr} {cdv : Value} {z : PySem.Str} {tz : Tok} {b : Bool}
    {Q E : Value → Shared → Prop} (S : Sta w mg mb A h₀ L) (F : Fr h₀ L s.heap m) (N : News h₀ L s.heap news) (D : IsDef h₀ mg "_law_quoted" 22 f cdv) (hroom : A.depth + 1 < recursionLimit) (hu : A.units + 10 < cLine)
    (hz : z.length ≤ 100)
    (hQ : ∀ t h' tk2, Fr h₀ L h' m → News h₀ L h' news → Q (.str (mkS (quoted z.cps.toList b)) t) { s with heap := h', toks := tk2 }) :
    wpAny (model prog w) A (call (.ref f) [.str z tz, .bool b]) Q E s := by
  refine enterC (binds := [("text", .str z tz), ("every", .bool b)]) (cl := fun L' => [("every", L' + 1)]) (m₁ := fun y => if y = "text" then some (.str z tz) else none)
    (cm := fun y => if y = "every" then some (.bool b) else none) S F N D (by omega) (fun doc pm => by kernel_rfl) (by kernel_rfl) (by decide +kernel) (fun L' => by kernel_rfl) (fun L' => by kernel_rfl) (fun L' => by kernel_rfl)
    (fun g L' h₁ tk0 cells S' F' N' Y lt => ?_) (by kernel_rfl) (by kernel_rfl) (by kernel_rfl)
  obtain ⟨o1, rfl, d1⟩ := Y.one
  replace d1 : o1.data = .cell (some (.bool b)) := by simpa using d1
  dsimp only [List.cons_append, List.nil_append] at N'
  refine wpAny_execs_cons ?_
  clear F N S D
  w_on
  k_unmd
  k_fold
  repeat' (first | walk1 | (dsimp only; walk1))
  refine comp_str (cl := [("every", L' + 1)]) F' (by kernel_rfl) (by decide +kernel) (by kernel_rfl) (by decide +kernel) (by kernel_rfl) ?_
  k_fold
  repeat' (first | walk1 | (dsimp only; walk1))
  k_unfold
  dsimp only
  rename Fr _ _ _ _ => F3
  rename News _ _ _ _ => N3
  refine ⟨z, tz, _, rfl, S'.hand, F3, N3, (by have : z.length = z.cps.size := rfl; rw [sizeLine_eq]; omega), fun s₂ e₂ => ?_⟩
  obtain ⟨g', rfl⟩ := e₂
  refine comp_ind (fun i ys nw => StrsAre ys ((z.cps.toList.take i).map (esc b)) ∧ nw = (L' + 1, o1) :: news) ?turn ?fin ⟨by simpa using StrsAre.nil, rfl⟩
  case turn =>
    clear N3 F3
    rintro i ys nw v1 I oI C oC D m₂ h tk E' hin ⟨c, u, hc, rfl⟩ ⟨hs, rfl⟩ hC hx' F3 N3 off ne
    k_fold
    have step : ∀ (y : PySem.Str) (t : Tok), y = esc b c → StrsAre (ys ++ [.str y t]) ((z.cps.toList.take (i + 1)).map (esc b)) := by
      rintro y t rfl
      have hc' : z.cps.toList[i]? = some c := by rw [Array.getElem?_toList]; exact hc
      rw [List.take_add_one, hc', List.map_append]
      exact StrsAre.append' hs (.cons _ _ .nil)
    repeat' (first | walk1 | (dsimp only; walk1))
    all_goals (rename Fr _ _ _ _ => F4; rename News _ _ _ _ => N4; k_unfold; dsimp only)
    · refine LCg.CompEnd.intro F4 N4 ((L' + 1, o1) :: news) (by kqd_sub) off trivial ⟨step _ _ (esc_yes (.inl (by assumption))), rfl⟩
    · refine LCg.CompEnd.intro F4 N4 ((L' + 1, o1) :: news) (by kqd_sub) off trivial ⟨step _ _ (esc_no ?_), rfl⟩
      rename (Builtin.Str.occurrences _ _ _ _ _).isEmpty = true => ho
      rename b = false => hb
      rw [empty_one, quote_cps] at ho
      simp at ho
      simp [hb]
      omega
    · refine LCg.CompEnd.intro F4 N4 ((L' + 1, o1) :: news) (by kqd_sub) off trivial ⟨step _ _ (esc_yes (.inr ?_)), rfl⟩
      rename (Builtin.Str.occurrences _ _ _ _ _).isEmpty = false => ho
      rw [empty_one, quote_cps] at ho
      simp at ho
      omega
  case fin =>
    rintro ys nw ⟨hs, rfl⟩
    intro D h tk F4 N4 o4
    dsimp only
    repeat' (first | walk1 | (dsimp only; walk1))
    have hfull : z.cps.toList.take z.cps.size = z.cps.toList := List.take_of_length_le (by simp)
    rw [hfull] at hs
    refine join_listW (items := ys.toArray) (PySem.IsL.isList (n := ys.length) (N4 _ (.head _)).1) hs (by decide) ?_ fun t' tk9 => ?_
    · have h1 := esc_len b z.cps.toList
      have h2 : z.cps.toList.length = z.length := by rw [Array.length_toList]; rfl
      show (List.map PySem.Str.length _).sum + _ ≤ _
      rw [List.length_map]
      omega
    have hJ := esc_join_len b z.cps.toList
    have h2 : z.cps.toList.length = z.length := by rw [Array.length_toList]; rfl
    have s1 : (Str.ofString "\"").length = 1 := by decide +kernel
    refine PyProof.Rows.add_str (fun t2 tk2 => ?_) (by rw [sizeLine_eq]; omega)
    dsimp only
    repeat' (first | walk1 | (dsimp only; walk1) | (k_unfold; dsimp only))
    rw [quoted_join]
    exact back_ F4 N4 fun F9 N9 => hQ _ _ _ F9 (News.sub N9 (by kqd_sub))
end Mine

end
section
open PySem PySem.W PySem.Calls PyProof.Rows PySem.Spec
set_option maxRecDepth 100000
set_option maxHeartbeats 4000000
namespace Mine
local macro_rules | `(tactic| walk_at "eval Name") => `(tactic| first
  | (refine' nmB ?S ?F ?D ?_ ?g ?b ?k ?x ?d; (case S => assumption); (case F => assumption); (case D => assumption); (case g => kernel_rfl); (case b => kernel_rfl); (case k => kernel_rfl); (case x => kernel_rfl); (case d => decide +kernel))
  | (refine' nmD ?S ?F ?D ?_ ?g ?k ?x ?d; (case S => assumption); (case F => assumption); (case D => assumption); (case g => kernel_rfl); (case k => kernel_rfl); (case x => kernel_rfl); (case d => decide +kernel))
  | (refine' nmV ?S ?F ?D ?_ ?g ?k ?x ?d; (case S => assumption); (case F => assumption); (case D => assumption); (case g => kernel_rfl); (case k => kernel_rfl); (case x => kernel_rfl); (case d => decide +kernel))
  | (refine' nmCell ?N ?c ?m ?d ?_ ?k ?x ?e; (case N => assumption); (case c => rfl); (case m => k_mem); (case d => assumption); (case k => kernel_rfl); (case x => kernel_rfl!); (case e => decide +kernel))
  | (refine' kcf_cell ?N ?c ?m ?d ?_ ?k ?x ?e; (case N => assumption); (case c => rfl); (case m => k_mem); (case d => assumption); (case k => kernel_rfl); (case x => kernel_rfl!); (case e => decide +kernel)))
local macro_rules | `(tactic| walk_at "callWith ref") => `(tactic| (refine' cwD ?D ?_; (case D => assumption)))
local macro_rules | `(tactic| walk_at "Stood") => `(tactic| exact ⟨_, by assumption⟩)
local macro_rules | `(tactic| walk_at "exec For") => `(tactic| (refine' for_ ?F ?x ?p ?_; (case F => assumption); (case x => kernel_rfl); (case p => kernel_rfl); k_fold))
local macro_rules | `(tactic| walk_at "newList") => `(tactic| (refine' newL ?F ?N ?_ ?z; (case F => assumption); (case N => assumption); (case z => size_fits); (intro _ _ _ _ _)))
local macro_rules | `(tactic| kqd_sub) => `(tactic| (intro p hp; simp only [List.mem_cons, List.mem_append, List.not_mem_nil, or_false, false_or] at hp ⊢; grind))
local macro_rules | `(tactic| walk_at "eval Name") => `(tactic| first
  | (refine' nameX_L ?F ?v ?_ ?k ?x ?d; (case F => assumption); (case v => (with_unfolding_all rfl)); (case k => kernel_rfl); (case x => kernel_rfl!); (case d => decide +kernel))
  | (refine' nmFree ?N ?c ?m ?d ?_ ?k ?x ?e ?f; (case N => assumption); (case c => rfl); (case m => k_mem); (case d => assumption); (case k => kernel_rfl); (case x => kernel_rfl!); (case e => decide +kernel); (case f => decide +kernel)))
local macro_rules | `(tactic| walk_at "eval Name") => `(tactic| (refine' LCgL.ld_own ?N ?m ?c ?x ?_; (case N => assumption); (case m => k_mem); (case c => assumption); (case x => assumption)))
local macro_rules | `(tactic| walk_at "storeName") => `(tactic| (refine' storeX_L ?F ?N ?_ ?k ?x; (case F => assumption); (case N => assumption); (case k => kernel_rfl); (case x => kernel_rfl!); (intro _ _ _)))
local macro_rules | `(tactic| walk_at "eval ListComp") => `(tactic| (refine halt ?_))
local macro_rules | `(tactic| walk_at "newTuple") => `(tactic| (refine' newT ?F ?N ?_ ?z; (case F => assumption); (case N => assumption); (case z => size_fits); (intro _ _ _ _ _)))
local macro_rules | `(tactic| walk_at "call builtin:str.join cons nil") => `(tactic| (refine halt ?_))
local macro_rules | `(tactic| walk_at "call builtin:list.append cons nil") => `(tactic| (refine halt ?_))
local macro_rules | `(tactic| walk_at "call ref cons nil") => `(tactic| (refine halt ?_))
/-- how long a writing may be; how many draws it takes -/
def B : Nat → Nat
  | 0 => 12
  | n + 1 => 4 + 3 * B n
def K : Nat → Nat
  | 0 => 1
  | n + 1 => 3 * K n
theorem B_ge (n : Nat) : 12 ≤ B n := by
  induction n with
  | zero => decide
  | succ n ih => show 12 ≤ 4 + 3 * B n; omega
theorem K_ge (n : Nat) : 1 ≤ K n := by
  induction n with
  | zero => decide
  | succ n ih => show 1 ≤ 3 * K n; omega

theorem written_nul {w : World} {mg mb : Str → Option Value} {A : Around} {h₀ : Heap} {L : Addr} {s : Shared} {m : Str → Option Value} {news : List (Addr × Obj)} {f st : Addr} {cdv : Value}
    {Q E : Value → Shared → Prop} (S : Sta w mg mb A h₀ L) (F : Fr h₀ L s.heap m) (N : News h₀ L s.heap news) (D : IsDef h₀ mg "_law_written" 23 f cdv) (hroom : A.depth + 1 < recursionLimit) (hu : A.units + 10 < cLine)
    (hQ : ∀ t h' tk2, Fr h₀ L h' m → News h₀ L h' news → Q (.str (mkS NULLT) t) { s with heap := h', toks := tk2 }) :
    wpAny (model prog w) A (call (.ref f) [.none, .ref st]) Q E s := by
  refine enterC (binds := [("tree", .none), ("state", .ref st)]) (cl := fun L' => [("state", L' + 1)]) (m₁ := fun y => if y = "tree" then some .none else none)
    (cm := fun y => if y = "state" then some (.ref st) else none) S F N D (by omega) (fun doc pm => by kernel_rfl) (by kernel_rfl) (by decide +kernel) (fun L' => by kernel_rfl) (fun L' => by kernel_rfl) (fun L' => by kernel_rfl)
    (fun g L' h₁ tk0 cells S' F' N' Y lt => ?_) (by kernel_rfl) (by kernel_rfl) (by kernel_rfl)
  obtain ⟨o1, rfl, d1⟩ := Y.one
  replace d1 : o1.data = .cell (some (.ref st)) := by simpa using d1
  dsimp only [List.cons_append, List.nil_append] at N'
  refine wpAny_execs_cons ?_
  clear F N S D
  have Bisi := S'.lib.isinstance
  have Blist := S'.lib.list
  w_on
  k_unmd
  k_fold
  repeat' (first | walk1 | (dsimp only; walk1) | (k_unfold; dsimp only))
  rename Fr _ _ _ _ => F3; rename News _ _ _ _ => N3
  rw [show Str.ofString "NULL" = mkS NULLT by decide +kernel]
  exact back_ F3 N3 fun F9 N9 => hQ _ _ _ F9 (News.sub N9 (by kqd_sub))

theorem mkS_list (l : List Nat) : (mkS l).cps.toList = l := by simp [mkS]
theorem mkS_len (l : List Nat) : (mkS l).length = l.length := by show l.toArray.size = _; simp
theorem quoted_len (l : List Nat) (b : Bool) : (quoted l b).length ≤ 2 + 2 * l.length := by
  unfold quoted
  simp only [List.cons_append, List.length_cons, List.length_append, List.length_singleton, List.length_nil]
  have : (l.flatMap fun c => if b = true ∨ c = 34 ∨ c = 92 then [92, c] else [c]).length ≤ 2 * l.length := by
    induction l with
    | nil => simp
    | cons c l ih =>
      simp only [List.flatMap_cons, List.length_append, List.length_cons]
      have : (if b = true ∨ c = 34 ∨ c = 92 then [92, c] else [c]).length ≤ 2 := by split <;> simp
      omega
  omega
theorem must_cps : (Str.ofString "{},\"\\ \n\t()").cps.toList = [123, 125, 44, 34, 92, 32, 10, 9, 40, 41] := by decide +kernel
theorem bools_snoc {ys : List Value} {bs : List Bool} (h : LSm.BoolsAre ys bs) (b : Bool) : LSm.BoolsAre (ys ++ [.bool b]) (bs ++ [b]) := by
  induction h with
  | nil => exact .cons b .nil
  | cons c _ ih => exact .cons c ih
theorem written_leaf {w : World} {mg mb : Str → Option Value} {A : Around} {h₀ : Heap} {L : Addr} {s : Shared} {m : Str → Option Value} {rest : List (Addr × Obj)} {f st scr : Addr} {cdv : Value} {k : Int} {tk : Tok} {n n' : Nat} {vs : List Value} {ns : List Int} {z : List Nat} {tz : Tok}
    {Q E : Value → Shared → Prop} (S : Sta w mg mb A h₀ L) (F : Fr h₀ L s.heap m) (N : News h₀ L s.heap ((st, listOf #[.ref scr, .int k tk] n) :: (scr, listOf vs.toArray n') :: rest)) (D : IsDef h₀ mg "_law_written" 23 f cdv) (hroom : A.depth + 3 < recursionLimit) (hu : A.units + 40 < cLine)
    (hne : scr ≠ st) (hoff : ∀ p ∈ rest, p.1 ≠ st) (hi : IntsAre vs ns) (hlen : ns.length ≤ 40) (hk0 : 0 ≤ k) (hk1 : k ≤ 800000) (hz : z.length ≤ 5)
    (hQ : ∀ x t tk' h' tk2, Wr (.leaf z) x.cps.toList → x.length ≤ 12 → Fr h₀ L h' m → News h₀ L h' ((st, listOf #[.ref scr, .int (k + 1) tk'] n) :: (scr, listOf vs.toArray n') :: rest) → Q (.str x t) { s with heap := h', toks := tk2 }) :
    wpAny (model prog w) A (call (.ref f) [.str (mkS z) tz, .ref st]) Q E s := by
  refine enterC (binds := [("tree", .str (mkS z) tz), ("state", .ref st)]) (cl := fun L' => [("state", L' + 1)]) (m₁ := fun y => if y = "tree" then some (.str (mkS z) tz) else none)
    (cm := fun y => if y = "state" then some (.ref st) else none) S F N D (by omega) (fun doc pm => by kernel_rfl) (by kernel_rfl) (by decide +kernel) (fun L' => by kernel_rfl) (fun L' => by kernel_rfl) (fun L' => by kernel_rfl)
    (fun g L' h₁ tk0 cells S' F' N' Y lt => ?_) (by kernel_rfl) (by kernel_rfl) (by kernel_rfl)
  obtain ⟨o1, rfl, d1⟩ := Y.one
  replace d1 : o1.data = .cell (some (.ref st)) := by simpa using d1
  dsimp only [List.cons_append, List.nil_append] at N'
  have hst : st < L' := lt _ (.head _)
  refine wpAny_execs_cons ?_
  clear F N S D
  have Bisi := S'.lib.isinstance
  have Blist := S'.lib.list
  have Bany := S'.lib.any
  obtain ⟨fn, cn, Dn⟩ := S'.lib.next
  obtain ⟨fq, cq, Dq⟩ := S'.lib.quoted
  obtain ⟨t1, hMust⟩ := S'.lib.must
  w_on
  k_unmd
  k_fold
  repeat' (first | walk1 | (dsimp only; walk1) | (k_unfold; dsimp only))
  refine next_spec (rest := (L' + 1, o1) :: rest) S' (by assumption) (News.sub (by assumption) (by kqd_sub)) Dn (by show A.depth + 1 + 1 < _; omega) (by show A.units + 3 + 10 < _; omega) hne (off_cons (cell1 hst) hoff) hi hlen (by omega) (by omega) (by omega) (by omega) fun v3 t3 tk3 h3 tk4 hv30 hv31 F7 N7 => ?_
  clear F' N'
  repeat' (first | walk1 | (dsimp only; walk1) | (k_unfold; dsimp only))
  · refine comp_str (cl := []) (by assumption) (by kernel_rfl) (by decide +kernel) (by kernel_rfl) (by decide +kernel) (by kernel_rfl) ?_
    k_fold
    repeat' (first | walk1 | (dsimp only; walk1))
    k_unfold
    dsimp only
    rename Fr _ _ _ _ => F3
    rename News _ _ _ _ => N3
    refine ⟨_, _, _, rfl, S'.hand, F3, N3, (by show z.toArray.size ≤ _; rw [List.size_toArray, sizeLine_eq]; omega), fun s₂ e₂ => ?_⟩
    obtain ⟨g', rfl⟩ := e₂
    refine comp_ind (fun i ys nw => LSm.BoolsAre ys ((z.take i).map fun c => decide (c ∈ [123, 125, 44, 34, 92, 32, 10, 9, 40, 41])) ∧ nw = _) ?turn ?fin ⟨by simpa using LSm.BoolsAre.nil, rfl⟩
    case turn =>
      rintro i ys nw v1 I oI C oC D m₂ h tk E' hin ⟨c, u, hc, rfl⟩ ⟨hs, rfl⟩ hC hx' F4 N4 off ne
      clear N3 F3
      k_fold
      repeat' (first | walk1 | (dsimp only; walk1))
      rename Fr _ _ _ _ => F5
      rename News _ _ _ _ => N5
      k_unfold
      dsimp only
      refine LCg.CompEnd.intro F5 N5 ((st, listOf #[.ref scr, .int (k + 1) tk3] n) :: (scr, listOf vs.toArray n') :: (L' + 1, o1) :: rest) (by kqd_sub) off trivial ⟨?_, rfl⟩
      have hc' : z[i]? = some c := by simpa [mkS] using hc
      rw [List.take_add_one, hc', List.map_append, StrLaws.found_one, must_cps]
      exact bools_snoc hs _
    case fin =>
      rintro ys nw ⟨hs, rfl⟩
      intro D h tk F4 N4 o4
      clear N3 F3
      dsimp only
      repeat' (first | walk1 | (dsimp only; walk1) | (k_unfold; dsimp only))
      refine LSm.any_bools F4 N4 S'.hand (PySem.IsL.isList (n := ys.length) (N4 _ (.head _)).1) hs fun h5 tk5 F5 N5 => ?_
      clear F4 N4
      repeat' (first | walk1 | (dsimp only; walk1) | (k_unfold; dsimp only))
      · (rename Fr _ _ _ _ => F6; rename News _ _ _ _ => N6; refine quoted_spec S' F6 N6 Dq (by show A.depth + 1 + 1 < _; omega) (by show A.units + 3 + 10 < _; omega) (by show z.toArray.size ≤ _; rw [List.size_toArray]; omega) fun t7 h7 tk7 F7 N7 => ?_; dsimp only; refine back_ F7 N7 fun F9 N9 => hQ _ _ _ _ _ (by rw [mkS_list, mkS_list]; exact .quoted _) (by rw [mkS_len, mkS_list]; have := quoted_len z (v3 == 2); omega) F9 (News.sub N9 (by kqd_sub)))
      · suffices hb : bareOk z from back_ F5 N5 fun F9 N9 => hQ _ _ _ _ _ (by rw [mkS_list]; exact .bare hb) (by rw [mkS_len]; omega) F9 (News.sub N9 (by kqd_sub))
        refine ⟨?_, ?_, ?_⟩
        · rename (mkS z != Str.ofString "") = true => q
          rintro rfl
          revert q
          decide +kernel
        · rename (mkS z != Str.ofString "NULL") = true => q
          rintro rfl
          revert q
          decide +kernel
        · rename List.any _ id = false => q
          intro c hc hm
          have hfull : z.take (mkS z).cps.size = z := List.take_of_length_le (by simp [mkS])
          rw [hfull] at q
          have : (List.map (fun c => decide (c ∈ [123, 125, 44, 34, 92, 32, 10, 9, 40, 41])) z).any id = true := by
            rw [List.any_map, List.any_eq_true]
            exact ⟨c, hc, by simpa using hm⟩
          rw [this] at q
          cases q
  all_goals (rename Fr _ _ _ _ => F6; rename News _ _ _ _ => N6; refine quoted_spec S' F6 N6 Dq (by show A.depth + 1 + 1 < _; omega) (by show A.units + 3 + 10 < _; omega) (by show z.toArray.size ≤ _; rw [List.size_toArray]; omega) fun t7 h7 tk7 F7 N7 => ?_; dsimp only; refine back_ F7 N7 fun F9 N9 => hQ _ _ _ _ _ (by rw [mkS_list, mkS_list]; exact .quoted _) (by rw [mkS_len, mkS_list]; have := quoted_len z (v3 == 2); omega) F9 (News.sub N9 (by kqd_sub)))
end Mine

end
section
open PySem PySem.W PySem.Calls PyProof.Rows PySem.Spec
set_option maxRecDepth 100000
set_option maxHeartbeats 4000000
namespace Mine
local macro_rules | `(tactic| walk_at "eval Name") => `(tactic| first
  | (refine' nmB ?S ?F ?D ?_ ?g ?b ?k ?x ?d; (case S => assumption); (case F => assumption); (case D => assumption); (case g => kernel_rfl); (case b => kernel_rfl); (case k => kernel_rfl); (case x => kernel_rfl); (case d => decide +kernel))
  | (refine' nmD ?S ?F ?D ?_ ?g ?k ?x ?d; (case S => assumption); (case F => assumption); (case D => assumption); (case g => kernel_rfl); (case k => kernel_rfl); (case x => kernel_rfl); (case d => decide +kernel))
  | (refine' nmV ?S ?F ?D ?_ ?g ?k ?x ?d; (case S => assumption); (case F => assumption); (case D => assumption); (case g => kernel_rfl); (case k => kernel_rfl); (case x => kernel_rfl); (case d => decide +kernel))
  | (refine' nmCell ?N ?c ?m ?d ?_ ?k ?x ?e; (case N => assumption); (case c => rfl); (case m => k_mem); (case d => assumption); (case k => kernel_rfl); (case x => kernel_rfl!); (case e => decide +kernel))
  | (refine' kcf_cell ?N ?c ?m ?d ?_ ?k ?x ?e; (case N => assumption); (case c => rfl); (case m => k_mem); (case d => assumption); (case k => kernel_rfl); (case x => kernel_rfl!); (case e => decide +kernel)))
local macro_rules | `(tactic| walk_at "callWith ref") => `(tactic| (refine' cwD ?D ?_; (case D => assumption)))
local macro_rules | `(tactic| walk_at "Stood") => `(tactic| exact ⟨_, by assumption⟩)
local macro_rules | `(tactic| walk_at "exec For") => `(tactic| (refine' for_ ?F ?x ?p ?_; (case F => assumption); (case x => kernel_rfl); (case p => kernel_rfl); k_fold))
local macro_rules | `(tactic| walk_at "newList") => `(tactic| (refine' newL ?F ?N ?_ ?z; (case F => assumption); (case N => assumption); (case z => size_fits); (intro _ _ _ _ _)))
local macro_rules | `(tactic| kqd_sub) => `(tactic| (intro p hp; simp only [List.mem_cons, List.mem_append, List.not_mem_nil, or_false, false_or] at hp ⊢; grind))
local macro_rules | `(tactic| walk_at "eval Name") => `(tactic| first
  | (refine' nameX_L ?F ?v ?_ ?k ?x ?d; (case F => assumption); (case v => (with_unfolding_all rfl)); (case k => kernel_rfl); (case x => kernel_rfl!); (case d => decide +kernel))
  | (refine' nmFree ?N ?c ?m ?d ?_ ?k ?x ?e ?f; (case N => assumption); (case c => rfl); (case m => k_mem); (case d => assumption); (case k => kernel_rfl); (case x => kernel_rfl!); (case e => decide +kernel); (case f => decide +kernel)))
local macro_rules | `(tactic| walk_at "eval Name") => `(tactic| (refine' LCgL.ld_own ?N ?m ?c ?x ?_; (case N => assumption); (case m => k_mem); (case c => assumption); (case x => assumption)))
local macro_rules | `(tactic| walk_at "storeName") => `(tactic| (refine' storeX_L ?F ?N ?_ ?k ?x; (case F => assumption); (case N => assumption); (case k => kernel_rfl); (case x => kernel_rfl!); (intro _ _ _)))
local macro_rules | `(tactic| walk_at "eval ListComp") => `(tactic| (refine halt ?_))
local macro_rules | `(tactic| walk_at "newTuple") => `(tactic| (refine' newT ?F ?N ?_ ?z; (case F => assumption); (case N => assumption); (case z => size_fits); (intro _ _ _ _ _)))
local macro_rules | `(tactic| walk_at "call builtin:str.join cons nil") => `(tactic| (refine halt ?_))
local macro_rules | `(tactic| walk_at "call builtin:list.append cons nil") => `(tactic| (refine halt ?_))
local macro_rules | `(tactic| walk_at "call ref cons nil") => `(tactic| (refine halt ?_))
theorem dTs_map : ∀ ts : List Tr, dTs ts = ts.map dT
  | [] => rfl
  | t :: ts => by rw [dTs, dTs_map ts]; rfl
theorem isiL {w : World} {A : Around} {E : Value → Shared → Prop} {s : Shared} {h₀ : Heap} {L a : Addr} {news : List (Addr × Obj)} {its : Array Value} {n : Nat} {Q : Value → Shared → Prop} (N : News h₀ L s.heap news) (hm : (a, listOf its n) ∈ news) (h : Q (.bool true) s) :
    wpAny (model prog w) A (call (.builtin "isinstance") [.ref a, .type "list"]) Q E s := IsiPair.list_list (N _ hm).1 rfl h
theorem glue_comma : ∀ (l : List PySem.Str) (a : Array Nat), l.foldl (fun acc p => acc ++ (#[44] : Array Nat) ++ p.cps) a = a ++ (l.flatMap fun p => 44 :: p.cps.toList).toArray
  | [], a => by simp
  | p :: l, a => by
    rw [List.foldl_cons, glue_comma l]
    apply Array.toList_inj.mp
    simp
theorem commas_cons (x : List Nat) : ∀ l : List (List Nat), commas (x :: l) = x ++ l.flatMap fun p => 44 :: p
  | [] => by simp [commas]
  | y :: l => by rw [commas, commas_cons y l]; simp
theorem join_comma (xs : List PySem.Str) : (Txt.join (Str.ofString ",") xs).cps.toList = commas (xs.map fun x => x.cps.toList) := by
  unfold Txt.join Builtin.Str.glued
  rw [show (Str.ofString ",").cps = #[44] by decide +kernel]
  cases xs with
  | nil => rfl
  | cons x xs =>
    rw [List.map_cons, commas_cons, glue_comma]
    simp [List.flatMap_map]
theorem sum_le {b : Nat} : ∀ l : List PySem.Str, (∀ x ∈ l, x.length ≤ b) → (l.map PySem.Str.length).sum ≤ l.length * b
  | [], _ => by simp
  | x :: l, h => by
    have h1 := h x (.head _)
    have ih := sum_le l fun z hz => h z (.tail _ hz)
    rw [List.map_cons, List.sum_cons, List.length_cons, Nat.succ_mul]
    omega
theorem join_comma_len {b : Nat} (xs : List PySem.Str) (h : ∀ x ∈ xs, x.length ≤ b) (h3 : xs.length ≤ 3) : (Txt.join (Str.ofString ",") xs).length ≤ 3 * (b + 1) - 1 := by
  have e : (Txt.join (Str.ofString ",") xs).length = (commas (xs.map fun x => x.cps.toList)).length := by rw [← join_comma]; show Array.size _ = _; simp
  rw [e]
  match xs, h, h3 with
  | [], _, _ => simp [commas]
  | [x], h, _ =>
    have a : x.cps.size ≤ b := h x (.head _)
    simp [commas]; omega
  | [x, y], h, _ =>
    have a1 : x.cps.size ≤ b := h x (.head _)
    have a2 : y.cps.size ≤ b := h y (.tail _ (.head _))
    simp [commas]; omega
  | [x, y, z], h, _ =>
    have a1 : x.cps.size ≤ b := h x (.head _)
    have a2 : y.cps.size ≤ b := h y (.tail _ (.head _))
    have a3 : z.cps.size ≤ b := h z (.tail _ (.tail _ (.head _)))
    simp [commas]; omega
theorem node_text (xs : List PySem.Str) : (Str.ofString "{" ++ Txt.join (Str.ofString ",") xs ++ Str.ofString "}").cps.toList = 123 :: commas (xs.map fun x => x.cps.toList) ++ [125] := by
  rw [PySem.Str.cps_append, PySem.Str.cps_append, show (Str.ofString "{").cps = #[123] by decide +kernel, show (Str.ofString "}").cps = #[125] by decide +kernel]
  simp [join_comma]
theorem Wrs.snoc {ts : List Tr} {xs : List (List Nat)} {t : Tr} {x : List Nat} : Wrs ts xs → Wr t x → Wrs (ts ++ [t]) (xs ++ [x])
  | .nil, h => .cons h .nil
  | .cons a r, h => .cons a (Wrs.snoc r h)

def WrC (w : World) (mg mb : Str → Option Value) (vs : List Value) (n₀ : Nat) : Prop := ∀ {f : Addr} {cdv : Value} {A : Around} {h₀ : Heap} {L : Addr} {s : Shared} {m : Str → Option Value} {rest : List (Addr × Obj)} {st scr : Addr} {k : Int} {tk : Tok} {n n' : Nat} {v : Value} {t : Tr}
    {Q E : Value → Shared → Prop} (_ : Sta w mg mb A h₀ L) (_ : Fr h₀ L s.heap m) (_ : News h₀ L s.heap ((st, listOf #[.ref scr, .int k tk] n) :: (scr, listOf vs.toArray n') :: rest)) (_ : IsDef h₀ mg "_law_written" 23 f cdv) (_ : A.depth + n₀ + 4 < recursionLimit) (_ : A.units + 3 * n₀ + 60 < cLine)
    (_ : scr ≠ st) (_ : ∀ p ∈ rest, p.1 ≠ st) (_ : 0 ≤ k) (_ : k + K n₀ ≤ 700000) (_ : DatIn rest v (dT t)) (_ : OkN n₀ t) (_ : n₀ ≤ 5)
    (_ : ∀ x tx k' tk' h' tk2, Wr t x.cps.toList → x.length ≤ B n₀ → k ≤ k' → k' ≤ k + K n₀ → Fr h₀ L h' m → News h₀ L h' ((st, listOf #[.ref scr, .int k' tk'] n) :: (scr, listOf vs.toArray n') :: rest) → Q (.str x tx) { s with heap := h', toks := tk2 }),
    wpAny (model prog w) A (call (.ref f) [v, .ref st]) Q E s

theorem written_node {w : World} {mg mb : Str → Option Value} {vs : List Value} {ns : List Int} (hi : IntsAre vs ns) (hlen : ns.length ≤ 40) (d : Nat) (ih : WrC w mg mb vs d)
    {f : Addr} {cdv : Value} {A : Around} {h₀ : Heap} {L : Addr} {s : Shared} {m : Str → Option Value} {rest : List (Addr × Obj)} {st scr : Addr} {k : Int} {tk : Tok} {n n' : Nat} {a : Addr} {us : List Value} {nn : Nat} {ts : List Tr}
    {Q E : Value → Shared → Prop} (S : Sta w mg mb A h₀ L) (F : Fr h₀ L s.heap m) (N : News h₀ L s.heap ((st, listOf #[.ref scr, .int k tk] n) :: (scr, listOf vs.toArray n') :: rest)) (D : IsDef h₀ mg "_law_written" 23 f cdv) (hroom : A.depth + (d + 1) + 4 < recursionLimit) (hu : A.units + 3 * (d + 1) + 60 < cLine)
    (hne : scr ≠ st) (hoff : ∀ p ∈ rest, p.1 ≠ st) (hk0 : 0 ≤ k) (hk1 : k + K (d + 1) ≤ 700000) (hm : (a, listOf us.toArray nn) ∈ rest) (hd : DatAll rest us (dTs ts)) (hw : ts.length ≤ 3) (hok : ∀ t ∈ ts, OkN d t) (hd5 : d + 1 ≤ 5)
    (hQ : ∀ x tx k' tk' h' tk2, Wr (.node ts) x.cps.toList → x.length ≤ B (d + 1) → k ≤ k' → k' ≤ k + K (d + 1) → Fr h₀ L h' m → News h₀ L h' ((st, listOf #[.ref scr, .int k' tk'] n) :: (scr, listOf vs.toArray n') :: rest) → Q (.str x tx) { s with heap := h', toks := tk2 }) :
    wpAny (model prog w) A (call (.ref f) [.ref a, .ref st]) Q E s := by
  refine enterC (binds := [("tree", .ref a), ("state", .ref st)]) (cl := fun L' => [("state", L' + 1)]) (m₁ := fun y => if y = "tree" then some (.ref a) else none)
    (cm := fun y => if y = "state" then some (.ref st) else none) S F N D (by omega) (fun doc pm => by kernel_rfl) (by kernel_rfl) (by decide +kernel) (fun L' => by kernel_rfl) (fun L' => by kernel_rfl) (fun L' => by kernel_rfl)
    (fun g L' h₁ tk0 cells S' F' N' Y lt => ?_) (by kernel_rfl) (by kernel_rfl) (by kernel_rfl)
  obtain ⟨o1, rfl, d1⟩ := Y.one
  replace d1 : o1.data = .cell (some (.ref st)) := by simpa using d1
  dsimp only [List.cons_append, List.nil_append] at N'
  have hst : st < L' := lt _ (.head _)
  refine wpAny_execs_cons ?_
  clear F N S D
  have Bisi := S'.lib.isinstance
  have Blist := S'.lib.list
  obtain ⟨fw, cw, Dw⟩ := S'.lib.written
  w_on
  k_unmd
  k_fold
  repeat' (first | walk1 | (dsimp only; walk1) | (k_unfold; dsimp only))
  refine isiL (by assumption) (a := a) (its := us.toArray) (n := nn) (by simp [hm]) ?_
  repeat' (first | walk1 | (dsimp only; walk1) | (k_unfold; dsimp only))
  refine LCg.ListComp_U (cl := [("state", L' + 1)]) (by assumption) (by kernel_rfl) (by decide +kernel) (by kernel_rfl) (by decide +kernel) (by kernel_rfl) ?_
  k_fold
  repeat' (first | walk1 | (dsimp only; walk1))
  k_unfold
  dsimp only
  rename Fr _ _ _ _ => F3
  rename News _ _ _ _ => N3
  have e0 : us.length = ts.length := by rw [hd.length, dTs_length]
  refine LCg.CompSrc.ledger S'.hand F3 (News.sub (b := (st, listOf #[.ref scr, .int k tk] n) :: (scr, listOf vs.toArray n') :: (L' + 1, o1) :: rest) N3 (by kqd_sub)) (its := us.toArray) (k := nn) (by simp [hm]) (by rw [List.size_toArray, sizeLine_eq]; omega) (fun g' => ?_)
  refine comp_ind (fun i ys nw => ∃ (xs : List PySem.Str) (k' : Int) (tk' : Tok), StrsAre ys xs ∧ Wrs (ts.take i) (xs.map fun x => x.cps.toList) ∧ (∀ x ∈ xs, x.length ≤ B d) ∧ xs.length = i ∧ k ≤ k' ∧ k' ≤ k + ((i * K d : Nat) : Int) ∧ nw = (st, listOf #[.ref scr, .int k' tk'] n) :: (scr, listOf vs.toArray n') :: (L' + 1, o1) :: rest) ?turn ?fin ⟨[], k, tk, .nil, .nil, by simp, rfl, by omega, by omega, ?_⟩
  case turn =>
    clear N3 F3
    rintro i ys nw v1 I oI C oC D m₂ h tk E' hin hv ⟨xs, k', tk', hs, hwr, hxs, hl, hk2, hk3, rfl⟩ hC hx' F3 N3 off ne
    k_fold
    have of := off.mem _ (.head _)
    have hi3 : i < ts.length := by rw [List.size_toArray] at hin; omega
    have e1 : (i + 1) * K d = i * K d + K d := Nat.succ_mul _ _
    have e2 : i * K d ≤ 2 * K d := Nat.mul_le_mul_right _ (by omega)
    have e3 : K (d + 1) = 3 * K d := rfl
    have hdv : DatIn rest v1 (dT ts[i]) := by
      obtain ⟨v, e, hd'⟩ := hd.get (k := i) (by rw [dTs_length]; exact hi3)
      have : us[i]? = some v1 := by simpa using hv
      rw [this] at e
      cases e
      simpa [dTs_map] using hd'
    repeat' (first | walk1 | (dsimp only; walk1))
    refine ih (rest := (I, oI) :: (C, oC) :: (D, LCg.lst ys) :: (L' + 1, o1) :: rest) S' (by assumption) (News.sub (by assumption) (by kqd_sub)) Dw (by show A.depth + 1 + d + 4 < _; omega) (by show A.units + 3 + 3 * d + 60 < _; omega) hne
      (off_cons of.1.symm (off_cons of.2.1.symm (off_cons of.2.2.symm (off_cons (cell1 hst) hoff)))) (by omega) (by omega) (hdv.mono fun p hp => .tail _ (.tail _ (.tail _ (.tail _ hp)))) (hok _ (List.getElem_mem hi3)) (by omega) fun x tx k3 tk3 h5 tk5 hwx hxb hk5 hk6 F5 N5 => ?_
    k_unfold
    dsimp only
    refine LCg.CompEnd.intro F5 N5 ((st, listOf #[.ref scr, .int k3 tk3] n) :: (scr, listOf vs.toArray n') :: (L' + 1, o1) :: rest) (by kqd_sub) ?_ (.inr ⟨_, .tail _ (.tail _ (.tail _ hm)), rfl, _, rfl⟩) ⟨xs ++ [x], k3, tk3, StrsAre.append' hs (.cons _ _ .nil), ?_, ?_, by simp [hl], by omega, by omega, rfl⟩
    · exact LCg.Off3.of (fun p hp => by
        rcases List.mem_cons.mp hp with rfl | hp
        · exact of
        · exact off.mem p (.tail _ hp))
    · rw [List.take_add_one, List.getElem?_eq_getElem hi3, List.map_append]
      exact hwr.snoc hwx
    · intro y hy
      rcases List.mem_append.mp hy with hy | hy
      · exact hxs y hy
      · rw [List.mem_singleton.mp hy]; exact hxb
  case fin =>
    rintro ys nw ⟨xs, k', tk', hs, hwr, hxs, hl, hk2, hk3, rfl⟩
    intro D h tk F4 N4 o4
    clear N3 F3
    dsimp only
    repeat' (first | walk1 | (dsimp only; walk1) | (k_unfold; dsimp only))
    have hl3 : xs.length ≤ 3 := by rw [hl, List.size_toArray]; omega
    have hB : B d ≤ 1132 := (by decide : ∀ d : Nat, d < 5 → B d ≤ 1132) d (by omega)
    have h1 := sum_le xs hxs
    have h2 : xs.length * B d ≤ 3 * B d := Nat.mul_le_mul_right _ hl3
    have h3 : (Txt.join (Str.ofString ",") xs).length ≤ 3 * (B d + 1) - 1 := join_comma_len xs hxs hl3
    have e3 : K (d + 1) = 3 * K d := rfl
    have e4 : B (d + 1) = 4 + 3 * B d := rfl
    have e5 : us.toArray.size * K d ≤ 3 * K d := Nat.mul_le_mul_right _ (by rw [List.size_toArray]; omega)
    have hfull : ts.take us.toArray.size = ts := List.take_of_length_le (by rw [List.size_toArray]; omega)
    rw [hfull] at hwr
    have s1 : (Str.ofString "{").length = 1 := by decide +kernel
    have s2 : (Str.ofString "}").length = 1 := by decide +kernel
    refine join_listW (items := ys.toArray) (PySem.IsL.isList (n := ys.length) (N4 _ (.head _)).1) hs (by decide) ?_ fun t' tk9 => ?_
    · show (List.map PySem.Str.length _).sum + _ ≤ _
      omega
    refine PyProof.Rows.add_str (fun t2 tk2 => ?_) (by rw [sizeLine_eq]; omega)
    dsimp only
    repeat' (first | walk1 | (dsimp only; walk1) | (k_unfold; dsimp only))
    refine back_ F4 N4 fun F9 N9 => hQ _ _ k' tk' _ _ (by rw [node_text]; exact .node hwr) (by rw [len_app, len_app]; omega) (by omega) (by omega) F9 (News.sub N9 (by kqd_sub))
  · rfl

theorem written_spec {w : World} {mg mb : Str → Option Value} {vs : List Value} {ns : List Int} (hi : IntsAre vs ns) (hlen : ns.length ≤ 40) (d : Nat) : WrC w mg mb vs d := by
  have leafs : ∀ d : Nat, ∀ {f : Addr} {cdv : Value} {A : Around} {h₀ : Heap} {L : Addr} {s : Shared} {m : Str → Option Value} {rest : List (Addr × Obj)} {st scr : Addr} {k : Int} {tk : Tok} {n n' : Nat} {v : Value} {t : Tr}
    {Q E : Value → Shared → Prop} (_ : Sta w mg mb A h₀ L) (_ : Fr h₀ L s.heap m) (_ : News h₀ L s.heap ((st, listOf #[.ref scr, .int k tk] n) :: (scr, listOf vs.toArray n') :: rest)) (_ : IsDef h₀ mg "_law_written" 23 f cdv) (_ : A.depth + d + 4 < recursionLimit) (_ : A.units + 3 * d + 60 < cLine)
    (_ : scr ≠ st) (_ : ∀ p ∈ rest, p.1 ≠ st) (_ : 0 ≤ k) (_ : k + K d ≤ 700000) (_ : DatIn rest v (dT t)) (_ : OkN d t) (_ : ∀ ts, t ≠ .node ts)
    (_ : ∀ x tx k' tk' h' tk2, Wr t x.cps.toList → x.length ≤ B d → k ≤ k' → k' ≤ k + K d → Fr h₀ L h' m → News h₀ L h' ((st, listOf #[.ref scr, .int k' tk'] n) :: (scr, listOf vs.toArray n') :: rest) → Q (.str x tx) { s with heap := h', toks := tk2 }),
    wpAny (model prog w) A (call (.ref f) [v, .ref st]) Q E s := by
    intro d f cdv A h₀ L s m rest st scr k tk n n' v t Q E S F N D hroom hu hne hoff hk0 hk1 hd hok hno hQ
    have hB := B_ge d
    have hK := K_ge d
    cases t with
    | nul =>
      rw [dT] at hd
      cases hd
      exact written_nul S F N D (by omega) (by omega) fun t h' tk2 F' N' => hQ _ _ k tk _ _ (by rw [mkS_list]; exact .nul) (by rw [mkS_len]; show 4 ≤ _; omega) (by omega) (by omega) F' N'
    | leaf z =>
      rw [dT] at hd
      cases hd
      have hz : OkT z := by cases d <;> exact hok
      exact written_leaf S F N D (by omega) (by omega) hne hoff hi hlen hk0 (by omega) hz.1 fun x t tk' h' tk2 hw hb F' N' => hQ _ _ (k + 1) tk' _ _ hw (by omega) (by omega) (by omega) F' N'
    | node ts => exact absurd rfl (hno ts)
  induction d with
  | zero =>
    intro f cdv A h₀ L s m rest st scr k tk n n' v t Q E S F N D hroom hu hne hoff hk0 hk1 hd hok h5 hQ
    exact leafs 0 S F N D hroom hu hne hoff hk0 hk1 hd hok (fun ts e => by subst e; exact hok) hQ
  | succ d ih =>
    intro f cdv A h₀ L s m rest st scr k tk n n' v t Q E S F N D hroom hu hne hoff hk0 hk1 hd hok h5 hQ
    cases t with
    | nul => exact leafs (d + 1) S F N D hroom hu hne hoff hk0 hk1 hd hok (fun ts e => by cases e) hQ
    | leaf z => exact leafs (d + 1) S F N D hroom hu hne hoff hk0 hk1 hd hok (fun ts e => by cases e) hQ
    | node ts =>
      rw [dT] at hd
      cases hd with
      | list hm hda => exact written_node hi hlen d ih S F N D hroom hu hne hoff hk0 hk1 hm hda hok.1 hok.2 h5 hQ
end Mine

end
section
open PySem PySem.W PySem.Calls PyProof.Rows PySem.Spec
set_option maxRecDepth 100000
set_option maxHeartbeats 4000000
namespace Mine
local macro_rules | `(tactic| walk_at "eval Name") => `(tactic| first
  | (refine' nmB ?S ?F ?D ?_ ?g ?b ?k ?x ?d; (case S => assumption); (case F => assumption); (case D => assumption); (case g => kernel_rfl); (case b => kernel_rfl); (case k => kernel_rfl); (case x => kernel_rfl); (case d => decide +kernel))
  | (refine' nmD ?S ?F ?D ?_ ?g ?k ?x ?d; (case S => assumption); (case F => assumption); (case D => assumption); (case g => kernel_rfl); (case k => kernel_rfl); (case x => kernel_rfl); (case d => decide +kernel))
  | (refine' nmV ?S ?F ?D ?_ ?g ?k ?x ?d; (case S => assumption); (case F => assumption); (case D => assumption); (case g => kernel_rfl); (case k => kernel_rfl); (case x => kernel_rfl); (case d => decide +kernel))
  | (refine' nmCell ?N ?c ?m ?d ?_ ?k ?x ?e; (case N => assumption); (case c => rfl); (case m => k_mem); (case d => assumption); (case k => kernel_rfl); (case x => kernel_rfl!); (case e => decide +kernel))
  | (refine' kcf_cell ?N ?c ?m ?d ?_ ?k ?x ?e; (case N => assumption); (case c => rfl); (case m => k_mem); (case d => assumption); (case k => kernel_rfl); (case x => kernel_rfl!); (case e => decide +kernel)))
local macro_rules | `(tactic| walk_at "callWith ref") => `(tactic| (refine' cwD ?D ?_; (case D => assumption)))
local macro_rules | `(tactic| walk_at "Stood") => `(tactic| exact ⟨_, by assumption⟩)
local macro_rules | `(tactic| walk_at "exec For") => `(tactic| (refine' for_ ?F ?x ?p ?_; (case F => assumption); (case x => kernel_rfl); (case p => kernel_rfl); k_fold))
local macro_rules | `(tactic| walk_at "newList") => `(tactic| (refine' newL ?F ?N ?_ ?z; (case F => assumption); (case N => assumption); (case z => size_fits); (intro _ _ _ _ _)))
local macro_rules | `(tactic| kqd_sub) => `(tactic| (intro p hp; simp only [List.mem_cons, List.mem_append, List.not_mem_nil, or_false, false_or] at hp ⊢; grind))
local macro_rules | `(tactic| walk_at "eval Name") => `(tactic| first
  | (refine' nameX_L ?F ?v ?_ ?k ?x ?d; (case F => assumption); (case v => (with_unfolding_all rfl)); (case k => kernel_rfl); (case x => kernel_rfl!); (case d => decide +kernel))
  | (refine' nmFree ?N ?c ?m ?d ?_ ?k ?x ?e ?f; (case N => assumption); (case c => rfl); (case m => k_mem); (case d => assumption); (case k => kernel_rfl); (case x => kernel_rfl!); (case e => decide +kernel); (case f => decide +kernel)))
local macro_rules | `(tactic| walk_at "eval Name") => `(tactic| (refine' LCgL.ld_own ?N ?m ?c ?x ?_; (case N => assumption); (case m => k_mem); (case c => assumption); (case x => assumption)))
local macro_rules | `(tactic| walk_at "storeName") => `(tactic| (refine' storeX_L ?F ?N ?_ ?k ?x; (case F => assumption); (case N => assumption); (case k => kernel_rfl); (case x => kernel_rfl!); (intro _ _ _)))
local macro_rules | `(tactic| walk_at "eval ListComp") => `(tactic| (refine halt ?_))
local macro_rules | `(tactic| walk_at "newTuple") => `(tactic| (refine' newT ?F ?N ?_ ?z; (case F => assumption); (case N => assumption); (case z => size_fits); (intro _ _ _ _ _)))
local macro_rules | `(tactic| walk_at "call builtin:str.join cons nil") => `(tactic| (refine halt ?_))
local macro_rules | `(tactic| walk_at "call builtin:list.append cons nil") => `(tactic| (refine halt ?_))
local macro_rules | `(tactic| walk_at "call ref cons nil") => `(tactic| (refine halt ?_))
/-- texts as data -/
def lT (l : List (List Nat)) : List Dat := l.map fun s => .str (mkS s)
theorem lT_append (a b : List (List Nat)) : lT (a ++ b) = lT a ++ lT b := by simp [lT]

theorem leavess_append : ∀ a b : List Tr, leavess (a ++ b) = leavess a ++ leavess b
  | [], b => rfl
  | t :: a, b => by rw [List.cons_append, leavess, leavess, leavess_append a b, List.append_assoc]
/-- a name of the frame stored behind the loop's own name -/
theorem bind3 {x f : Str} {v u a b : Option Value} {M : Str → Option Value} (h : x ≠ f) : (fun y => if y = f then a else if y = x then v else if y = x then u else if y = f then b else M y) = fun y => if y = x then v else if y = f then a else M y := by
  funext y
  by_cases e : y = x
  · subst e
    simp [h]
  · by_cases e2 : y = f
    · subst e2
      simp [Ne.symm h]
    · simp [e, e2]

def LvC (w : World) (mg mb : Str → Option Value) (n₀ : Nat) : Prop := ∀ {f : Addr} {cdv : Value} {A : Around} {h₀ : Heap} {L : Addr} {s : Shared} {m : Str → Option Value} {news : List (Addr × Obj)} {v : Value} {t : Tr}
    {Q E : Value → Shared → Prop} (_ : Sta w mg mb A h₀ L) (_ : Fr h₀ L s.heap m) (_ : News h₀ L s.heap news) (_ : IsDef h₀ mg "_law_leaves" 24 f cdv) (_ : A.depth + n₀ + 4 < recursionLimit) (_ : A.units + 3 * n₀ + 60 < cLine)
    (_ : DatIn news v (dT t)) (_ : OkN n₀ t) (_ : n₀ ≤ 5)
    (_ : ∀ a us nn h' tk2, DatAll [] us (lT (leaves t)) → (leaves t).length ≤ K n₀ → (∀ p ∈ news, p.1 < a) → Fr h₀ L h' m → News h₀ L h' ((a, listOf us.toArray nn) :: news) → Q (.ref a) { s with heap := h', toks := tk2 }),
    wpAny (model prog w) A (call (.ref f) [v]) Q E s

theorem leaves_leaf {w : World} {mg mb : Str → Option Value} (d : Nat) {f : Addr} {cdv : Value} {A : Around} {h₀ : Heap} {L : Addr} {s : Shared} {m : Str → Option Value} {news : List (Addr × Obj)} {z : PySem.Str} {tz : Tok}
    {Q E : Value → Shared → Prop} (S : Sta w mg mb A h₀ L) (F : Fr h₀ L s.heap m) (N : News h₀ L s.heap news) (D : IsDef h₀ mg "_law_leaves" 24 f cdv) (hroom : A.depth + d + 4 < recursionLimit) (hu : A.units + 3 * d + 60 < cLine)
    (hQ : ∀ a nn h' tk2 t, (∀ p ∈ news, p.1 < a) → Fr h₀ L h' m → News h₀ L h' ((a, listOf #[.str z t] nn) :: news) → Q (.ref a) { s with heap := h', toks := tk2 }) :
    wpAny (model prog w) A (call (.ref f) [.str z tz]) Q E s := by
  refine enter (binds := [("tree", .str z tz)]) S F N D (by omega) (fun doc pm => by kernel_rfl) (locs (by kernel_rfl)) (fun g L' h₁ S' F' N' => ?_) (by decide +kernel) (by kernel_rfl) (by kernel_rfl) (by kernel_rfl)
  refine wpAny_execs_cons ?_
  clear F N S D
  have Bisi := S'.lib.isinstance
  have Blist := S'.lib.list
  w_on
  k_unmd
  k_fold
  repeat' (first | walk1 | (dsimp only; walk1) | (k_unfold; dsimp only))
  rename Fr _ _ _ _ => F6; rename News _ _ _ _ => N6
  rename Behind _ _ => hlt
  exact back_ F6 N6 fun F9 N9 => hQ _ _ _ _ _ hlt F9 N9
theorem leaves_nul {w : World} {mg mb : Str → Option Value} (d : Nat) {f : Addr} {cdv : Value} {A : Around} {h₀ : Heap} {L : Addr} {s : Shared} {m : Str → Option Value} {news : List (Addr × Obj)}
    {Q E : Value → Shared → Prop} (S : Sta w mg mb A h₀ L) (F : Fr h₀ L s.heap m) (N : News h₀ L s.heap news) (D : IsDef h₀ mg "_law_leaves" 24 f cdv) (hroom : A.depth + d + 4 < recursionLimit) (hu : A.units + 3 * d + 60 < cLine)
    (hQ : ∀ a nn h' tk2, (∀ p ∈ news, p.1 < a) → Fr h₀ L h' m → News h₀ L h' ((a, listOf #[] nn) :: news) → Q (.ref a) { s with heap := h', toks := tk2 }) :
    wpAny (model prog w) A (call (.ref f) [.none]) Q E s := by
  refine enter (binds := [("tree", .none)]) S F N D (by omega) (fun doc pm => by kernel_rfl) (locs (by kernel_rfl)) (fun g L' h₁ S' F' N' => ?_) (by decide +kernel) (by kernel_rfl) (by kernel_rfl) (by kernel_rfl)
  refine wpAny_execs_cons ?_
  clear F N S D
  have Bisi := S'.lib.isinstance
  have Blist := S'.lib.list
  w_on
  k_unmd
  k_fold
  repeat' (first | walk1 | (dsimp only; walk1) | (k_unfold; dsimp only))
  rename Fr _ _ _ _ => F6; rename News _ _ _ _ => N6
  rename Behind _ _ => hlt
  exact back_ F6 N6 fun F9 N9 => hQ _ _ _ _ hlt F9 N9
theorem leaves_node {w : World} {mg mb : Str → Option Value} (d : Nat) (ih : LvC w mg mb d) {f : Addr} {cdv : Value} {A : Around} {h₀ : Heap} {L : Addr} {s : Shared} {m : Str → Option Value} {news : List (Addr × Obj)} {a : Addr} {us : List Value} {nn : Nat} {ts : List Tr}
    {Q E : Value → Shared → Prop} (S : Sta w mg mb A h₀ L) (F : Fr h₀ L s.heap m) (N : News h₀ L s.heap news) (D : IsDef h₀ mg "_law_leaves" 24 f cdv) (hroom : A.depth + (d + 1) + 4 < recursionLimit) (hu : A.units + 3 * (d + 1) + 60 < cLine)
    (hm : (a, listOf us.toArray nn) ∈ news) (hd : DatAll news us (dTs ts)) (hw : ts.length ≤ 3) (hok : ∀ t ∈ ts, OkN d t) (hd5 : d + 1 ≤ 5)
    (hQ : ∀ a us nn h' tk2, DatAll [] us (lT (leavess ts)) → (leavess ts).length ≤ K (d + 1) → (∀ p ∈ news, p.1 < a) → Fr h₀ L h' m → News h₀ L h' ((a, listOf us.toArray nn) :: news) → Q (.ref a) { s with heap := h', toks := tk2 }) :
    wpAny (model prog w) A (call (.ref f) [.ref a]) Q E s := by
  refine enter (binds := [("tree", .ref a)]) S F N D (by omega) (fun doc pm => by kernel_rfl) (locs (by kernel_rfl)) (fun g L' h₁ S' F' N' => ?_) (by decide +kernel) (by kernel_rfl) (by kernel_rfl) (by kernel_rfl)
  refine wpAny_execs_cons ?_
  clear F N S D
  have Bisi := S'.lib.isinstance
  have Blist := S'.lib.list
  obtain ⟨fl, cl, Dl⟩ := S'.lib.leaves
  w_on
  k_unmd
  k_fold
  repeat' (first | walk1 | (dsimp only; walk1) | (k_unfold; dsimp only))
  refine isiL (by assumption) (a := a) (its := us.toArray) (n := nn) (by simp [hm]) ?_
  repeat' (first | walk1 | (dsimp only; walk1) | (k_unfold; dsimp only))
  k_unfold
  (try dsimp only)
  rename Fr _ _ _ _ => F3
  rename News _ _ _ _ => N3
  rename Behind _ _ => hlt
  rename_i b _ _ _ _ _ _
  have e0 : us.length = ts.length := by rw [hd.length, dTs_length]
  refine for_list (l := a) (vs := us) (nn := nn) (J := fun i m₁ nx => ∃ (u : Option Value) (b : Addr) (xs : List Value) (n2 : Nat), m₁ = (fun (y : Str) => if y = ("part" : Str) then u else if y = ("found" : Str) then some (.ref b) else List.lookup y ([("tree", Value.ref a)] : List (Str × Value)).reverse) ∧ nx = (b, listOf xs.toArray n2) :: news ∧
      DatAll [] xs (lT (leavess (ts.take i))) ∧ (leavess (ts.take i)).length ≤ i * K d ∧ (∀ p ∈ news, p.1 < b)) S'.hand F3 N3 (.tail _ hm) ?_ ?turn ?done
  case turn =>
    clear F3 N3
    rintro i v m₁ nx h tk own hv hown hmn ⟨u, b, xs, n2, rfl, rfl, hx, hl, hb⟩ F4 N4
    k_fold
    have hi3 : i < ts.length := by
      rcases Nat.lt_or_ge i us.length with q | q
      · omega
      · rw [List.getElem?_eq_none q] at hv; cases hv
    have hdv : DatIn news v (dT ts[i]) := by
      obtain ⟨v', e, hd'⟩ := hd.get (k := i) (by rw [dTs_length]; exact hi3)
      rw [hv] at e
      cases e
      simpa [dTs_map] using hd'
    have e1 : (i + 1) * K d = i * K d + K d := Nat.succ_mul _ _
    have e2 : i * K d ≤ 2 * K d := Nat.mul_le_mul_right _ (by omega)
    have hK : K d ≤ 81 := (by decide : ∀ d : Nat, d < 5 → K d ≤ 81) d (by omega)
    have et : leavess (ts.take (i + 1)) = leavess (ts.take i) ++ leaves ts[i] := by
      rw [List.take_add_one, List.getElem?_eq_getElem hi3, leavess_append]
      simp [leavess]
    repeat' (first | walk1 | (dsimp only; walk1))
    refine ih (news := (b, listOf xs.toArray n2) :: (news ++ own)) S' (by assumption) (News.sub (by assumption) (by kqd_sub)) Dl (by show A.depth + 1 + d + 4 < _; omega) (by show A.units + 3 + 3 * d + 60 < _; omega) (hdv.mono fun p hp => .tail _ (List.mem_append.mpr (.inl hp))) (hok _ (List.getElem_mem hi3)) (by omega) fun b2 xs2 n3 h5 tk5 hx2 hl2 hb2 F5 N5 => ?_
    clear F4 N4
    (try dsimp only)
    repeat' (first | walk1 | (dsimp only; walk1) | (k_unfold; dsimp only))
    refine kmk_add_lit F5 N5 (its := xs.toArray) (its2 := xs2.toArray) (zs := xs ++ xs2) (PySem.IsL.isList (n := n2) (N5 _ (.tail _ (.head _))).1) (PySem.IsL.isList (n := n3) (N5 _ (.head _)).1) (by simp) (fun b3 h6 F6 N6 hb3 => ?_) (by
      have q1 := hx.length
      have q2 := hx2.length
      simp only [lT, List.length_map] at q1 q2
      rw [sizeLine_eq]
      simp only [List.toList_toArray]
      omega)
    clear F5 N5
    (try dsimp only)
    repeat' (first | walk1 | (dsimp only; walk1) | (k_unfold; dsimp only [InvPostG]))
    rename Fr _ _ _ _ => F7
    rename News _ _ _ _ => N7
    refine InvEndG.intro (s₁ := { s with heap := h, toks := tk }) (nx := (b3, listOf (xs ++ xs2).toArray 0) :: news) F7 N7 ⟨.tail _ hm, _, b3, xs ++ xs2, 0, bind3 (by decide +kernel), rfl, ?_, ?_, ?_⟩ ?_ (by kqd_sub) (by kqd_sub)
    · rw [et, lT_append]
      exact hx.append hx2
    · rw [et, List.length_append]
      omega
    · intro p hp
      exact hb3 p (.tail _ (.tail _ (List.mem_append.mpr (.inl hp))))
    · intro p hp q hq
      rcases List.mem_cons.mp hq with rfl | hq
      · exact Nat.ne_of_lt (hb3 p (.tail _ (.tail _ (List.mem_append.mpr (.inr hp)))))
      · exact hown p hp q (.tail _ hq)
  case done =>
    rintro m₁ nx h tk ⟨u, b, xs, n2, rfl, rfl, hx, hl, hb⟩ F4 N4
    dsimp only
    repeat' (first | walk1 | (dsimp only; walk1) | (k_unfold; dsimp only))
    have e3 : K (d + 1) = 3 * K d := rfl
    have e5 : us.length * K d ≤ 3 * K d := Nat.mul_le_mul_right _ (by omega)
    have hfull : ts.take us.length = ts := List.take_of_length_le (by omega)
    rw [hfull] at hx hl
    exact back_ F4 N4 fun F9 N9 => hQ b xs n2 _ _ hx (by omega) hb F9 N9
  · exact ⟨none, _, [], 0, bind0 (by kernel_rfl), rfl, .nil, by simp [leavess], hlt⟩

theorem leaves_spec {w : World} {mg mb : Str → Option Value} (d : Nat) : LvC w mg mb d := by
  have leafs : ∀ d : Nat, ∀ {f : Addr} {cdv : Value} {A : Around} {h₀ : Heap} {L : Addr} {s : Shared} {m : Str → Option Value} {news : List (Addr × Obj)} {v : Value} {t : Tr}
    {Q E : Value → Shared → Prop} (_ : Sta w mg mb A h₀ L) (_ : Fr h₀ L s.heap m) (_ : News h₀ L s.heap news) (_ : IsDef h₀ mg "_law_leaves" 24 f cdv) (_ : A.depth + d + 4 < recursionLimit) (_ : A.units + 3 * d + 60 < cLine)
    (_ : DatIn news v (dT t)) (_ : ∀ ts, t ≠ .node ts)
    (_ : ∀ a us nn h' tk2, DatAll [] us (lT (leaves t)) → (leaves t).length ≤ K d → (∀ p ∈ news, p.1 < a) → Fr h₀ L h' m → News h₀ L h' ((a, listOf us.toArray nn) :: news) → Q (.ref a) { s with heap := h', toks := tk2 }),
    wpAny (model prog w) A (call (.ref f) [v]) Q E s := by
    intro d f cdv A h₀ L s m news v t Q E S F N D hroom hu hd hno hQ
    have hK := K_ge d
    cases t with
    | nul =>
      rw [dT] at hd
      cases hd
      exact leaves_nul d S F N D hroom hu fun a nn h' tk2 hlt F' N' => hQ a [] nn h' tk2 .nil (by simp [leaves]) hlt F' N'
    | leaf z =>
      rw [dT] at hd
      cases hd
      exact leaves_leaf d S F N D hroom hu fun a nn h' tk2 t hlt F' N' => hQ a [.str (mkS z) t] nn h' tk2 (.cons (.str _ _) .nil) (by simp [leaves]; omega) hlt F' N'
    | node ts => exact absurd rfl (hno ts)
  induction d with
  | zero =>
    intro f cdv A h₀ L s m news v t Q E S F N D hroom hu hd hok h5 hQ
    exact leafs 0 S F N D hroom hu hd (fun ts e => by subst e; exact hok) hQ
  | succ d ih =>
    intro f cdv A h₀ L s m news v t Q E S F N D hroom hu hd hok h5 hQ
    cases t with
    | nul => exact leafs (d + 1) S F N D hroom hu hd (fun ts e => by cases e) hQ
    | leaf z => exact leafs (d + 1) S F N D hroom hu hd (fun ts e => by cases e) hQ
    | node ts =>
      rw [dT] at hd
      cases hd with
      | list hm hda => exact leaves_node d ih S F N D hroom hu hm hda hok.1 hok.2 h5 hQ
end Mine

end
section
open PySem PySem.W PySem.Calls PyProof.Rows PySem.Spec
set_option maxRecDepth 100000
set_option maxHeartbeats 4000000
namespace Mine
local macro_rules | `(tactic| walk_at "eval Name") => `(tactic| first
  | (refine' nmB ?S ?F ?D ?_ ?g ?b ?k ?x ?d; (case S => assumption); (case F => assumption); (case D => assumption); (case g => kernel_rfl); (case b => kernel_rfl); (case k => kernel_rfl); (case x => kernel_rfl); (case d => decide +kernel))
  | (refine' nmD ?S ?F ?D ?_ ?g ?k ?x ?d; (case S => assumption); (case F => assumption); (case D => assumption); (case g => kernel_rfl); (case k => kernel_rfl); (case x => kernel_rfl); (case d => decide +kernel))
  | (refine' nmV ?S ?F ?D ?_ ?g ?k ?x ?d; (case S => assumption); (case F => assumption); (case D => assumption); (case g => kernel_rfl); (case k => kernel_rfl); (case x => kernel_rfl); (case d => decide +kernel))
  | (refine' nmCell ?N ?c ?m ?d ?_ ?k ?x ?e; (case N => assumption); (case c => rfl); (case m => k_mem); (case d => assumption); (case k => kernel_rfl); (case x => kernel_rfl!); (case e => decide +kernel))
  | (refine' kcf_cell ?N ?c ?m ?d ?_ ?k ?x ?e; (case N => assumption); (case c => rfl); (case m => k_mem); (case d => assumption); (case k => kernel_rfl); (case x => kernel_rfl!); (case e => decide +kernel)))
local macro_rules | `(tactic| walk_at "callWith ref") => `(tactic| (refine' cwD ?D ?_; (case D => assumption)))
local macro_rules | `(tactic| walk_at "Stood") => `(tactic| exact ⟨_, by assumption⟩)
local macro_rules | `(tactic| walk_at "exec For") => `(tactic| (refine' for_ ?F ?x ?p ?_; (case F => assumption); (case x => kernel_rfl); (case p => kernel_rfl); k_fold))
local macro_rules | `(tactic| walk_at "newList") => `(tactic| (refine' newL ?F ?N ?_ ?z; (case F => assumption); (case N => assumption); (case z => size_fits); (intro _ _ _ _ _)))
local macro_rules | `(tactic| kqd_sub) => `(tactic| (intro p hp; simp only [List.mem_cons, List.mem_append, List.not_mem_nil, or_false, false_or] at hp ⊢; grind))
local macro_rules | `(tactic| walk_at "eval Name") => `(tactic| first
  | (refine' nameX_L ?F ?v ?_ ?k ?x ?d; (case F => assumption); (case v => (with_unfolding_all rfl)); (case k => kernel_rfl); (case x => kernel_rfl!); (case d => decide +kernel))
  | (refine' nmFree ?N ?c ?m ?d ?_ ?k ?x ?e ?f; (case N => assumption); (case c => rfl); (case m => k_mem); (case d => assumption); (case k => kernel_rfl); (case x => kernel_rfl!); (case e => decide +kernel); (case f => decide +kernel)))
local macro_rules | `(tactic| walk_at "eval Name") => `(tactic| (refine' LCgL.ld_own ?N ?m ?c ?x ?_; (case N => assumption); (case m => k_mem); (case c => assumption); (case x => assumption)))
local macro_rules | `(tactic| walk_at "storeName") => `(tactic| (refine' storeX_L ?F ?N ?_ ?k ?x; (case F => assumption); (case N => assumption); (case k => kernel_rfl); (case x => kernel_rfl!); (intro _ _ _)))
local macro_rules | `(tactic| walk_at "eval ListComp") => `(tactic| (refine halt ?_))
local macro_rules | `(tactic| walk_at "newTuple") => `(tactic| (refine' newT ?F ?N ?_ ?z; (case F => assumption); (case N => assumption); (case z => size_fits); (intro _ _ _ _ _)))
local macro_rules | `(tactic| walk_at "call builtin:str.join cons nil") => `(tactic| (refine halt ?_))
local macro_rules | `(tactic| walk_at "call builtin:list.append cons nil") => `(tactic| (refine halt ?_))
local macro_rules | `(tactic| walk_at "call ref cons nil") => `(tactic| (refine halt ?_))
theorem off1_mem {D : Addr} : ∀ {l : List (Addr × Obj)}, LCg.Off1 D l → ∀ p ∈ l, p.1 ≠ D
  | [], _, _, h => nomatch h
  | _ :: _, x, p, h => by
    rcases List.mem_cons.mp h with rfl | h
    · exact x.1
    · exact off1_mem x.2 p h
mutual
theorem leaves_len : ∀ (n : Nat) (t : Tr), OkN n t → (leaves t).length ≤ K n
  | n, .nul, _ => by simp [leaves]
  | n, .leaf s, _ => by have := K_ge n; simp [leaves]; omega
  | 0, .node ts, h => by exact absurd h (by simp [OkN])
  | n + 1, .node ts, h => by
    have := leavess_len n ts h.2
    have e : K (n + 1) = 3 * K n := rfl
    have e2 : ts.length * K n ≤ 3 * K n := Nat.mul_le_mul_right _ h.1
    simp only [leaves]
    omega
theorem leavess_len : ∀ (n : Nat) (ts : List Tr), (∀ t ∈ ts, OkN n t) → (leavess ts).length ≤ ts.length * K n
  | n, [], _ => by simp [leavess]
  | n, t :: ts, h => by
    have h1 := leaves_len n t (h t (.head _))
    have h2 := leavess_len n ts fun x hx => h x (.tail _ hx)
    rw [leavess, List.length_append, List.length_cons, Nat.succ_mul]
    omega
end
theorem mks_append : ∀ (a b : List Tr) (h : List (List Nat)), mks (a ++ b) h = ((mks a h).1 ++ (mks b (mks a h).2).1, (mks b (mks a h).2).2)
  | [], b, h => by simp [mks]
  | t :: a, b, h => by simp only [List.cons_append, mks, mks_append a b]
theorem lT_length (l : List (List Nat)) : (lT l).length = l.length := by simp [lT]

def MkC (w : World) (mg mb : Str → Option Value) (n₀ : Nat) : Prop := ∀ {f : Addr} {cdv : Value} {A : Around} {h₀ : Heap} {L : Addr} {s : Shared} {m : Str → Option Value} {rest : List (Addr × Obj)} {hd : Addr} {hs : List Value} {hn : Nat} {h : List (List Nat)} {v : Value} {t : Tr}
    {Q E : Value → Shared → Prop} (_ : Sta w mg mb A h₀ L) (_ : Fr h₀ L s.heap m) (_ : News h₀ L s.heap ((hd, listOf hs.toArray hn) :: rest)) (_ : IsDef h₀ mg "_law_marked" 25 f cdv) (_ : A.depth + n₀ + 4 < recursionLimit) (_ : A.units + 3 * n₀ + 60 < cLine)
    (_ : ∀ p ∈ rest, p.1 ≠ hd) (_ : DatAll [] hs (lT h)) (_ : h.length + K n₀ ≤ 10000) (_ : DatIn rest v (dT t)) (_ : OkN n₀ t)
    (_ : ∀ v' hs' hn' h' tk2 add, DatIn add v' (mk t h).1 → DatAll [] hs' (lT (mk t h).2) → OwnOff add (hd :: rest.map (·.1)) → Fr h₀ L h' m → News h₀ L h' ((hd, listOf hs'.toArray hn') :: (add ++ rest)) → Q v' { s with heap := h', toks := tk2 }),
    wpAny (model prog w) A (call (.ref f) [v, .ref hd]) Q E s

theorem marked_nul {w : World} {mg mb : Str → Option Value} {f : Addr} {cdv : Value} {A : Around} {h₀ : Heap} {L : Addr} {s : Shared} {m : Str → Option Value} {news : List (Addr × Obj)} {hd : Addr}
    {Q E : Value → Shared → Prop} (S : Sta w mg mb A h₀ L) (F : Fr h₀ L s.heap m) (N : News h₀ L s.heap news) (D : IsDef h₀ mg "_law_marked" 25 f cdv) (hroom : A.depth + 4 < recursionLimit) (hu : A.units + 60 < cLine)
    (hQ : ∀ h' tk2, Fr h₀ L h' m → News h₀ L h' news → Q .none { s with heap := h', toks := tk2 }) :
    wpAny (model prog w) A (call (.ref f) [.none, .ref hd]) Q E s := by
  refine enterC (binds := [("tree", .none), ("heard", .ref hd)]) (cl := fun L' => [("heard", L' + 1)]) (m₁ := fun y => if y = "tree" then some .none else none)
    (cm := fun y => if y = "heard" then some (.ref hd) else none) S F N D (by omega) (fun doc pm => by kernel_rfl) (by kernel_rfl) (by decide +kernel) (fun L' => by kernel_rfl) (fun L' => by kernel_rfl) (fun L' => by kernel_rfl)
    (fun g L' h₁ tk0 cells S' F' N' Y lt => ?_) (by kernel_rfl) (by kernel_rfl) (by kernel_rfl)
  obtain ⟨o1, rfl, d1⟩ := Y.one
  replace d1 : o1.data = .cell (some (.ref hd)) := by simpa using d1
  dsimp only [List.cons_append, List.nil_append] at N'
  refine wpAny_execs_cons ?_
  clear F N S D
  have Bisi := S'.lib.isinstance
  have Blist := S'.lib.list
  w_on
  k_unmd
  k_fold
  repeat' (first | walk1 | (dsimp only; walk1) | (k_unfold; dsimp only))
  rename Fr _ _ _ _ => F3; rename News _ _ _ _ => N3
  exact back_ F3 N3 fun F9 N9 => hQ _ _ F9 (News.sub N9 (by kqd_sub))
theorem marked_leaf {w : World} {mg mb : Str → Option Value} {f : Addr} {cdv : Value} {A : Around} {h₀ : Heap} {L : Addr} {s : Shared} {m : Str → Option Value} {rest : List (Addr × Obj)} {hd : Addr} {hs : List Value} {hn : Nat} {z : PySem.Str} {tz : Tok}
    {Q E : Value → Shared → Prop} (S : Sta w mg mb A h₀ L) (F : Fr h₀ L s.heap m) (N : News h₀ L s.heap ((hd, listOf hs.toArray hn) :: rest)) (D : IsDef h₀ mg "_law_marked" 25 f cdv) (hroom : A.depth + 4 < recursionLimit) (hu : A.units + 60 < cLine)
    (hoff : ∀ p ∈ rest, p.1 ≠ hd) (hb : hs.length ≤ 10000)
    (hQ : ∀ a ti h' tk2, (∀ p ∈ (hd, listOf hs.toArray hn) :: rest, p.1 < a) → Fr h₀ L h' m → News h₀ L h' ((hd, listOf (hs ++ [Value.str z tz]).toArray (hn + 1)) :: (a, ({ cls := .type "tuple", data := .seq ([.int ((hs.length + 1 : Nat) : Int) ti, .str z tz] : List Value).toArray 0 } : Obj)) :: rest) → Q (.ref a) { s with heap := h', toks := tk2 }) :
    wpAny (model prog w) A (call (.ref f) [.str z tz, .ref hd]) Q E s := by
  refine enterC (binds := [("tree", .str z tz), ("heard", .ref hd)]) (cl := fun L' => [("heard", L' + 1)]) (m₁ := fun y => if y = "tree" then some (.str z tz) else none)
    (cm := fun y => if y = "heard" then some (.ref hd) else none) S F N D (by omega) (fun doc pm => by kernel_rfl) (by kernel_rfl) (by decide +kernel) (fun L' => by kernel_rfl) (fun L' => by kernel_rfl) (fun L' => by kernel_rfl)
    (fun g L' h₁ tk0 cells S' F' N' Y lt => ?_) (by kernel_rfl) (by kernel_rfl) (by kernel_rfl)
  obtain ⟨o1, rfl, d1⟩ := Y.one
  replace d1 : o1.data = .cell (some (.ref hd)) := by simpa using d1
  dsimp only [List.cons_append, List.nil_append] at N'
  have hlt : hd < L' := lt _ (.head _)
  refine wpAny_execs_cons ?_
  clear F N S D
  have Bisi := S'.lib.isinstance
  have Blist := S'.lib.list
  have Blen := S'.lib.len
  w_on
  k_unmd
  k_fold
  repeat' (first | walk1 | (dsimp only; walk1) | (k_unfold; dsimp only))
  rename Fr _ _ _ _ => F3; rename News _ _ _ _ => N3
  refine appendHd (n := hn) (its := hs.toArray) (rest := (L' + 1, o1) :: rest) F3 (News.sub N3 (by kqd_sub)) (off_cons (cell1 hlt) hoff) (by rw [List.size_toArray, sizeLine_eq]; omega) fun h4 F4 N4 => ?_
  clear F3 N3
  rw [List.push_toArray] at N4
  (try dsimp only)
  repeat' (first | walk1 | (dsimp only; walk1) | (k_unfold; dsimp only))
  refine lenL (its := (hs ++ [Value.str z tz]).toArray) (n := hn + 1) N4 (.head _) (by rw [List.size_toArray, List.length_append, List.length_singleton]; omega) fun t7 tk7 => ?_
  (try dsimp only)
  repeat' (first | walk1 | (dsimp only; walk1) | (k_unfold; dsimp only))
  rename Fr _ _ _ _ => F5; rename News _ _ _ _ => N5
  rename Behind _ _ => hb2
  have e : ((hs ++ [Value.str z tz]).toArray.size : Int) = ((hs.length + 1 : Nat) : Int) := by simp
  rw [e] at N5
  refine back_ F5 N5 fun F9 N9 => hQ _ _ _ _ ?_ F9 (News.sub N9 (by kqd_sub))
  intro p hp
  rcases List.mem_cons.mp hp with rfl | hp
  · have := hb2 (hd, listOf (hs ++ [Value.str z tz]).toArray (hn + 1)) (.head _)
    exact this
  · exact hb2 _ (.tail _ (.tail _ hp))

theorem marked_node {w : World} {mg mb : Str → Option Value} (d : Nat) (ih : MkC w mg mb d) {f : Addr} {cdv : Value} {A : Around} {h₀ : Heap} {L : Addr} {s : Shared} {m : Str → Option Value} {rest : List (Addr × Obj)} {hd : Addr} {hs : List Value} {hn : Nat} {h : List (List Nat)} {a : Addr} {us : List Value} {nn : Nat} {ts : List Tr}
    {Q E : Value → Shared → Prop} (S : Sta w mg mb A h₀ L) (F : Fr h₀ L s.heap m) (N : News h₀ L s.heap ((hd, listOf hs.toArray hn) :: rest)) (D : IsDef h₀ mg "_law_marked" 25 f cdv) (hroom : A.depth + (d + 1) + 4 < recursionLimit) (hu : A.units + 3 * (d + 1) + 60 < cLine)
    (hoff : ∀ p ∈ rest, p.1 ≠ hd) (hh : DatAll [] hs (lT h)) (hb : h.length + K (d + 1) ≤ 10000) (hm : (a, listOf us.toArray nn) ∈ rest) (hda : DatAll rest us (dTs ts)) (hw : ts.length ≤ 3) (hok : ∀ t ∈ ts, OkN d t)
    (hQ : ∀ v' hs' hn' h' tk2 add, DatIn add v' (.list (mks ts h).1) → DatAll [] hs' (lT (mks ts h).2) → OwnOff add (hd :: rest.map (·.1)) → Fr h₀ L h' m → News h₀ L h' ((hd, listOf hs'.toArray hn') :: (add ++ rest)) → Q v' { s with heap := h', toks := tk2 }) :
    wpAny (model prog w) A (call (.ref f) [.ref a, .ref hd]) Q E s := by
  refine enterC (binds := [("tree", .ref a), ("heard", .ref hd)]) (cl := fun L' => [("heard", L' + 1)]) (m₁ := fun y => if y = "tree" then some (.ref a) else none)
    (cm := fun y => if y = "heard" then some (.ref hd) else none) S F N D (by omega) (fun doc pm => by kernel_rfl) (by kernel_rfl) (by decide +kernel) (fun L' => by kernel_rfl) (fun L' => by kernel_rfl) (fun L' => by kernel_rfl)
    (fun g L' h₁ tk0 cells S' F' N' Y lt => ?_) (by kernel_rfl) (by kernel_rfl) (by kernel_rfl)
  obtain ⟨o1, rfl, d1⟩ := Y.one
  replace d1 : o1.data = .cell (some (.ref hd)) := by simpa using d1
  dsimp only [List.cons_append, List.nil_append] at N'
  have hlt : hd < L' := lt _ (.head _)
  refine wpAny_execs_cons ?_
  clear F N S D
  have Bisi := S'.lib.isinstance
  have Blist := S'.lib.list
  obtain ⟨fm, cm, Dm⟩ := S'.lib.marked
  w_on
  k_unmd
  k_fold
  repeat' (first | walk1 | (dsimp only; walk1) | (k_unfold; dsimp only))
  refine isiL (by assumption) (a := a) (its := us.toArray) (n := nn) (by simp [hm]) ?_
  repeat' (first | walk1 | (dsimp only; walk1) | (k_unfold; dsimp only))
  refine LCg.ListComp_U (cl := [("heard", L' + 1)]) (by assumption) (by kernel_rfl) (by decide +kernel) (by kernel_rfl) (by decide +kernel) (by kernel_rfl) ?_
  k_fold
  repeat' (first | walk1 | (dsimp only; walk1))
  k_unfold
  (try dsimp only)
  rename Fr _ _ _ _ => F3
  rename News _ _ _ _ => N3
  have e0 : us.length = ts.length := by rw [hda.length, dTs_length]
  refine LCg.CompSrc.ledger S'.hand F3 (News.sub (b := (hd, listOf hs.toArray hn) :: (L' + 1, o1) :: ([] ++ rest)) N3 (by kqd_sub)) (its := us.toArray) (k := nn) (by simp [hm]) (by rw [List.size_toArray, sizeLine_eq]; omega) (fun g' => ?_)
  refine comp_ind (fun i ys nw => ∃ (hs' : List Value) (hn' : Nat) (add : List (Addr × Obj)), DatAll add ys (mks (ts.take i) h).1 ∧ DatAll [] hs' (lT (mks (ts.take i) h).2) ∧ OwnOff add (hd :: rest.map (·.1)) ∧ nw = (hd, listOf hs'.toArray hn') :: (L' + 1, o1) :: (add ++ rest)) ?turn ?fin ⟨hs, hn, [], .nil, hh, fun _ h => (nomatch h), rfl⟩
  case turn =>
    clear N3 F3
    rintro i ys nw v1 I oI C oC D m₂ h5 tk E' hin hv ⟨hs', hn', add, hys, hhs, ho, rfl⟩ hC hx' F3 N3 off ne
    k_fold
    have of := off.mem _ (.head _)
    have hi3 : i < ts.length := by rw [List.size_toArray] at hin; omega
    have hdv : DatIn rest v1 (dT ts[i]) := by
      obtain ⟨v, e, hd'⟩ := hda.get (k := i) (by rw [dTs_length]; exact hi3)
      have : us[i]? = some v1 := by simpa using hv
      rw [this] at e
      cases e
      simpa [dTs_map] using hd'
    have el : (mks (ts.take i) h).2.length + K d ≤ 10000 := by
      have q := leavess_len d (ts.take i) fun t ht => hok t (List.mem_of_mem_take ht)
      rw [mks_heard, List.length_append]
      have e2 : (ts.take i).length * K d ≤ 2 * K d := Nat.mul_le_mul_right _ (by rw [List.length_take]; omega)
      have e3 : K (d + 1) = 3 * K d := rfl
      omega
    have et : mks (ts.take (i + 1)) h = ((mks (ts.take i) h).1 ++ [(mk ts[i] (mks (ts.take i) h).2).1], (mk ts[i] (mks (ts.take i) h).2).2) := by
      rw [List.take_add_one, List.getElem?_eq_getElem hi3, mks_append]
      rfl
    have hadd : ∀ p ∈ add, p.1 ≠ hd := fun p hp => ho p hp hd (.head _)
    repeat' (first | walk1 | (dsimp only; walk1))
    refine ih (rest := (I, oI) :: (C, oC) :: (D, LCg.lst ys) :: (L' + 1, o1) :: (add ++ rest)) S' (by assumption) (News.sub (by assumption) (by kqd_sub)) Dm (by show A.depth + 1 + d + 4 < _; omega) (by show A.units + 3 + 3 * d + 60 < _; omega)
      (off_cons of.1.symm (off_cons of.2.1.symm (off_cons of.2.2.symm (off_cons (cell1 hlt) (off_app hadd hoff))))) hhs el (hdv.mono fun p hp => .tail _ (.tail _ (.tail _ (.tail _ (List.mem_append.mpr (.inr hp)))))) (hok _ (List.getElem_mem hi3)) fun v' hs2 hn2 h6 tk6 add2 hv2 hh2 ho2 F5 N5 => ?_
    k_unfold
    (try dsimp only)
    refine LCg.CompEnd.intro F5 N5 ((hd, listOf hs2.toArray hn2) :: (L' + 1, o1) :: ((add ++ add2) ++ rest)) (by kqd_sub) ?_ (.inr ⟨_, .tail _ (.tail _ (List.mem_append.mpr (.inr hm))), rfl, _, rfl⟩) ⟨hs2, hn2, add ++ add2, ?_, ?_, ?_, rfl⟩
    · refine LCg.Off3.of (fun p hp => ?_)
      simp only [List.mem_cons, List.mem_append] at hp
      rcases hp with rfl | rfl | (hp | hp) | hp
      · exact of
      · exact off.mem _ (.tail _ (.head _))
      · exact off.mem _ (.tail _ (.tail _ (List.mem_append.mpr (.inl hp))))
      · exact ⟨ho2 p hp I (by simp), ho2 p hp C (by simp), ho2 p hp D (by simp)⟩
      · exact off.mem _ (.tail _ (.tail _ (List.mem_append.mpr (.inr hp))))
    · rw [et]
      exact DatAll.append (hys.mono fun p hp => List.mem_append.mpr (.inl hp)) (DatAll.one (hv2.mono fun p hp => List.mem_append.mpr (.inr hp)))
    · rw [et]; exact hh2
    · intro p hp b hb
      rcases List.mem_append.mp hp with hp | hp
      · exact ho p hp b hb
      · refine ho2 p hp b ?_
        rcases List.mem_cons.mp hb with rfl | hb
        · exact .head _
        · simp only [List.map_cons, List.map_append, List.mem_cons, List.mem_append]
          simp only [List.mem_map] at hb ⊢
          grind
  case fin =>
    rintro ys nw ⟨hs', hn', add, hys, hhs, ho, rfl⟩
    intro D h6 tk F4 N4 o4
    clear N3 F3
    (try dsimp only)
    repeat' (first | walk1 | (dsimp only; walk1) | (k_unfold; dsimp only))
    have hfull : ts.take us.toArray.size = ts := List.take_of_length_le (by rw [List.size_toArray]; omega)
    rw [hfull] at hys hhs
    have q := off1_mem o4
    refine back_ F4 N4 fun F9 N9 => hQ _ hs' hn' _ _ ((D, LCg.lst ys) :: add) (.list (n := ys.length) (.head _) (hys.mono fun p hp => .tail _ hp)) hhs ?_ F9 (News.sub N9 (by kqd_sub))
    intro p hp b hb
    rcases List.mem_cons.mp hp with rfl | hp
    · rcases List.mem_cons.mp hb with rfl | hb
      · exact (q _ (.head _)).symm
      · obtain ⟨z, hz, rfl⟩ := List.mem_map.mp hb
        exact (q z (.tail _ (.tail _ (List.mem_append.mpr (.inr hz))))).symm
    · exact ho p hp b hb

theorem marked_spec {w : World} {mg mb : Str → Option Value} (d : Nat) : MkC w mg mb d := by
  have leafs : ∀ d : Nat, ∀ {f : Addr} {cdv : Value} {A : Around} {h₀ : Heap} {L : Addr} {s : Shared} {m : Str → Option Value} {rest : List (Addr × Obj)} {hd : Addr} {hs : List Value} {hn : Nat} {h : List (List Nat)} {v : Value} {t : Tr}
    {Q E : Value → Shared → Prop} (_ : Sta w mg mb A h₀ L) (_ : Fr h₀ L s.heap m) (_ : News h₀ L s.heap ((hd, listOf hs.toArray hn) :: rest)) (_ : IsDef h₀ mg "_law_marked" 25 f cdv) (_ : A.depth + d + 4 < recursionLimit) (_ : A.units + 3 * d + 60 < cLine)
    (_ : ∀ p ∈ rest, p.1 ≠ hd) (_ : DatAll [] hs (lT h)) (_ : h.length + K d ≤ 10000) (_ : DatIn rest v (dT t)) (_ : ∀ ts, t ≠ .node ts)
    (_ : ∀ v' hs' hn' h' tk2 add, DatIn add v' (mk t h).1 → DatAll [] hs' (lT (mk t h).2) → OwnOff add (hd :: rest.map (·.1)) → Fr h₀ L h' m → News h₀ L h' ((hd, listOf hs'.toArray hn') :: (add ++ rest)) → Q v' { s with heap := h', toks := tk2 }),
    wpAny (model prog w) A (call (.ref f) [v, .ref hd]) Q E s := by
    intro d f cdv A h₀ L s m rest hd hs hn h v t Q E S F N D hroom hu hoff hh hb hv hno hQ
    cases t with
    | nul =>
      rw [dT] at hv
      cases hv
      exact marked_nul S F N D (by omega) (by omega) fun h' tk2 F' N' => hQ .none hs hn h' tk2 [] .none hh (fun _ h => nomatch h) F' N'
    | leaf z =>
      rw [dT] at hv
      cases hv with
      | str _ tz =>
      have e : hs.length = h.length := by rw [hh.length, lT_length]
      refine marked_leaf S F N D (by omega) (by omega) hoff (by omega) fun a ti h' tk2 hlt F' N' => hQ (.ref a) (hs ++ [Value.str (mkS z) tz]) (hn + 1) h' tk2 [(a, ({ cls := .type "tuple", data := .seq ([.int ((hs.length + 1 : Nat) : Int) ti, .str (mkS z) tz] : List Value).toArray 0 } : Obj))] ?_ ?_ ?_ F' N'
      · rw [mk, ← e]
        exact .tuple (.head _) (.cons (.int _ _) (.cons (.str _ _) .nil))
      · rw [mk, lT_append]
        exact hh.append (.cons (.str _ _) .nil)
      · intro p hp b hb
        rw [List.mem_singleton.mp hp]
        rcases List.mem_cons.mp hb with rfl | hb
        · exact Nat.ne_of_gt (hlt _ (.head _))
        · obtain ⟨z, hz, rfl⟩ := List.mem_map.mp hb
          exact Nat.ne_of_gt (hlt _ (.tail _ hz))
    | node ts => exact absurd rfl (hno ts)
  induction d with
  | zero =>
    intro f cdv A h₀ L s m rest hd hs hn h v t Q E S F N D hroom hu hoff hh hb hv hok hQ
    exact leafs 0 S F N D hroom hu hoff hh hb hv (fun ts e => by subst e; exact hok) hQ
  | succ d ih =>
    intro f cdv A h₀ L s m rest hd hs hn h v t Q E S F N D hroom hu hoff hh hb hv hok hQ
    cases t with
    | nul => exact leafs (d + 1) S F N D hroom hu hoff hh hb hv (fun ts e => by cases e) hQ
    | leaf z => exact leafs (d + 1) S F N D hroom hu hoff hh hb hv (fun ts e => by cases e) hQ
    | node ts =>
      rw [dT] at hv
      cases hv with
      | list hm hda => exact marked_node d ih S F N D hroom hu hoff hh hb hm hda hok.1 hok.2 hQ
end Mine

end
section
open PySem PySem.W PySem.Calls PyProof.Rows PySem.Spec
set_option maxRecDepth 100000
set_option maxHeartbeats 4000000
namespace Mine
section
variable {M : Model} {A : Around} {E : Value → Shared → Prop} {s' : Shared} {base g g₂ h : Heap} {outer : List Env} {env : Env} {L e : Addr} {m : Str → Option Value} {Q : Unit → Shared → Prop} {news : List (Addr × Obj)}
theorem fr_mem (hf : env.frame = some L) {b : Addr} (hb : b ∈ (env :: outer).filterMap (·.frame)) : b = L ∨ b ∈ outer.filterMap (·.frame) := by
  obtain ⟨x, hx, hxf⟩ := List.mem_filterMap.mp hb
  rcases List.mem_cons.mp hx with rfl | hx
  · rw [hf] at hxf
    exact .inl (Option.some.inj hxf).symm
  · exact .inr (List.mem_filterMap.mpr ⟨x, hx, hxf⟩)
/-- an exception made in this frame leaves it -/
theorem fly_new {cls : String} (K : Below A base outer g) (hf : env.frame = some L) (hk : env.scope.kind = .function) (hx : Heap.NewExc h s'.heap e cls) (F : Fr g L h m) (N : News g L h news)
    (hQ : ∀ h', RaisedSN base g outer e (.type cls) news h' → g.UpToSlots h' → Q () { s' with heap := h' }) :
    wpAny M (A.deeper env) (leaving env (.ref e)) Q E s' := by
  have K' := pushX K F hf hk
  obtain ⟨ob, tp, he, hcls, hd⟩ := hx.there
  have hid : ∀ env' ∈ env :: outer, ∀ b, env'.frame = some b → b ∈ (env :: outer).filterMap (·.frame) := fun env' he' b hb => List.mem_filterMap.mpr ⟨env', he', hb⟩
  have hen : (hideAll h ((env :: outer).filterMap (·.frame))).get? e = none := by
    cases q : (hideAll h ((env :: outer).filterMap (·.frame))).get? e with
    | none => rfl
    | some o =>
      have := of_hideAll _ q
      rw [hx.new] at this
      cases this
  have h1 : base.StaysIn (hideAll h ((env :: outer).filterMap (·.frame))) := fun b o q => hideAll_get _ (K'.stays b o q) fun hm => by
    rw [(K'.frames.mem hm).1] at q
    cases q
  have h2 : ∀ b o, g.get? b = some o → b ∉ outer.filterMap (·.frame) → (hideAll h ((env :: outer).filterMap (·.frame))).get? b = some o := fun b o q nm => hideAll_get _ (F.keep b o q) fun hm => by
    rcases fr_mem hf hm with rfl | z
    · rw [kts_self F] at q
      cases q
    · exact nm z
  have h3 : ∀ q ∈ news, (hideAll h ((env :: outer).filterMap (·.frame))).get? q.1 = some q.2 ∧ g.get? q.1 = none ∧ base.get? q.1 = none := fun q hq => by
    refine ⟨hideAll_get _ (N q hq).1 fun hm => ?_, (N q hq).2.2, fresh_of_stays K.stays (N q hq).2.2⟩
    rcases fr_mem hf hm with z | z
    · exact (N q hq).2.1 z
    · obtain ⟨o, ho, _⟩ := (K.frames.mem z).2
      rw [(N q hq).2.2] at ho
      cases ho
  refine wpAny_leaving_firstW (a0 := tp) K'.stack ((funFrames_hide K'.frames hid).of_keeps fun b o hb _ => ⟨o, hx.keeps b o hb, rfl⟩) hf he (fun b o hb => hx.keeps b o (of_hideAll _ hb)) hen hd rfl rfl fun h' hL => ?_
  obtain ⟨k1, ⟨_, _, k2⟩, k3, k4⟩ := hL
  exact hQ h' ⟨_, tp, h1, h2, h3, k1, hen, k2, by rw [← hcls]; exact k3⟩ (((Heap.UpToSlots.of_keeps F.keep).trans (Heap.UpToSlots.of_keeps hx.keeps)).trans k4)
/-- it passes a frame -/
theorem fly_on {cls : Value} (K : Below A base outer g) (hf : env.frame = some L) (F : Fr g L g₂ m) (R : RaisedSN base g₂ (env :: outer) e cls news s'.heap) (hsm : g₂.UpToSlots s'.heap)
    (hQ : ∀ h', RaisedSN base g outer e cls news h' → g.UpToSlots h' → Q () { s' with heap := h' }) :
    wpAny M (A.deeper env) (leaving env (.ref e)) Q E s' := by
  obtain ⟨B, a0, hB, hBG, hl, hfl⟩ := R
  refine wpAny_leaves_onW (Around.frames_deeper K.stack) hf hfl fun h' x1 x2 => hQ h' ⟨B, a0, hB, fun b o q nm => hBG b o (F.keep b o q) fun hm => ?_, fun q hq => ⟨(hl q hq).1, kts_none F.keep (hl q hq).2.1, (hl q hq).2.2⟩, x1⟩ ((Heap.UpToSlots.of_keeps F.keep).trans (hsm.trans x2))
  rcases fr_mem hf hm with rfl | z
  · rw [kts_self F] at q
    cases q
  · exact nm z
theorem raised_sub {base G : Heap} {l : List Env} {cls : Value} {news news' : List (Addr × Obj)} (R : RaisedSN base G l e cls news h) (k : ∀ p ∈ news', p ∈ news) : RaisedSN base G l e cls news' h := by
  obtain ⟨B, a0, hB, hBG, hl, hfl⟩ := R
  exact ⟨B, a0, hB, hBG, fun q hq => hl q (k q hq), hfl⟩
end
section
variable {w : World} {A₀ : Around} {E : Value → Shared → Prop} {s' : Shared} {base g G : Heap} {outer : List Env} {L a e : Addr} {m mg mb : Str → Option Value} {name : Str} {scope : Scope} {cd : Value}
  {b₀ : Stmt} {suite : List Stmt} {pos np : Pos} {rest : List ExceptHandler} {Q : Flow → Shared → Prop} {news : List (Addr × Obj)}
/-- it is caught by «except ValueError» -/
theorem fly_caught (R : RaisedSN base G (envOf name scope L a cd :: outer) e (.type "ValueError") news s'.heap) (F : Fr g L G m) (K : Below A₀ base outer g) (hsm : G.UpToSlots s'.heap) (hg : base.Ns mainGlobals mg) (hb : base.Ns builtinsNs mb)
    (hV : IsB mg mb "ValueError" (.type "ValueError"))
    (k : ∀ h' g', KtsTurn (outer.filterMap (·.frame)) g g' → Fr g' L h' m → News g' L h' news →
      wpAny (model prog w) ((A₀.deeper (envOf name scope L a cd)).mark (some (.ref e))) (execs (b₀ :: suite) (envOf name scope L a cd)) Q E { s' with heap := h' })
    (hk : scope.kind = .function) (hx : (envOf name scope L a cd).kindOf "ValueError" = some .globalImplicit)
    (hE : PassesOwnAt (model prog w) ((A₀.deeper (envOf name scope L a cd)).mark (some (.ref e))) (A₀.deeper (envOf name scope L a cd)) (envOf name scope L a cd) E := by passes_own) :
    wpAny (model prog w) (A₀.deeper (envOf name scope L a cd)) (noteFrame (.ref e) (envOf name scope L a cd))
      (fun _ s₂ => wpAny (model prog w) (A₀.deeper (envOf name scope L a cd)) (setFlight (.ref e) none) (fun _ s₃ =>
        wpAny (model prog w) (A₀.deeper (envOf name scope L a cd)) (handleBy (.ref e) (envOf name scope L a cd) (.ExceptHandler (some (.Name "ValueError" np)) none (b₀ :: suite) pos :: rest)) Q E s₃) E s₂) E s' := by
  obtain ⟨B, a0, hB, hBG, hl, hfl⟩ := R
  have hL : B.get? L = none := by
    obtain ⟨_, ⟨L', _, hf, hn', _⟩, _⟩ := hfl.2.2.1
    obtain rfl : L = L' := Option.some.inj hf
    exact hn'
  refine wpAny_looks_onW (Around.frames_deeper K.stack) rfl hfl fun h₄ held₄ u₄ => ?_
  refine wpAny_landsW held₄ fun h₅ held u₅ => ?_
  have v₅ := hsm.trans (u₄.trans u₅)
  obtain ⟨g₅, T₅, F₅, K₅⟩ := kts_ground K F hBG held.1 v₅
  obtain ⟨ob, hob, hobc⟩ := held.there
  refine wpAny_handleBy_builtin (X := "ValueError") (T := "ValueError") (b := true) PySem.F.isExc_ValueError PySem.F.notTuple_ValueError (by rw [isSubtype_type]; kernel_rfl) ?_
  refine Name_function_global hk hx (loadGlobal_builtin (env := envOf name scope L a cd) ((hg.keeps K₅.stays).keeps F₅.keep) hV.none ((hb.keeps K₅.stays).keeps F₅.keep) hV.some ⟨rfl, ⟨ob, hob, hobc⟩, ?_⟩) (by decide +kernel)
  refine lands_againW held fun h₆ fl₆ u₆ => ?_
  obtain ⟨g₆, T₆, F₆, K₆⟩ := kts_ground K F hBG fl₆.1 (v₅.trans u₆)
  refine wpAny_passesOwnAt hE (k h₆ g₆ T₆ F₆ fun q hq => ⟨fl₆.1 _ _ (hl q hq).1, fun z => ?_, T₆.none_ _ (kts_none F.keep (hl q hq).2.1)⟩)
  have := (hl q hq).1
  rw [z, hL] at this
  cases this
end
end Mine

end
section
open PySem PySem.W PySem.Calls PyProof.Rows PySem.Spec
set_option maxRecDepth 100000
set_option maxHeartbeats 4000000
namespace Mine
local macro_rules | `(tactic| walk_at "eval Name") => `(tactic| first
  | (refine' nmB ?S ?F ?D ?_ ?g ?b ?k ?x ?d; (case S => assumption); (case F => assumption); (case D => assumption); (case g => kernel_rfl); (case b => kernel_rfl); (case k => kernel_rfl); (case x => kernel_rfl); (case d => decide +kernel))
  | (refine' nmD ?S ?F ?D ?_ ?g ?k ?x ?d; (case S => assumption); (case F => assumption); (case D => assumption); (case g => kernel_rfl); (case k => kernel_rfl); (case x => kernel_rfl); (case d => decide +kernel))
  | (refine' nmV ?S ?F ?D ?_ ?g ?k ?x ?d; (case S => assumption); (case F => assumption); (case D => assumption); (case g => kernel_rfl); (case k => kernel_rfl); (case x => kernel_rfl); (case d => decide +kernel))
  | (refine' nmCell ?N ?c ?m ?d ?_ ?k ?x ?e; (case N => assumption); (case c => rfl); (case m => k_mem); (case d => assumption); (case k => kernel_rfl); (case x => kernel_rfl!); (case e => decide +kernel))
  | (refine' kcf_cell ?N ?c ?m ?d ?_ ?k ?x ?e; (case N => assumption); (case c => rfl); (case m => k_mem); (case d => assumption); (case k => kernel_rfl); (case x => kernel_rfl!); (case e => decide +kernel)))
local macro_rules | `(tactic| walk_at "callWith ref") => `(tactic| (refine' cwD ?D ?_; (case D => assumption)))
local macro_rules | `(tactic| walk_at "Stood") => `(tactic| exact ⟨_, by assumption⟩)
local macro_rules | `(tactic| walk_at "exec For") => `(tactic| (refine' for_ ?F ?x ?p ?_; (case F => assumption); (case x => kernel_rfl); (case p => kernel_rfl); k_fold))
local macro_rules | `(tactic| walk_at "newList") => `(tactic| (refine' newL ?F ?N ?_ ?z; (case F => assumption); (case N => assumption); (case z => size_fits); (intro _ _ _ _ _)))
local macro_rules | `(tactic| kqd_sub) => `(tactic| (intro p hp; simp only [List.mem_cons, List.mem_append, List.not_mem_nil, or_false, false_or] at hp ⊢; grind))
local macro_rules | `(tactic| walk_at "eval Name") => `(tactic| first
  | (refine' nameX_L ?F ?v ?_ ?k ?x ?d; (case F => assumption); (case v => (with_unfolding_all rfl)); (case k => kernel_rfl); (case x => kernel_rfl!); (case d => decide +kernel))
  | (refine' nmFree ?N ?c ?m ?d ?_ ?k ?x ?e ?f; (case N => assumption); (case c => rfl); (case m => k_mem); (case d => assumption); (case k => kernel_rfl); (case x => kernel_rfl!); (case e => decide +kernel); (case f => decide +kernel)))
local macro_rules | `(tactic| walk_at "eval Name") => `(tactic| (refine' LCgL.ld_own ?N ?m ?c ?x ?_; (case N => assumption); (case m => k_mem); (case c => assumption); (case x => assumption)))
local macro_rules | `(tactic| walk_at "storeName") => `(tactic| (refine' storeX_L ?F ?N ?_ ?k ?x; (case F => assumption); (case N => assumption); (case k => kernel_rfl); (case x => kernel_rfl!); (intro _ _ _)))
local macro_rules | `(tactic| walk_at "eval ListComp") => `(tactic| (refine halt ?_))
local macro_rules | `(tactic| walk_at "newTuple") => `(tactic| (refine' newT ?F ?N ?_ ?z; (case F => assumption); (case N => assumption); (case z => size_fits); (intro _ _ _ _ _)))
local macro_rules | `(tactic| walk_at "call builtin:str.join cons nil") => `(tactic| (refine halt ?_))
local macro_rules | `(tactic| walk_at "call builtin:list.append cons nil") => `(tactic| (refine halt ?_))
local macro_rules | `(tactic| walk_at "call ref cons nil") => `(tactic| (refine halt ?_))
/-- the def in the listener -/
def rdS : Stmt := (dBody (stm 26)).getD 0 (.Pass ⟨0, 0, 0, 0⟩)
def rdQ : Str := "_law_listener.<locals>._law_reader"
/-- the reader's objects -/
structure Rd (rest : List (Addr × Obj)) (r hd : Addr) (stop : Int) (doc pm : Value) (c' : Addr) (ctv : Value) (oc : Obj) (ws : Array Value) (t : Tok) (ch cs : Addr) (och ocs : Obj) (ts : Tok) : Prop where
  fn : (r, fnMade "_law_reader" rdQ (dParams rdS) (dBody rdS) (dScope rdS) [("stop", cs), ("heard", ch)] doc pm c' ctv) ∈ rest
  code : (c', oc) ∈ rest
  codeD : oc.data = .fields ws
  codeN : ws[1]? = some (.str rdQ t)
  ch : (ch, och) ∈ rest
  chD : och.data = .cell (some (.ref hd))
  cs : (cs, ocs) ∈ rest
  csD : ocs.data = .cell (some (.int stop ts))

theorem reader_spec {w : World} {mg mb : Str → Option Value} {A₀ A : Around} {base h₀ : Heap} {outer : List Env} {env : Env} {L : Addr} {s : Shared} {m : Str → Option Value} {rest : List (Addr × Obj)} {r hd : Addr} {stop : Int} {doc pm : Value} {c' : Addr} {ctv : Value} {oc : Obj} {ws : Array Value} {t : Tok} {ch cs : Addr} {och ocs : Obj} {ts : Tok} {hs : List Value} {hn : Nat} {x : PySem.Str} {tx : Tok}
    {Q E : Value → Shared → Prop} (S : Sta w mg mb A h₀ L) (K : Below A₀ base outer h₀) (hA : A.frames = some (env :: outer)) (hf : env.frame = some L) (hke : env.scope.kind = .function) (F : Fr h₀ L s.heap m) (N : News h₀ L s.heap ((hd, listOf hs.toArray hn) :: rest))
    (R : Rd rest r hd stop doc pm c' ctv oc ws t ch cs och ocs ts) (hroom : A.depth < recursionLimit) (hu : A.units + 20 < cLine) (hoff : ∀ p ∈ rest, p.1 ≠ hd) (hb : hs.length ≤ 10000) (hst : 0 ≤ stop ∧ stop ≤ 100)
    (hQ : ((hs.length + 1 : Nat) : Int) ≠ stop → ∀ a ti h' tk2, (∀ p ∈ (hd, listOf hs.toArray hn) :: rest, p.1 < a) → Fr h₀ L h' m → News h₀ L h' ((hd, listOf (hs ++ [Value.str x tx]).toArray (hn + 1)) :: (a, ({ cls := .type "tuple", data := .seq ([.int ((hs.length + 1 : Nat) : Int) ti, .str x tx] : List Value).toArray 0 } : Obj)) :: rest) → Q (.ref a) { s with heap := h', toks := tk2 })
    (hE : ((hs.length + 1 : Nat) : Int) = stop → ∀ e G h' tk2, Fr h₀ L G m → RaisedSN base G (env :: outer) e (.type "ValueError") ((hd, listOf (hs ++ [Value.str x tx]).toArray (hn + 1)) :: rest) h' → G.UpToSlots h' → E (.ref e) { s with heap := h', toks := tk2 }) :
    wpAny (model prog w) A (call (.ref r) [.str x tx]) Q E s := by
  refine wpAny_call (callX_plain (binds := [("text", .str x tx)]) K F N S.lib.nolimit hA hf hke (N _ (.tail _ R.fn)).1 rfl (codeRec_news N (.tail _ R.code) R.codeD R.codeN) hroom (.of_eq (by kernel_rfl)) (locs (by kernel_rfl)) (fun g L' h₁ FG F' N' B' st lt => ?_) (by decide +kernel) (by kernel_rfl) (by kernel_rfl) (by kernel_rfl))
  have hh : A.handled = none := S.hand
  have lib := S.lib.keeps st
  obtain ⟨r1, r2, r3, r4, r5, r6, r7, r8⟩ := R
  have S' : Sta w mg mb (A.deeper (envX rdQ (dScope rdS) L' r (.ref c') [("stop", cs), ("heard", ch)])) g L' := ⟨⟨A, base, env :: outer, _, B', Around.frames_deeper hA, rfl, by kernel_rfl⟩, S.hand, lib⟩
  have N2 : News g L' h₁ ((hd, listOf hs.toArray hn) :: (ch, och) :: (cs, ocs) :: rest) := News.sub N' (by
    intro p hp
    simp only [List.mem_cons] at hp ⊢
    rcases hp with hp | rfl | rfl | hp
    · exact .inl hp
    · exact .inr r5
    · exact .inr r7
    · exact .inr hp)
  clear N'
  have hch : ch ≠ hd := hoff _ r5
  have hcs : cs ≠ hd := hoff _ r7
  refine wpAny_execs_cons ?_
  clear F N S
  have Blen := lib.len
  have BV := lib.valueError
  w_on
  k_unmd
  k_fold
  repeat' (first | walk1 | (dsimp only; walk1) | (k_unfold; dsimp only))
  rename Fr _ _ _ _ => F3; rename News _ _ _ _ => N3
  refine appendHd (n := hn) (its := hs.toArray) (rest := (ch, och) :: (cs, ocs) :: rest) F3 N3 (off_cons hch (off_cons hcs hoff)) (by rw [List.size_toArray, sizeLine_eq]; omega) fun h4 F4 N4 => ?_
  clear F3 N3
  rw [List.push_toArray] at N4
  (try dsimp only)
  repeat' (first | walk1 | (dsimp only; walk1) | (k_unfold; dsimp only))
  refine lenL (its := (hs ++ [Value.str x tx]).toArray) (n := hn + 1) N4 (.head _) (by rw [List.size_toArray, List.length_append, List.length_singleton]; omega) fun t7 tk7 => ?_
  have es : ((hs ++ [Value.str x tx]).toArray.size : Int) = ((hs.length + 1 : Nat) : Int) := by simp
  rw [es]
  (try dsimp only)
  repeat' (first | walk1 | (dsimp only; walk1) | (k_unfold; dsimp only))
  · refine Raise_new S'.hand ?_
    repeat' (first | walk1 | (dsimp only; walk1))
    rename Heap.NewExc _ _ _ _ => hx
    rename (_ : Int) = stop => heq
    refine fly_new B' rfl (by kernel_rfl) hx F4 N4 fun h6 R6 U6 => ?_
    exact hE heq _ g _ _ FG (raised_sub R6 (by kqd_sub)) U6
  · rename Fr _ _ _ _ => F5; rename News _ _ _ _ => N5
    rw [es] at N5
    rename Behind _ _ => hb2
    rename (_ : Int) ≠ stop => hne
    refine ⟨_, _, _, F5, N5, fun F9 N9 => hQ hne _ _ _ _ ?_ F9 (News.sub N9 (by kqd_sub))⟩
    intro p hp
    rcases List.mem_cons.mp hp with rfl | hp
    · have := hb2 (hd, listOf (hs ++ [Value.str x tx]).toArray (hn + 1)) (by simp)
      exact this
    · exact hb2 _ (by simp [hp])
end Mine

end
section
open PySem PySem.W PySem.Calls PyProof.Rows PySem.Spec
set_option maxRecDepth 100000
set_option maxHeartbeats 4000000
namespace Mine
/-- the four states -/
def mems : List Addr := [633, 635, 637, 639]
theorem mem_at {P : Params} {h : Heap} (X : (Ka P).In h) {x : Addr} (hx : x ∈ mems) : ∃ o, h.get? x = some o ∧ o.cls = .ref 608 := by
  simp only [mems, List.mem_cons, List.not_mem_nil, or_false] at hx
  rcases hx with rfl | rfl | rfl | rfl
  · exact ⟨_, X 633 ⟨.ref 608, some 632, .plain, #[]⟩ (by kernel_rfl!), rfl⟩
  · exact ⟨_, X 635 ⟨.ref 608, some 634, .plain, #[]⟩ (by kernel_rfl!), rfl⟩
  · exact ⟨_, X 637 ⟨.ref 608, some 636, .plain, #[]⟩ (by kernel_rfl!), rfl⟩
  · exact ⟨_, X 639 ⟨.ref 608, some 638, .plain, #[]⟩ (by kernel_rfl!), rfl⟩
section
variable {w : World} {A : Around} {E : Value → Shared → Prop} {s : Shared} {P : Params} {x y : Addr}
theorem mem_ty {M : Model} (X : (Ka P).In s.heap) (hx : x ∈ mems) : Looks M s.heap (typeOf (.ref x)) (.ref 608) := by
  obtain ⟨o, ho, hc⟩ := mem_at X hx
  rw [← hc]
  exact (Looks.ld ho).andThen .now
theorem find_eq : findIn (Ka P) (.ref 608) "__eq__" = some (some (.builtin "object.__eq__")) := by kernel_rfl!
theorem sub_obj : subIn (Ka P) (.ref 608) (.type "object") = some true := by kernel_rfl!
theorem mem_bound {args : List Value} {Q : Option Value → Shared → Prop} (X : (Ka P).In s.heap) (hx : x ∈ mems)
    (h : wpAny (model prog w) A (call (.builtin "object.__eq__") (.ref x :: args)) (fun v => Q (some v)) E s) : wpAny (model prog w) A (callSpecialIfBound? (.ref x) "__eq__" args) Q E s := by
  simp only [callSpecialIfBound?, bindSpecialIfBound?]
  refine wpAny_holding (wpAny_bind (wpAny_bind (wpAny_bind ((mem_ty X hx).here ((looks_findIn X find_eq).here ?_)))))
  simp only [PySem.F.cmp_object.eq.bind]
  refine wpAny_bind (wpAny_askSetting (wpAny_ite ?_))
  have fin : wpAny (model prog w) A (call (.builtin "object.__eq__") ([.ref x] ++ args) >>= fun v => pure (some v)) Q E s := wpAny_bind (wpAny_mono h (fun v s' h' => wpAny_pure h') fun _ _ h' => h')
  split
  · exact wpAny_bind (wpAny_pure (wpAny_pure fin))
  · exact wpAny_tryCatch (wpAny_bind (wpAny_pure (wpAny_pure fin)))
theorem mem_check {M : Model} {rest : List Value} {Q : Unit → Shared → Prop} (X : (Ka P).In s.heap) (hx : x ∈ mems) (ha : argsOk "object.__eq__" ⟨.ref x :: rest, []⟩) (hq : Q () s) :
    wpAny M A (checkBuiltinCall "object.__eq__" ⟨.ref x :: rest, []⟩) Q E s := by
  simp only [checkBuiltinCall, PySem.F.cmpKind_eq, PySem.F.cmpSplit_eq]
  refine wpAny_bind ?_
  unfold isInstance
  refine wpAny_bind ((mem_ty X hx).here ((looks_subIn X sub_obj).here ?_))
  cases hsig : Manifest.signature? "object.__eq__" with
  | none => exact wpAny_pure hq
  | some sig =>
    simp only [argsOk, hsig] at ha
    have h2 : Bind.checkArgs "object.__eq__" sig ⟨.ref x :: rest, []⟩ = pure () := ha
    show wpAny M A (Bind.checkArgs "object.__eq__" sig ⟨.ref x :: rest, []⟩) Q E _
    rw [h2]
    exact wpAny_pure hq
theorem mem_same {Q : Option Value → Shared → Prop} (X : (Ka P).In s.heap) (hx : x ∈ mems) (hq : Q (some (.bool true)) s) : wpAny (model prog w) A (tryCompare (.ref x) "__eq__" (.ref x)) Q E s := by
  simp only [tryCompare]
  exact wpAny_bind (mem_bound X hx (wpAny_call (codeAny_call_builtin PySem.F.cmp_object.eq.plain PySem.F.cmpEntry_eq (mem_check X hx (PySem.F.cmpArgs_eq _ _) (objEq_entry_same (wpAny_pure hq))))))
theorem mem_other {Q : Option Value → Shared → Prop} (X : (Ka P).In s.heap) (hx : x ∈ mems) (hy : y ∈ mems) (hxy : x ≠ y) (hq : Q none s) : wpAny (model prog w) A (tryCompare (.ref x) "__eq__" (.ref y)) Q E s := by
  obtain ⟨ox, hox, hcx⟩ := mem_at X hx
  obtain ⟨oy, hoy, hcy⟩ := mem_at X hy
  simp only [tryCompare]
  exact wpAny_bind (mem_bound X hx (wpAny_call (codeAny_call_builtin PySem.F.cmp_object.eq.plain PySem.F.cmpEntry_eq (mem_check X hx (PySem.F.cmpArgs_eq _ _) (objEq_entry_other hxy hox hoy (by rw [hcx]; intro e; cases e) (wpAny_pure hq))))))
/-- two states compared -/
theorem mem_eq {Q : Value → Shared → Prop} (X : (Ka P).In s.heap) (hx : x ∈ mems) (hy : y ∈ mems) (hu : A.units < cLine) (hq : Q (.bool (x == y)) s) : wpAny (model prog w) A (compareOp .Eq (.ref x) (.ref y)) Q E s := by
  show wpAny (model prog w) A (richCompare .Eq (.ref x) (.ref y)) Q E s
  unfold richCompare
  simp only [oneThing_ref, cmpInfo_Eq]
  refine wpAny_holding (wpAny_bind (wpAny_cRoomFor hu ?_))
  refine wpAny_bind ((mem_ty X hx).here (wpAny_bind ((mem_ty X hy).here ?_)))
  rw [if_neg (by simp)]
  refine wpAny_bind (wpAny_pure ?_)
  simp only [Bool.false_eq_true, if_false]
  by_cases e : x = y
  · subst e
    rw [beq_self_eq_true] at hq
    exact wpAny_bind (mem_same X hx (wpAny_pure hq))
  · rw [beq_eq_false_iff_ne.mpr e] at hq
    obtain ⟨ox, hox, hcx⟩ := mem_at X hx
    obtain ⟨oy, hoy, hcy⟩ := mem_at X hy
    refine wpAny_bind (mem_other X hx hy e ?_)
    simp only [Bool.not_false, if_true]
    refine wpAny_bind (mem_other X hy hx (Ne.symm e) ?_)
    have e2 : x ≠ y := e
    have nt : ox.cls ≠ .type "tuple" := by rw [hcx]; intro q; cases q
    repeat (first | with_reducible refine wpAny_isSame_ref_other e2 hox hoy nt ?_ | wp_step)
    exact hq
theorem Still.looks {M : Model} {h : Heap} {C : Addr} (x : Still h) : Looks M h (opaqueClassAbove (.ref C)) none := by
  obtain ⟨mc, hn, hm⟩ := x
  have get : Looks M h (nsGet cStatics "thirdparty.any") none := fun A Q E s k q => wpAny_nsGet (hn.keeps k) (by rw [hm]; exact q)
  exact Looks.andThen (a := false) (get.andThen .now) (by show Looks M h (if (!false) = true then pure none else _) none; rw [if_pos (show (!false) = true from rfl)]; exact .now)
theorem find_ga : findIn (Ka P) (.ref 419) "__getattribute__" = some (some (.builtin "type.__getattribute__")) := by kernel_rfl!
theorem find_hook : (if onTheHeap (.ref 419) then findIn (Ka P) (.ref 419) "__getattr__" else some none) = some none := by kernel_rfl!
theorem sub_type : subIn (Ka P) (.ref 419) (.type "type") = some true := by kernel_rfl!
/-- the enum's members, read from the class -/
theorem mem_read {h₀ : Heap} {L : Addr} {m : Str → Option Value} {name : Str} {expr : Bool} {Q : Value → Shared → Prop} (F : Fr h₀ L s.heap m) (X₀ : (Ka P).In h₀) (T : Still h₀) (e : findCls (Ka P) (.ref 608) (.ref 419) name = some (.val (.ref x))) (h : Q (.ref x) { s with toks := s.toks + 1 }) :
    wpAny (model prog w) A (getAttr (.ref 608) name expr) Q E s := by
  have X := X₀.keeps F.keep
  exact cls_open X (T.keeps F.keep).looks (looks_typeIn X (by kernel_rfl!)) find_ga (looks_hook X find_hook) sub_type e (wpAny_pure (by show wpAny _ _ (handedOut _) _ _ _; rw [handedOut_of rfl]; exact wpAny_pure h))
theorem m_out : findCls (Ka P) (.ref 608) (.ref 419) "Out" = some (.val (.ref 639)) := by kernel_rfl!
theorem m_value : findCls (Ka P) (.ref 608) (.ref 419) "InValue" = some (.val (.ref 637)) := by kernel_rfl!
theorem m_string : findCls (Ka P) (.ref 608) (.ref 419) "InString" = some (.val (.ref 633)) := by kernel_rfl!
theorem m_escape : findCls (Ka P) (.ref 608) (.ref 419) "InEscape" = some (.val (.ref 635)) := by kernel_rfl!
end
end Mine

end
section
open PySem PySem.W
set_option maxHeartbeats 1000000
namespace Mine
def mdV : Md → Option (List Nat)
  | .out => none
  | .val v => some v
  | .str v => some v
  | .esc v => some v
/-- how large a state may be behind n signs -/
structure Small (n : Nat) (ps : PS) : Prop where
  deep : ps.stk.length ≤ n + 1
  wide : ∀ l ∈ ps.stk, l.length ≤ 2 * n
  heard : ps.heard.length ≤ n
  text : ∀ v, mdV ps.md = some v → v.length ≤ n

theorem push_len (d : Dat) (s : List (List Dat)) : (push d s).length = s.length := by cases s <;> rfl
theorem push_wide {d : Dat} {s : List (List Dat)} {n : Nat} (h : ∀ l ∈ s, l.length ≤ n) : ∀ l ∈ push d s, l.length ≤ n + 1 := by
  cases s with
  | nil => intro l hl; cases hl
  | cons a r =>
    intro l hl
    rcases List.mem_cons.mp hl with rfl | hl
    · have := h a (.head _)
      simp; omega
    · have := h l (.tail _ hl)
      omega
theorem out_small {n : Nat} {c : Nat} {ps ps' : PS} (h1 : ps.stk.length ≤ n + 1) (h2 : ∀ l ∈ ps.stk, l.length ≤ 2 * n + 1) (h3 : ps.heard.length ≤ n + 1) (e : outStep c ps = .ok ps') : Small (n + 1) ps' := by
  unfold outStep at e
  split at e
  · cases e
    refine ⟨by simp; omega, ?_, h3, fun v q => by cases q⟩
    intro l hl
    rcases List.mem_cons.mp hl with rfl | hl
    · simp
    · have := h2 l hl; omega
  split at e
  · split at e
    · rename_i l p r hs
      cases e
      rw [hs] at h1 h2
      refine ⟨by simp [push] at h1 ⊢; omega, ?_, h3, fun v q => by cases q⟩
      intro z hz
      have := push_wide (d := .list l) (s := p :: r) (n := 2 * n + 1) (fun y hy => h2 y (.tail _ hy)) z hz
      omega
    · cases e
  split at e
  · cases e
    exact ⟨by simpa using Nat.le_succ_of_le h1, fun l hl => by have := h2 l hl; omega, h3, fun v q => by cases q⟩
  split at e
  · cases e
    exact ⟨by simpa using Nat.le_succ_of_le h1, fun l hl => by have := h2 l hl; omega, h3, fun v q => by cases q; simp⟩
  · cases e
    exact ⟨by simpa using Nat.le_succ_of_le h1, fun l hl => by have := h2 l hl; omega, h3, fun v q => by cases q; simp⟩
theorem step_small {stop n c : Nat} {ps ps' : PS} (S : Small n ps) (e : step stop c ps = .ok ps') : Small (n + 1) ps' := by
  obtain ⟨h1, h2, h3, h4⟩ := S
  obtain ⟨md, stk, heard⟩ := ps
  dsimp only at h1 h2 h3 h4
  cases md with
  | out => exact out_small (ps := ⟨.out, stk, heard⟩) h1 (fun l hl => by have := h2 l hl; omega) (by dsimp only; omega) e
  | val v =>
    have hv := h4 v rfl
    unfold step at e
    dsimp only at e
    split at e
    · split at e
      · exact out_small (ps := ⟨.out, push .none stk, heard⟩) (by dsimp only; rw [push_len]; exact h1) (push_wide h2) (by dsimp only; omega) e
      · unfold hear at e
        dsimp only at e
        split at e
        · cases e
        · exact out_small (ps := ⟨.out, push (got (heard.length + 1) v) stk, heard ++ [v]⟩) (by dsimp only; rw [push_len]; exact h1) (push_wide h2) (by simp; omega) e
    · cases e
      exact ⟨by dsimp only; omega, fun l hl => by have := h2 l hl; omega, by dsimp only; omega, fun u q => by cases q; simp; omega⟩
  | str v =>
    have hv := h4 v rfl
    unfold step at e
    dsimp only at e
    split at e
    · unfold hear at e
      dsimp only at e
      split at e
      · cases e
      · cases e
        refine ⟨by dsimp only; rw [push_len]; omega, fun l hl => ?_, by simp; omega, fun u q => by cases q⟩
        have := push_wide h2 l hl
        omega
    · split at e
      · cases e
        exact ⟨by dsimp only; omega, fun l hl => by have := h2 l hl; omega, by dsimp only; omega, fun u q => by cases q; omega⟩
      · cases e
        exact ⟨by dsimp only; omega, fun l hl => by have := h2 l hl; omega, by dsimp only; omega, fun u q => by cases q; simp; omega⟩
  | esc v =>
    have hv := h4 v rfl
    unfold step at e
    cases e
    exact ⟨by dsimp only; omega, fun l hl => by have := h2 l hl; omega, by dsimp only; omega, fun u q => by cases q; simp; omega⟩
/-- one sign more -/
theorem run_snoc {stop c : Nat} {a : List Nat} {s ps : PS} (h : run stop a s = .ok ps) : run stop (a ++ [c]) s = step stop c ps := by
  rw [run_append, h]
  show (step stop c ps).then (run stop []) = _
  cases step stop c ps <;> rfl
end Mine

end
section
open PySem PySem.W PySem.Calls PyProof.Rows PySem.Spec
set_option maxRecDepth 100000
set_option maxHeartbeats 4000000
namespace Mine
section
variable {w : World} {mg mb : Str → Option Value} {A A' : Around} {h₀ : Heap} {L : Addr} {s : Shared} {m : Str → Option Value} {E : Value → Shared → Prop} {Q : Value → Shared → Prop} {x y : Addr} {name : Str} {expr : Bool}
theorem mbr (S : Sta w mg mb A' h₀ L) (F : Fr h₀ L s.heap m) (e : findCls (Ka w.params) (.ref 608) (.ref 419) name = some (.val (.ref x))) (h : Q (.ref x) { s with toks := s.toks + 1 }) : wpAny (model prog w) A (getAttr (.ref 608) name expr) Q E s :=
  mem_read F S.lib.X S.lib.still e h
theorem meqT (S : Sta w mg mb A' h₀ L) (F : Fr h₀ L s.heap m) (hx : x ∈ mems) (hu : A.units < cLine) (h : Q (.bool true) s) : wpAny (model prog w) A (compareOp .Eq (.ref x) (.ref x)) Q E s :=
  mem_eq (S.lib.X.keeps F.keep) hx hx hu (by rw [beq_self_eq_true]; exact h)
theorem meqF (S : Sta w mg mb A' h₀ L) (F : Fr h₀ L s.heap m) (hx : x ∈ mems) (hy : y ∈ mems) (e : x ≠ y) (hu : A.units < cLine) (h : Q (.bool false) s) : wpAny (model prog w) A (compareOp .Eq (.ref x) (.ref y)) Q E s :=
  mem_eq (S.lib.X.keeps F.keep) hx hy hu (by rw [beq_eq_false_iff_ne.mpr e]; exact h)
end
/-- a call of a def without cells, the base open -/
theorem enterB {w : World} {mg mb : Str → Option Value} {A₀ A : Around} {base h₀ : Heap} {outer : List Env} {env : Env} {L : Addr} {s : Shared} {m : Str → Option Value} {news : List (Addr × Obj)} {x : Str} {i : Nat} {f : Addr} {cdv : Value} {vals : List Value} {binds : List (Str × Value)}
    {Q E : Value → Shared → Prop} (S : Sta w mg mb A h₀ L) (K : Below A₀ base outer h₀) (hA : A.frames = some (env :: outer)) (hf : env.frame = some L) (hke : env.scope.kind = .function) (F : Fr h₀ L s.heap m) (N : News h₀ L s.heap news) (D : IsDef h₀ mg x i f cdv) (hroom : A.depth < recursionLimit)
    (hbind : ∀ doc pm, bindArgs (fnX x x (dParams (stm i)) (dBody (stm i)) (dScope (stm i)) [] .none .none doc pm none cdv .none) ⟨vals, []⟩ = pure binds)
    (hloc : ∀ y ∈ binds, (dScope (stm i)).names.lookup y.1 = some .local)
    (h : ∀ g L' h₁, Sta w mg mb (A.deeper (envX x (dScope (stm i)) L' f cdv [])) g L' → Below A base (env :: outer) g → Fr h₀ L g m → Fr g L' h₁ (fun y => binds.reverse.lookup y) → News g L' h₁ news →
      wpAny (model prog w) (A.deeper (envX x (dScope (stm i)) L' f cdv [])) (execs (dBody (stm i)) (envX x (dScope (stm i)) L' f cdv []))
        (fun fl s' => Back h₀ g L L' m Q (retOf fl) s')
        (fun e s' => wpAny (model prog w) (A.deeper (envX x (dScope (stm i)) L' f cdv [])) (leaving (envX x (dScope (stm i)) L' f cdv []) e) (fun _ s'' => E e s'') (fun e' s'' => E e' s'') s')
        { s with heap := h₁, toks := s.toks + binds.length })
    (hcell : ∀ x ∈ (dScope (stm i)).names, x.2 ≠ .cell) (hco : (dScope (stm i)).isCoroutine = false) (hgen : (dScope (stm i)).isGenerator = false) (hk : (dScope (stm i)).kind = .function) :
    wpAny (model prog w) A (call (.ref f) vals) Q E s := by
  obtain ⟨o, pm, doc, ho, hd⟩ := D.obj
  refine wpAny_call (callX_plain K F N S.lib.nolimit hA hf hke (F.keep _ _ ho) hd (D.code.keeps F.keep) hroom (.of_eq (hbind doc pm)) hloc (fun g L' h₁ FG F' N' B' st _ => ?_) hcell hco hgen hk)
  refine wpAny_mono (h g L' h₁ ⟨⟨A, base, env :: outer, _, B', Around.frames_deeper hA, rfl, hk⟩, S.hand, S.lib.keeps st⟩ B' FG F' N') (fun fl s' hl => ?_) fun _ _ e => e
  obtain ⟨m', news', F₁, N₁, k⟩ := hl
  exact ⟨L', m', news', F₁, N₁, k⟩

def mdA : Md → Addr
  | .out => 639
  | .val _ => 637
  | .str _ => 633
  | .esc _ => 635
def sgl (v : List Nat) : List PySem.Str := v.map fun c => ⟨#[c]⟩
/-- the open lists above the innermost one, each with the next inner one as its last item -/
inductive Par (add : List (Addr × Obj)) : Addr → List (List Dat) → List (Addr × Obj) → Prop
  | nil {c : Addr} : Par add c [] []
  | cons {c a : Addr} {items : List Value} {n : Nat} {ds : List Dat} {dss : List (List Dat)} {led : List (Addr × Obj)} : DatAll add items ds → Par add a dss led → Par add c (ds :: dss) ((a, listOf (items ++ [Value.ref c]).toArray n) :: led)
theorem Par.mono {add add' : List (Addr × Obj)} (k : ∀ p ∈ add, p ∈ add') : ∀ {c : Addr} {dss : List (List Dat)} {led : List (Addr × Obj)}, Par add c dss led → Par add' c dss led
  | _, _, _, .nil => .nil
  | _, _, _, .cons h r => .cons (h.mono k) (Par.mono k r)
theorem Par.length {add : List (Addr × Obj)} : ∀ {c : Addr} {dss : List (List Dat)} {led : List (Addr × Obj)}, Par add c dss led → led.length = dss.length
  | _, _, _, .nil => rfl
  | _, _, _, .cons _ r => by simp [Par.length r]
/-- what the frame holds between the turns -/
structure FrOk (m : Str → Option Value) (dat ad : Value) (st sk vl : Addr) : Prop where
  state : m "state" = some (.ref st)
  stack : m "stack" = some (.ref sk)
  val : m "val" = some (.ref vl)
  data : m "data" = some dat
  adapter : m "adapter" = some ad
  other : ∀ y : Str, y ≠ ("state" : Str) → y ≠ ("stack" : Str) → y ≠ ("val" : Str) → y ≠ ("data" : Str) → y ≠ ("adapter" : Str) → y ≠ ("c" : Str) → y ≠ ("a" : Str) → y ≠ ("value" : Str) → m y = none
def FM (uc ua uv : Option Value) (dat ad : Value) (st sk vl : Addr) : Str → Option Value := fun y => if y = ("c" : Str) then uc else if y = ("a" : Str) then ua else if y = ("value" : Str) then uv else if y = ("state" : Str) then some (.ref st) else if y = ("stack" : Str) then some (.ref sk) else if y = ("val" : Str) then some (.ref vl) else if y = ("data" : Str) then some dat else if y = ("adapter" : Str) then some ad else none
theorem FrOk.eq {m : Str → Option Value} {dat ad : Value} {st sk vl : Addr} (h : FrOk m dat ad st sk vl) : m = FM (m "c") (m "a") (m "value") dat ad st sk vl := by
  funext y
  unfold FM
  split
  · rename_i e; rw [e]
  split
  · rename_i e; rw [e]
  split
  · rename_i e; rw [e]
  split
  · rename_i e; rw [e]; exact h.state
  split
  · rename_i e; rw [e]; exact h.stack
  split
  · rename_i e; rw [e]; exact h.val
  split
  · rename_i e; rw [e]; exact h.data
  split
  · rename_i e; rw [e]; exact h.adapter
  · rename_i a b c d e f g i
    exact h.other y d e f g i a b c
/-- the values of the stack's list -/
def stkV (a0 : Addr) (led : List (Addr × Obj)) : List Value := ((led.map (·.1)).reverse ++ [a0]).map Value.ref
theorem stkV_len (a0 : Addr) (led : List (Addr × Obj)) : 1 ≤ (stkV a0 led).length := by simp [stkV]
theorem stkV_last (a0 : Addr) (led : List (Addr × Obj)) : (stkV a0 led)[((-1 : Int) + ((stkV a0 led).length : Int)).toNat]? = some (.ref a0) := by
  have e : ((-1 : Int) + ((stkV a0 led).length : Int)).toNat = led.length := by
    simp [stkV]
    omega
  rw [e]
  simp [stkV]
theorem stkV_cons (a1 a0 : Addr) (o : Obj) (led : List (Addr × Obj)) : stkV a1 ((a0, o) :: led) = stkV a0 led ++ [.ref a1] := by simp [stkV]
theorem off_map {a : Addr} {l : List (Addr × Obj)} (h : a ∉ l.map (·.1)) : ∀ p ∈ l, p.1 ≠ a := fun p hp e => h (e ▸ List.mem_map.mpr ⟨p, hp, rfl⟩)
theorem sgl_eq (c d : Nat) (z : PySem.Str) (hz : z = ⟨#[d]⟩) : ((⟨#[c]⟩ : PySem.Str) == z) = (c == d) := by
  subst hz
  by_cases h : c = d
  · subst h; simp
  · rw [beq_eq_false_iff_ne.mpr h, beq_eq_false_iff_ne]
    intro q
    cases q
    exact h rfl
/-- what holds between the turns of the reading -/
def PJ (stop : Nat) (x : List Nat) (rest : List (Addr × Obj)) (hd sk : Addr) (dat ad : Value) (i : Nat) (m₁ : Str → Option Value) (nx : List (Addr × Obj)) : Prop :=
  ∃ (ps : PS) (hs : List Value) (hn sn : Nat) (vl : Addr) (vs : List Value) (vn : Nat) (a0 : Addr) (items0 : List Value) (n0 : Nat) (ds0 : List Dat) (dss : List (List Dat)) (led add : List (Addr × Obj)),
    run stop (x.take i) ⟨.out, [[]], []⟩ = .ok ps ∧ Small i ps ∧ ps.stk = ds0 :: dss ∧ DatAll [] hs (lT ps.heard) ∧ DatAll add items0 ds0 ∧ Par add a0 dss led ∧ (∀ v, mdV ps.md = some v → StrsAre vs (sgl v)) ∧ FrOk m₁ dat ad (mdA ps.md) sk vl ∧
    (hd :: sk :: vl :: a0 :: led.map (·.1)).Nodup ∧ OwnOff (add ++ rest) (hd :: sk :: vl :: a0 :: led.map (·.1)) ∧ OwnOff add (rest.map (·.1)) ∧
    nx = (hd, listOf hs.toArray hn) :: (sk, listOf (stkV a0 led).toArray sn) :: (vl, listOf vs.toArray vn) :: (a0, listOf items0.toArray n0) :: (led ++ (add ++ rest))
theorem kl_last_snoc : ∀ (l : List Value) (y : Value), kl_last (l ++ [y]) = some (l, y)
  | [], _ => rfl
  | x :: r, y => by
    show (match kl_last (r ++ [y]) with
      | some (p, y) => some (x :: p, y)
      | none => some ([], x)) = _
    rw [kl_last_snoc r y]
theorem popHd {w : World} {A : Around} {E : Value → Shared → Prop} {s : Shared} {h₀ : Heap} {L d : Addr} {m : Str → Option Value} {rest : List (Addr × Obj)} {l : List Value} {y : Value} {n : Nat} {Q : Value → Shared → Prop} (F : Fr h₀ L s.heap m) (N : News h₀ L s.heap ((d, listOf (l ++ [y]).toArray n) :: rest)) (ap : ∀ p ∈ rest, p.1 ≠ d)
    (hsz : (l ++ [y]).toArray.size ≤ sizeLine) (h : ∀ h', Fr h₀ L h' m → News h₀ L h' ((d, listOf l.toArray (n + 1)) :: rest) → Q y { s with heap := h' }) :
    wpAny (model prog w) A (call (.builtin "list.pop") [.ref d]) Q E s :=
  kl_pop F N (by simpa using kl_last_snoc l y) (.head ap) (by simpa using hsz) h
theorem sgl_sum (v : List Nat) : ((sgl v).map PySem.Str.length).sum = v.length := by
  induction v with
  | nil => rfl
  | cons a r ih =>
    show 1 + ((sgl r).map PySem.Str.length).sum = _
    rw [ih, List.length_cons]
    omega
theorem join_sgl (v : List Nat) : Txt.join (Str.ofString "") (sgl v) = mkS v := join_signs v
theorem sgl_snoc (v : List Nat) (c : Nat) : sgl (v ++ [c]) = sgl v ++ [⟨#[c]⟩] := by simp [sgl]
theorem lT_snoc (l : List (List Nat)) (v : List Nat) : lT (l ++ [v]) = lT l ++ [.str (mkS v)] := by simp [lT]
theorem Rd.mono {rest rest' : List (Addr × Obj)} {r hd : Addr} {stop : Int} {doc pm : Value} {c' : Addr} {ctv : Value} {oc : Obj} {ws : Array Value} {t : Tok} {ch cs : Addr} {och ocs : Obj} {ts : Tok} (h : Rd rest r hd stop doc pm c' ctv oc ws t ch cs och ocs ts) (k : ∀ p ∈ rest, p ∈ rest') : Rd rest' r hd stop doc pm c' ctv oc ws t ch cs och ocs ts :=
  ⟨k _ h.fn, k _ h.code, h.codeD, h.codeN, k _ h.ch, h.chD, k _ h.cs, h.csD⟩
theorem in_close (c : Nat) : ([Str.ofString "}", Str.ofString ","].any fun x => x == (⟨#[c]⟩ : PySem.Str)) = (c == 125 || c == 44) := by
  have e1 : (Str.ofString "}" == (⟨#[c]⟩ : PySem.Str)) = (c == 125) := by rw [BEq.comm]; exact sgl_eq c 125 _ (by decide +kernel)
  have e2 : (Str.ofString "," == (⟨#[c]⟩ : PySem.Str)) = (c == 44) := by rw [BEq.comm]; exact sgl_eq c 44 _ (by decide +kernel)
  simp only [List.any_cons, List.any_nil, e1, e2, Bool.or_false]
theorem null_eq (v : List Nat) : (mkS v == Str.ofString "NULL") = decide (v = NULLT) := by
  have e : Str.ofString "NULL" = mkS NULLT := by decide +kernel
  rw [e]
  by_cases h : v = NULLT
  · subst h; simp
  · rw [beq_eq_false_iff_ne.mpr, decide_eq_false h]
    intro q
    apply h
    unfold mkS at q
    injection q with q
    simpa using q
theorem Par.inv {add : List (Addr × Obj)} {c : Addr} {dss : List (List Dat)} {led : List (Addr × Obj)} (h : Par add c dss led) : dss = [] ∨ ∃ a items n ds dss' led', dss = ds :: dss' ∧ led = (a, listOf (items ++ [Value.ref c]).toArray n) :: led' ∧ DatAll add items ds ∧ Par add a dss' led' := by
  cases h with
  | nil => exact .inl rfl
  | cons h r => exact .inr ⟨_, _, _, _, _, _, rfl, rfl, h, r⟩
theorem own_close {own add rest led1 : List (Addr × Obj)} {hd sk vl a0 a1 : Addr} {o o' : Obj} (h : OwnOff own (hd :: sk :: vl :: a0 :: (((a1, o) :: led1) ++ (add ++ rest)).map (·.1))) : OwnOff own (hd :: sk :: vl :: a1 :: (led1 ++ (((a0, o') :: add) ++ rest)).map (·.1)) := by
  intro p hp b hb
  refine h p hp b ?_
  simp only [List.map_cons, List.map_append, List.mem_cons, List.mem_append, List.cons_append] at hb ⊢
  grind
theorem off_close {add rest led1 : List (Addr × Obj)} {hd sk vl a0 a1 : Addr} {o o' : Obj} (h : OwnOff (add ++ rest) (hd :: sk :: vl :: a0 :: ((a1, o) :: led1).map (·.1))) (d : (hd :: sk :: vl :: a0 :: ((a1, o) :: led1).map (·.1)).Nodup) : OwnOff (((a0, o') :: add) ++ rest) (hd :: sk :: vl :: a1 :: led1.map (·.1)) := by
  intro p hp b hb
  rcases List.mem_cons.mp hp with rfl | hp'
  · simp only [List.map_cons, List.mem_cons, List.nodup_cons, not_or] at hb d
    grind
  · refine h p hp' b ?_
    simp only [List.map_cons, List.mem_cons] at hb ⊢
    grind
theorem nodup_close {led1 : List (Addr × Obj)} {hd sk vl a0 a1 : Addr} {o : Obj} (d : (hd :: sk :: vl :: a0 :: ((a1, o) :: led1).map (·.1)).Nodup) : (hd :: sk :: vl :: a1 :: led1.map (·.1)).Nodup := by
  simp only [List.map_cons, List.mem_cons, List.nodup_cons, not_or] at d ⊢
  grind
theorem rest_close {add rest : List (Addr × Obj)} {a0 : Addr} {o' : Obj} {l : List Addr} (h : OwnOff (add ++ rest) l) (m : a0 ∈ l) (k : OwnOff add (rest.map (·.1))) : OwnOff ((a0, o') :: add) (rest.map (·.1)) := by
  intro p hp b hb
  rcases List.mem_cons.mp hp with rfl | hp'
  · obtain ⟨p2, hp2, rfl⟩ := List.mem_map.mp hb
    exact (h p2 (List.mem_append.mpr (.inr hp2)) a0 m).symm
  · exact k p hp' b hb
theorem off_add {add rest : List (Addr × Obj)} {a : Addr} {o : Obj} {l : List Addr} (h : OwnOff (add ++ rest) l) (q : a ∉ l) : OwnOff (((a, o) :: add) ++ rest) l := by
  intro p hp b hb
  rcases List.mem_cons.mp hp with rfl | hp'
  · exact fun e => q (by have e2 : a = b := e; rw [e2]; exact hb)
  · exact h p hp' b hb
theorem rest_add {add rest : List (Addr × Obj)} {a : Addr} {o : Obj} (k : OwnOff add (rest.map (·.1))) (q : ∀ p ∈ rest, p.1 ≠ a) : OwnOff ((a, o) :: add) (rest.map (·.1)) := by
  intro p hp b hb
  rcases List.mem_cons.mp hp with rfl | hp'
  · obtain ⟨p2, hp2, rfl⟩ := List.mem_map.mp hb
    exact (q p2 hp2).symm
  · exact k p hp' b hb
theorem own_add {own add rest led : List (Addr × Obj)} {a : Addr} {o : Obj} {hd sk vl a0 : Addr} (h : OwnOff own (hd :: sk :: vl :: a0 :: (led ++ (add ++ rest)).map (·.1))) (q : ∀ p ∈ own, p.1 ≠ a) : OwnOff own (hd :: sk :: vl :: a0 :: (led ++ (((a, o) :: add) ++ rest)).map (·.1)) := by
  intro p hp b hb
  by_cases e : b = a
  · rw [e]; exact q p hp
  · refine h p hp b ?_
    simp only [List.map_cons, List.map_append, List.mem_cons, List.mem_append, List.cons_append] at hb ⊢
    grind
theorem fm_other {uc ua uv : Option Value} {dat ad : Value} {st sk vl : Addr} {y : Str} (y1 : y ≠ ("state" : Str)) (y2 : y ≠ ("stack" : Str)) (y3 : y ≠ ("val" : Str)) (y4 : y ≠ ("data" : Str)) (y5 : y ≠ ("adapter" : Str)) (y6 : y ≠ ("c" : Str)) (y7 : y ≠ ("a" : Str)) (y8 : y ≠ ("value" : Str)) : FM uc ua uv dat ad st sk vl y = none := by
  simp [FM, y1, y2, y3, y4, y5, y6, y7, y8]
end Mine

end
section
open PySem PySem.W PySem.Calls PyProof.Rows PySem.Spec
set_option maxRecDepth 100000
set_option maxHeartbeats 4000000
namespace Mine
local macro_rules | `(tactic| walk_at "eval Name") => `(tactic| first
  | (refine' nmB ?S ?F ?D ?_ ?g ?b ?k ?x ?d; (case S => assumption); (case F => assumption); (case D => assumption); (case g => kernel_rfl); (case b => kernel_rfl); (case k => kernel_rfl); (case x => kernel_rfl); (case d => decide +kernel))
  | (refine' nmD ?S ?F ?D ?_ ?g ?k ?x ?d; (case S => assumption); (case F => assumption); (case D => assumption); (case g => kernel_rfl); (case k => kernel_rfl); (case x => kernel_rfl); (case d => decide +kernel))
  | (refine' nmV ?S ?F ?D ?_ ?g ?k ?x ?d; (case S => assumption); (case F => assumption); (case D => assumption); (case g => kernel_rfl); (case k => kernel_rfl); (case x => kernel_rfl); (case d => decide +kernel))
  | (refine' nmCell ?N ?c ?m ?d ?_ ?k ?x ?e; (case N => assumption); (case c => rfl); (case m => k_mem); (case d => assumption); (case k => kernel_rfl); (case x => kernel_rfl!); (case e => decide +kernel))
  | (refine' kcf_cell ?N ?c ?m ?d ?_ ?k ?x ?e; (case N => assumption); (case c => rfl); (case m => k_mem); (case d => assumption); (case k => kernel_rfl); (case x => kernel_rfl!); (case e => decide +kernel)))
local macro_rules | `(tactic| walk_at "callWith ref") => `(tactic| (refine' cwD ?D ?_; (case D => assumption)))
local macro_rules | `(tactic| walk_at "Stood") => `(tactic| exact ⟨_, by assumption⟩)
local macro_rules | `(tactic| walk_at "exec For") => `(tactic| (refine' for_ ?F ?x ?p ?_; (case F => assumption); (case x => kernel_rfl); (case p => kernel_rfl); k_fold))
local macro_rules | `(tactic| walk_at "newList") => `(tactic| (refine' newL ?F ?N ?_ ?z; (case F => assumption); (case N => assumption); (case z => size_fits); (intro _ _ _ _ _)))
local macro_rules | `(tactic| kqd_sub) => `(tactic| (intro p hp; simp only [List.mem_cons, List.mem_append, List.not_mem_nil, or_false, false_or] at hp ⊢; grind))
local macro_rules | `(tactic| walk_at "eval Name") => `(tactic| first
  | (refine' nameX_L ?F ?v ?_ ?k ?x ?d; (case F => assumption); (case v => (with_unfolding_all rfl)); (case k => kernel_rfl); (case x => kernel_rfl!); (case d => decide +kernel))
  | (refine' nmFree ?N ?c ?m ?d ?_ ?k ?x ?e ?f; (case N => assumption); (case c => rfl); (case m => k_mem); (case d => assumption); (case k => kernel_rfl); (case x => kernel_rfl!); (case e => decide +kernel); (case f => decide +kernel)))
local macro_rules | `(tactic| walk_at "eval Name") => `(tactic| (refine' LCgL.ld_own ?N ?m ?c ?x ?_; (case N => assumption); (case m => k_mem); (case c => assumption); (case x => assumption)))
local macro_rules | `(tactic| walk_at "storeName") => `(tactic| (refine' storeX_L ?F ?N ?_ ?k ?x; (case F => assumption); (case N => assumption); (case k => kernel_rfl); (case x => kernel_rfl!); (intro _ _ _)))
local macro_rules | `(tactic| walk_at "eval ListComp") => `(tactic| (refine halt ?_))
local macro_rules | `(tactic| walk_at "newTuple") => `(tactic| (refine' newT ?F ?N ?_ ?z; (case F => assumption); (case N => assumption); (case z => size_fits); (intro _ _ _ _ _)))
local macro_rules | `(tactic| walk_at "callWith ref") => `(tactic| (refine' callWith_F ?k ?_; (case k => exact FnAt.of (by assumption) (by k_mem))))
local macro_rules | `(tactic| walk_at "FnAt") => `(tactic| exact FnAt.of (by assumption) (by k_mem))
local macro_rules | `(tactic| walk_at "getAttr ref") => `(tactic| (refine' mbr ?S ?F ?e ?_; (case S => assumption); (case F => assumption); (case e => with_reducible (first | exact m_out | exact m_value | exact m_string | exact m_escape))))
local macro_rules | `(tactic| walk_at "compareOp Eq ref ref") => `(tactic| first
  | (refine' meqT ?S ?F ?x ?u ?_; (case S => assumption); (case F => assumption); (case x => decide); (case u => assumption))
  | (refine' meqF ?S ?F ?x ?y ?e ?u ?_; (case S => assumption); (case F => assumption); (case x => decide); (case y => decide); (case e => decide); (case u => assumption)))
local macro_rules | `(tactic| walk_at "exec Expr") => `(tactic| (refine' wpAny_Expr_any ?_ ?hi ?hs; (case hi => kernel_rfl); (case hs => rfl)))
local macro_rules | `(tactic| walk_at "call builtin:list.pop cons nil") => `(tactic| (refine halt ?_))
local macro_rules | `(tactic| walk_at "call builtin:str.join cons nil") => `(tactic| (refine halt ?_))
local macro_rules | `(tactic| walk_at "call builtin:list.append cons nil") => `(tactic| (refine halt ?_))
local macro_rules | `(tactic| walk_at "subscriptTail Name UnaryOp ref int") => `(tactic| (refine halt ?_))
local macro_rules | `(tactic| walk_at "call ref cons nil") => `(tactic| (refine halt ?_))
theorem parse_spec {w : World} {mg mb : Str → Option Value} {A₀ A : Around} {base h₀ : Heap} {outer : List Env} {env : Env} {L : Addr} {s : Shared} {m : Str → Option Value} {rest : List (Addr × Obj)} {f : Addr} {cdv : Value} {r hd : Addr} {stop : Nat} {doc pm : Value} {c' : Addr} {ctv : Value} {oc : Obj} {ws : Array Value} {t : Tok} {ch cs : Addr} {och ocs : Obj} {ts : Tok} {hn : Nat} {x : PySem.Str} {tx : Tok}
    {Q E : Value → Shared → Prop} (S : Sta w mg mb A h₀ L) (K : Below A₀ base outer h₀) (hA : A.frames = some (env :: outer)) (hf : env.frame = some L) (hke : env.scope.kind = .function) (F : Fr h₀ L s.heap m) (N : News h₀ L s.heap ((hd, listOf #[] hn) :: rest))
    (D : IsDef h₀ mg "_parse_array" 12 f cdv) (R : Rd rest r hd (stop : Int) doc pm c' ctv oc ws t ch cs och ocs ts) (hroom : A.depth + 2 < recursionLimit) (hu : A.units + 40 < cLine) (hoff : ∀ p ∈ rest, p.1 ≠ hd) (hst : stop ≤ 100) (hx : x.length ≤ 2000)
    (hok : (∃ ps d, run stop x.cps.toList ⟨.out, [[]], []⟩ = .ok ps ∧ ps.stk = [[d]]) ∨ ∃ hh, run stop x.cps.toList ⟨.out, [[]], []⟩ = .refused hh)
    (hQ : ∀ ps d, run stop x.cps.toList ⟨.out, [[]], []⟩ = .ok ps → ps.stk = [[d]] → ∀ v hs' hn' add h' tk2, DatIn add v d → DatAll [] hs' (lT ps.heard) → OwnOff add (hd :: rest.map (·.1)) → Fr h₀ L h' m → News h₀ L h' ((hd, listOf hs'.toArray hn') :: (add ++ rest)) → Q v { s with heap := h', toks := tk2 })
    (hE : ∀ hh, run stop x.cps.toList ⟨.out, [[]], []⟩ = .refused hh → ∀ e G hs' hn' h' tk2, DatAll [] hs' (lT hh) → Fr h₀ L G m → RaisedSN base G (env :: outer) e (.type "ValueError") ((hd, listOf hs'.toArray hn') :: rest) h' → G.UpToSlots h' → E (.ref e) { s with heap := h', toks := tk2 }) :
    wpAny (model prog w) A (call (.ref f) [.str x tx, .ref r]) Q E s := by
  refine enterB (binds := [("data", .str x tx), ("adapter", .ref r)]) S K hA hf hke F N D (by omega) (fun doc pm => by kernel_rfl) (locs (by kernel_rfl)) (fun g L' h₁ S' K' FG F' N' => ?_) (by decide +kernel) (by kernel_rfl) (by kernel_rfl) (by kernel_rfl)
  refine wpAny_execs_cons ?_
  clear F N S D
  have BS := S'.lib.state
  have hu3 : (A.deeper (envX "_parse_array" (dScope (stm 12)) L' f cdv [])).units < cLine := by show A.units + 3 < _; omega
  w_on
  k_unmd
  k_fold
  repeat' (first | walk1 | (dsimp only; walk1) | (k_unfold; dsimp only))
  k_unfold
  (try dsimp only)
  rename Fr _ _ _ _ => F3
  rename News _ _ _ _ => N3
  rename_i a0 _ _ _ ba sk _ _ _ bs _ _ _ vl _ _ _ bv _
  refine for_str (J := PJ stop x.cps.toList rest hd sk (.str x tx) (.ref r)) S'.hand F3 (News.sub (b := (hd, listOf #[] hn) :: (sk, listOf #[Value.ref a0] 0) :: (vl, listOf #[] 0) :: (a0, listOf #[] 0) :: rest) N3 (by kqd_sub)) ?init ?turn ?done
  case init =>
    have h1 : a0 ≠ hd := ba.ne (.head _)
    have h2 : sk ≠ a0 := bs.ne (.head _)
    have h3 : sk ≠ hd := bs.ne (.tail _ (.head _))
    have h4 : vl ≠ sk := bv.ne (.head _)
    have h5 : vl ≠ a0 := bv.ne (.tail _ (.head _))
    have h6 : vl ≠ hd := bv.ne (.tail _ (.tail _ (.head _)))
    refine ⟨⟨.out, [[]], []⟩, [], hn, 0, vl, [], 0, a0, [], 0, [], [], [], [], rfl, ⟨by simp, by simp, by simp, fun v q => by cases q⟩, rfl, .nil, .nil, .nil, fun v q => (by cases q), ⟨by kernel_rfl!, by kernel_rfl!, by kernel_rfl!, by kernel_rfl!, by kernel_rfl!, ?_⟩, ?_, ?_, (fun _ h => nomatch h), rfl⟩
    · intro y y1 y2 y3 y4 y5 y6 y7 y8
      simp [y1, y2, y3, y4, y5]
    · simp
      exact ⟨⟨h3.symm, h6.symm, h1.symm⟩, ⟨h4.symm, h2⟩, h5⟩
    · intro p hp b hb
      have hp' : p ∈ rest := by simpa using hp
      simp only [List.map_nil, List.mem_cons, List.not_mem_nil, or_false] at hb
      rcases hb with rfl | rfl | rfl | rfl
      · exact hoff p hp'
      · exact (bs.ne (p := p) (.tail _ (.tail _ hp'))).symm
      · exact (bv.ne (p := p) (.tail _ (.tail _ (.tail _ hp')))).symm
      · exact (ba.ne (p := p) (.tail _ hp')).symm
  case turn =>
    clear F3 N3
    rintro i c t m₁ nx h tk own hc hown ⟨ps, hs, hn, sn, vl, vs, vn, a0, items0, n0, ds0, dss, led, add, hrun, hsm, hstk, hhs, hds, hpar, hval, hfr, hnd, hoo, hor, rfl⟩ F6 N6
    k_fold
    have hc' : x.cps.toList[i]? = some c := by rw [Array.getElem?_toList]; exact hc
    have hil : i < x.length := by
      rcases Nat.lt_or_ge i x.cps.size with q | q
      · exact q
      · rw [Array.getElem?_eq_none q] at hc
        cases hc
    have htk : x.cps.toList.take (i + 1) = x.cps.toList.take i ++ [c] := by rw [List.take_add_one, hc']; rfl
    have hnext : run stop (x.cps.toList.take (i + 1)) ⟨.out, [[]], []⟩ = step stop c ps := by rw [htk]; exact run_snoc hrun
    have hall : run stop x.cps.toList ⟨.out, [[]], []⟩ = (step stop c ps).then (run stop (x.cps.toList.drop (i + 1))) := by
      rw [← hnext, ← run_append, List.take_append_drop]
    have hnb : step stop c ps ≠ .bad := by
      intro q
      rw [q] at hall
      rcases hok with ⟨ps', d, e1, _⟩ | ⟨hh, e1⟩
      · rw [hall] at e1; cases e1
      · rw [hall] at e1; cases e1
    have hrf : ∀ hh, step stop c ps = .refused hh → run stop x.cps.toList ⟨.out, [[]], []⟩ = .refused hh := fun hh q => by rw [hall, q]; rfl
    have fin : ∀ {ps' : PS} {hs' : List Value} {hn' sn' : Nat} {vl' : Addr} {vs' : List Value} {vn' : Nat} {a0' : Addr} {items0' : List Value} {n0' : Nat} {ds0' : List Dat} {dss' : List (List Dat)} {led' add' : List (Addr × Obj)} {m' : Str → Option Value} {h9 : Heap} {tk9 : Nat} {news9 : List (Addr × Obj)},
        step stop c ps = .ok ps' → ps'.stk = ds0' :: dss' → DatAll [] hs' (lT ps'.heard) → DatAll add' items0' ds0' → Par add' a0' dss' led' → (∀ v, mdV ps'.md = some v → StrsAre vs' (sgl v)) → FrOk m' (.str x tx) (.ref r) (mdA ps'.md) sk vl' →
        (hd :: sk :: vl' :: a0' :: led'.map (·.1)).Nodup → OwnOff (add' ++ rest) (hd :: sk :: vl' :: a0' :: led'.map (·.1)) → OwnOff add' (rest.map (·.1)) → OwnOff own (hd :: sk :: vl' :: a0' :: (led' ++ (add' ++ rest)).map (·.1)) → Fr g L' h9 m' → News g L' h9 news9 →
        (∀ p ∈ (hd, listOf hs'.toArray hn') :: (sk, listOf (stkV a0' led').toArray sn') :: (vl', listOf vs'.toArray vn') :: (a0', listOf items0'.toArray n0') :: (led' ++ (add' ++ rest)), p ∈ news9) → (∀ p ∈ own, p ∈ news9) →
        InvEndG g L' (PJ stop x.cps.toList rest hd sk (.str x tx) (.ref r) (i + 1)) own { s with heap := h, toks := tk } { s with heap := h9, toks := tk9 } := by
      intro ps' hs' hn' sn' vl' vs' vn' a0' items0' n0' ds0' dss' led' add' m' h9 tk9 news9 e1 e2 e3 e4 e5 e6 e7 e8 e9 e10 e11 F9 N9 e12 e13
      exact InvEndG.intro (s₁ := { s with heap := h, toks := tk }) F9 N9 ⟨ps', hs', hn', sn', vl', vs', vn', a0', items0', n0', ds0', dss', led', add', hnext.trans e1, step_small hsm e1, e2, e3, e4, e5, e6, e7, e8, e9, e10, rfl⟩ e11 e12 e13
    have hfe := hfr.eq
    generalize m₁ "c" = uc at hfe
    generalize m₁ "a" = ua at hfe
    generalize m₁ "value" = uv at hfe
    rw [hfe] at F6
    have N7 : News g L' h ((hd, listOf hs.toArray hn) :: (sk, listOf (stkV a0 led).toArray sn) :: (vl, listOf vs.toArray vn) :: (a0, listOf items0.toArray n0) :: (r, fnMade "_law_reader" rdQ (dParams rdS) (dBody rdS) (dScope rdS) [("stop", cs), ("heard", ch)] doc pm c' ctv) :: ((led ++ (add ++ rest)) ++ own)) := News.sub N6 (by
      intro p hp
      simp only [List.mem_cons, List.mem_append] at hp ⊢
      have := R.fn
      grind)
    clear N6 hfr
    have hnd' := hnd
    simp only [List.nodup_cons, List.mem_cons, not_or] at hnd'
    obtain ⟨⟨d1, d2, d3, d4⟩, ⟨d5, d6, d7⟩, ⟨d8, d9⟩, d10, d11⟩ := hnd'
    have hms : ∀ b ∈ hd :: sk :: vl :: a0 :: led.map (·.1), (∀ p ∈ add ++ rest, p.1 ≠ b) ∧ r ≠ b ∧ ∀ p ∈ own, p.1 ≠ b := fun b hb => ⟨fun p hp => hoo p hp b hb, hoo (r, _) (List.mem_append.mpr (.inr R.fn)) b hb, fun p hp => hown p hp b (by
      simp only [List.map_cons, List.map_append, List.mem_cons, List.mem_append] at hb ⊢
      grind)⟩
    have hz1 : items0.toArray.size ≤ sizeLine := by
      have e1 := hds.length
      have e2 := hsm.wide ds0 (by rw [hstk]; exact .head _)
      rw [List.size_toArray, sizeLine_eq]
      omega
    have hz2 : (stkV a0 led).toArray.size ≤ sizeLine := by
      have e1 := hpar.length
      have e2 := hsm.deep
      rw [hstk] at e2
      rw [List.size_toArray, sizeLine_eq]
      simp [stkV] at e2 ⊢
      omega
    have hdm : hd ∈ hd :: sk :: vl :: a0 :: led.map (·.1) := by simp
    have skm : sk ∈ hd :: sk :: vl :: a0 :: led.map (·.1) := by simp
    have vlm : vl ∈ hd :: sk :: vl :: a0 :: led.map (·.1) := by simp
    have a0m : a0 ∈ hd :: sk :: vl :: a0 :: led.map (·.1) := by simp
    cases hmd : ps.md with
    | out =>
      rw [hmd] at F6
      dsimp only [mdA] at F6
      repeat' (first | walk1 | (dsimp only; walk1))
      · -- an opening sign
        refine kim_back (l := stkV a0 led) (by assumption) (by k_mem) rfl rfl (by decide) (by have := stkV_len a0 led; omega) (by decide) (stkV_last a0 led) ?_
        (try dsimp only)
        repeat' (first | walk1 | (dsimp only; walk1) | (k_unfold; dsimp only))
        rename Behind _ _ => hbe
        rename Fr _ _ _ _ => F8
        rename News _ _ _ _ => N8
        rename_i a1 _ _ _ _
        have q1 : a1 ≠ hd := hbe.ne (.head _)
        have q2 : a1 ≠ sk := hbe.ne (.tail _ (.head _))
        have q3 : a1 ≠ vl := hbe.ne (.tail _ (.tail _ (.head _)))
        have q4 : a1 ≠ a0 := hbe.ne (.tail _ (.tail _ (.tail _ (.head _))))
        have q5 : ∀ p ∈ (led ++ (add ++ rest)) ++ own, p.1 ≠ a1 := fun p hp => (hbe.ne (p := p) (.tail _ (.tail _ (.tail _ (.tail _ (.tail _ hp)))))).symm
        have q6 : r ≠ a1 := (hbe.ne (p := (r, _)) (.tail _ (.tail _ (.tail _ (.tail _ (.head _)))))).symm
        refine appendHd (n := n0) (its := items0.toArray) (rest := (a1, listOf #[] 0) :: (hd, listOf hs.toArray hn) :: (sk, listOf (stkV a0 led).toArray sn) :: (vl, listOf vs.toArray vn) :: (r, fnMade "_law_reader" rdQ (dParams rdS) (dBody rdS) (dScope rdS) [("stop", cs), ("heard", ch)] doc pm c' ctv) :: ((led ++ (add ++ rest)) ++ own)) F8 (News.sub N8 (by kqd_sub))
          (off_cons q4 (off_cons d3 (off_cons d6 (off_cons d8 (off_cons (hms a0 a0m).2.1 (off_app (off_app (off_map d10) (hms a0 a0m).1) (hms a0 a0m).2.2)))))) hz1 fun h8 F9 N9 => ?_
        clear F8 N8
        rw [List.push_toArray] at N9
        (try dsimp only)
        repeat' (first | walk1 | (dsimp only; walk1) | (k_unfold; dsimp only))
        refine appendHd (n := sn) (its := (stkV a0 led).toArray) (rest := (a1, listOf #[] 0) :: (hd, listOf hs.toArray hn) :: (a0, listOf (items0 ++ [Value.ref a1]).toArray (n0 + 1)) :: (vl, listOf vs.toArray vn) :: (r, fnMade "_law_reader" rdQ (dParams rdS) (dBody rdS) (dScope rdS) [("stop", cs), ("heard", ch)] doc pm c' ctv) :: ((led ++ (add ++ rest)) ++ own)) F9 (News.sub N9 (by kqd_sub))
          (off_cons q2 (off_cons d1 (off_cons (Ne.symm d6) (off_cons (Ne.symm d5) (off_cons (hms sk skm).2.1 (off_app (off_app (off_map d7) (hms sk skm).1) (hms sk skm).2.2)))))) hz2 fun h9 F10 N10 => ?_
        clear F9 N9
        rw [List.push_toArray, ← stkV_cons a1 a0 (listOf (items0 ++ [Value.ref a1]).toArray (n0 + 1)) led] at N10
        (try dsimp only)
        repeat' (first | walk1 | (dsimp only; walk1) | (k_unfold; dsimp only [InvPostG]))
        rename (_ == Str.ofString "{") = true => hcc
        rw [sgl_eq c 123 _ (by decide +kernel)] at hcc
        have hcc := eq_of_beq hcc
        refine fin (ps' := { ps with md := .out, stk := [] :: ps.stk }) (sn' := sn + 1) (n0' := 0) (hs' := hs) (hn' := hn) (a0' := a1) (items0' := []) (led' := (a0, listOf (items0 ++ [Value.ref a1]).toArray (n0 + 1)) :: led) (add' := add) (vl' := vl) (vs' := vs) (vn' := vn) ?_ (by rw [hstk]) hhs .nil (.cons hds hpar) (fun v q => by cases q) ⟨by kernel_rfl!, by kernel_rfl!, by kernel_rfl!, by kernel_rfl!, by kernel_rfl!, ?_⟩ ?_ ?_ hor ?_ F10 N10 (by kqd_sub) (by kqd_sub)
        · simp [step, hmd, outStep, hcc]
        · intro y y1 y2 y3 y4 y5 y6 y7 y8
          simp [FM, y1, y2, y3, y4, y5, y6, y7, y8]
        · simp only [List.map_cons, List.nodup_cons, List.mem_cons, not_or]
          refine ⟨⟨d1, d2, Ne.symm q1, d3, d4⟩, ⟨d5, Ne.symm q2, d6, d7⟩, ⟨Ne.symm q3, d8, d9⟩, ⟨q4, fun hm => ?_⟩, d10, d11⟩
          obtain ⟨p, hp, e⟩ := List.mem_map.mp hm
          exact q5 p (List.mem_append.mpr (.inl (List.mem_append.mpr (.inl hp)))) e
        · intro p hp b hb
          by_cases e : b = a1
          · rw [e]
            exact q5 p (List.mem_append.mpr (.inl (List.mem_append.mpr (.inr hp))))
          · refine hoo p hp b ?_
            simp only [List.map_cons, List.mem_cons] at hb ⊢
            grind
        · intro p hp b hb
          by_cases e : b = a1
          · rw [e]
            exact q5 p (List.mem_append.mpr (.inr hp))
          · refine hown p hp b ?_
            simp only [List.map_cons, List.map_append, List.mem_cons, List.mem_append, List.cons_append] at hb ⊢
            grind
      · -- a closing sign
        rename (_ == Str.ofString "}") = true => hcc
        rw [sgl_eq c 125 _ (by decide +kernel)] at hcc
        have hcc := eq_of_beq hcc
        rename Fr _ _ _ _ => F8
        rename News _ _ _ _ => N8
        cases hpar with
        | nil => exact absurd (by simp [step, hmd, outStep, hcc, hstk]) hnb
        | cons hi1 hp1 =>
          rename_i a1 items1 n1 ds1 dss1 led1
          simp only [List.map_cons, List.mem_cons, not_or, List.nodup_cons] at d4 d7 d9 d10 d11
          rw [stkV_cons] at N8 hz2
          refine popHd (n := sn) (l := stkV a1 led1) (y := .ref a0) (rest := (hd, listOf hs.toArray hn) :: (a0, listOf items0.toArray n0) :: (vl, listOf vs.toArray vn) :: (r, fnMade "_law_reader" rdQ (dParams rdS) (dBody rdS) (dScope rdS) [("stop", cs), ("heard", ch)] doc pm c' ctv) :: (a1, listOf (items1 ++ [Value.ref a0]).toArray n1) :: ((led1 ++ (add ++ rest)) ++ own)) F8 (News.sub N8 (by kqd_sub))
            (off_cons d1 (off_cons (Ne.symm d6) (off_cons (Ne.symm d5) (off_cons (hms sk skm).2.1 (off_cons (Ne.symm d7.1) (off_app (off_app (off_map d7.2) (hms sk skm).1) (hms sk skm).2.2)))))) hz2 fun h9 F10 N10 => ?_
          clear F8 N8
          (try dsimp only)
          repeat' (first | walk1 | (dsimp only; walk1) | (k_unfold; dsimp only [InvPostG]))
          refine fin (ps' := { ps with md := .out, stk := push (.list ds0) (ds1 :: dss1) }) (sn' := sn + 1) (hs' := hs) (hn' := hn) (a0' := a1) (items0' := items1 ++ [Value.ref a0]) (n0' := n1) (ds0' := ds1 ++ [.list ds0]) (led' := led1) (add' := (a0, listOf items0.toArray n0) :: add) (vl' := vl) (vs' := vs) (vn' := vn) ?_ rfl hhs (DatAll.append (hi1.mono fun _ h => .tail _ h) (.cons (.list (.head _) (hds.mono fun _ h => .tail _ h)) .nil)) (hp1.mono fun _ h => .tail _ h) (fun v q => by cases q) ⟨by kernel_rfl!, by kernel_rfl!, by kernel_rfl!, by kernel_rfl!, by kernel_rfl!, ?_⟩ ?_ ?_ ?_ ?_ F10 N10 (by kqd_sub) (by kqd_sub)
          · simp [step, hmd, outStep, hcc, hstk]
          · intro y y1 y2 y3 y4 y5 y6 y7 y8
            simp [FM, y1, y2, y3, y4, y5, y6, y7, y8]
          · simp only [List.nodup_cons, List.mem_cons, not_or]
            exact ⟨⟨d1, d2, d4⟩, ⟨d5, d7⟩, d9, d11⟩
          · intro p hp b hb
            rcases List.mem_cons.mp hp with rfl | hp'
            · simp only [List.mem_cons] at hb
              grind
            · refine hoo p hp' b ?_
              simp only [List.map_cons, List.mem_cons] at hb ⊢
              grind
          · intro p hp b hb
            rcases List.mem_cons.mp hp with rfl | hp'
            · obtain ⟨p2, hp2, rfl⟩ := List.mem_map.mp hb
              exact (hoo p2 (List.mem_append.mpr (.inr hp2)) a0 (by simp)).symm
            · exact hor p hp' b hb
          · intro p hp b hb
            refine hown p hp b ?_
            simp only [List.map_cons, List.map_append, List.mem_cons, List.mem_append, List.cons_append] at hb ⊢
            grind
      · -- a comma
        rename (_ == Str.ofString ",") = true => hcc
        rw [sgl_eq c 44 _ (by decide +kernel)] at hcc
        have hcc := eq_of_beq hcc
        rename Fr _ _ _ _ => F8
        rename News _ _ _ _ => N8
        (try k_unfold)
        (try dsimp only [InvPostG])
        refine fin (ps' := { ps with md := .out }) (sn' := sn) (n0' := n0) (hs' := hs) (hn' := hn) (vl' := vl) (vs' := vs) (vn' := vn) (by simp [step, hmd, outStep, hcc]) hstk hhs hds hpar (fun v q => by cases q) ⟨by kernel_rfl!, by kernel_rfl!, by kernel_rfl!, by kernel_rfl!, by kernel_rfl!, ?_⟩ hnd hoo hor ?_ F8 N8 (by kqd_sub) (by kqd_sub)
        · intro y y1 y2 y3 y4 y5 y6 y7 y8
          simp [FM, y1, y2, y3, y4, y5, y6, y7, y8]
        · intro p hp b hb
          refine hown p hp b ?_
          simp only [List.map_cons, List.mem_cons] at hb ⊢
          grind
      · -- a quote
        rename (_ == Str.ofString "\"") = true => hcc
        rw [sgl_eq c 34 _ (by decide +kernel)] at hcc
        have hcc := eq_of_beq hcc
        repeat' (first | walk1 | (dsimp only; walk1) | (k_unfold; dsimp only [InvPostG]))
        rename Behind _ _ => hbe
        rename Fr _ _ _ _ => F8
        rename News _ _ _ _ => N8
        rename_i v1 _ _ _ _ _ _ _
        have q1 : v1 ≠ hd := hbe.ne (.head _)
        have q2 : v1 ≠ sk := hbe.ne (.tail _ (.head _))
        have q4 : v1 ≠ a0 := hbe.ne (.tail _ (.tail _ (.tail _ (.head _))))
        have q5 : ∀ p ∈ (led ++ (add ++ rest)) ++ own, p.1 ≠ v1 := fun p hp => (hbe.ne (p := p) (.tail _ (.tail _ (.tail _ (.tail _ (.tail _ hp)))))).symm
        refine fin (ps' := { ps with md := .str [] }) (sn' := sn) (n0' := n0) (hs' := hs) (hn' := hn) (vl' := v1) (vs' := []) (vn' := 0) (by simp [step, hmd, outStep, hcc]) hstk hhs hds hpar (fun v q => by cases q; exact .nil) ⟨by kernel_rfl!, by kernel_rfl!, by kernel_rfl!, by kernel_rfl!, by kernel_rfl!, ?_⟩ ?_ ?_ hor ?_ F8 N8 (by kqd_sub) (by kqd_sub)
        · intro y y1 y2 y3 y4 y5 y6 y7 y8
          simp [FM, y1, y2, y3, y4, y5, y6, y7, y8]
        · simp only [List.nodup_cons, List.mem_cons, not_or]
          refine ⟨⟨d1, Ne.symm q1, d3, d4⟩, ⟨Ne.symm q2, d6, d7⟩, ⟨q4, fun hm => ?_⟩, d10, d11⟩
          obtain ⟨p, hp, e⟩ := List.mem_map.mp hm
          exact q5 p (List.mem_append.mpr (.inl (List.mem_append.mpr (.inl hp)))) e
        · intro p hp b hb
          by_cases e : b = v1
          · rw [e]
            exact q5 p (List.mem_append.mpr (.inl (List.mem_append.mpr (.inr hp))))
          · refine hoo p hp b ?_
            simp only [List.map_cons, List.mem_cons] at hb ⊢
            grind
        · intro p hp b hb
          by_cases e : b = v1
          · rw [e]
            exact q5 p (List.mem_append.mpr (.inr hp))
          · refine hown p hp b ?_
            simp only [List.map_cons, List.map_append, List.mem_cons, List.mem_append, List.cons_append] at hb ⊢
            grind
      · -- any other sign
        rename (_ == Str.ofString "{") = false => hc1
        rename (_ == Str.ofString "}") = false => hc2
        rename (_ == Str.ofString ",") = false => hc3
        rename (_ == Str.ofString "\"") = false => hc4
        rw [sgl_eq c 123 _ (by decide +kernel), beq_eq_false_iff_ne] at hc1
        rw [sgl_eq c 125 _ (by decide +kernel), beq_eq_false_iff_ne] at hc2
        rw [sgl_eq c 44 _ (by decide +kernel), beq_eq_false_iff_ne] at hc3
        rw [sgl_eq c 34 _ (by decide +kernel), beq_eq_false_iff_ne] at hc4
        repeat' (first | walk1 | (dsimp only; walk1) | (k_unfold; dsimp only [InvPostG]))
        rename Behind _ _ => hbe
        rename Fr _ _ _ _ => F8
        rename News _ _ _ _ => N8
        rename_i v1 _ _ _ _ _ _ _
        have q1 : v1 ≠ hd := hbe.ne (.head _)
        have q2 : v1 ≠ sk := hbe.ne (.tail _ (.head _))
        have q4 : v1 ≠ a0 := hbe.ne (.tail _ (.tail _ (.tail _ (.head _))))
        have q5 : ∀ p ∈ (led ++ (add ++ rest)) ++ own, p.1 ≠ v1 := fun p hp => (hbe.ne (p := p) (.tail _ (.tail _ (.tail _ (.tail _ (.tail _ hp)))))).symm
        refine fin (ps' := { ps with md := .val [c] }) (sn' := sn) (n0' := n0) (hs' := hs) (hn' := hn) (vl' := v1) (vs' := [.str ⟨#[c]⟩ t]) (vn' := 0) (by simp [step, hmd, outStep, hc1, hc2, hc3, hc4]) hstk hhs hds hpar (fun v q => by cases q; exact .cons _ _ .nil) ⟨by kernel_rfl!, by kernel_rfl!, by kernel_rfl!, by kernel_rfl!, by kernel_rfl!, ?_⟩ ?_ ?_ hor ?_ F8 N8 (by kqd_sub) (by kqd_sub)
        · intro y y1 y2 y3 y4 y5 y6 y7 y8
          simp [FM, y1, y2, y3, y4, y5, y6, y7, y8]
        · simp only [List.nodup_cons, List.mem_cons, not_or]
          refine ⟨⟨d1, Ne.symm q1, d3, d4⟩, ⟨Ne.symm q2, d6, d7⟩, ⟨q4, fun hm => ?_⟩, d10, d11⟩
          obtain ⟨p, hp, e⟩ := List.mem_map.mp hm
          exact q5 p (List.mem_append.mpr (.inl (List.mem_append.mpr (.inl hp)))) e
        · intro p hp b hb
          by_cases e : b = v1
          · rw [e]
            exact q5 p (List.mem_append.mpr (.inl (List.mem_append.mpr (.inr hp))))
          · refine hoo p hp b ?_
            simp only [List.map_cons, List.mem_cons] at hb ⊢
            grind
        · intro p hp b hb
          by_cases e : b = v1
          · rw [e]
            exact q5 p (List.mem_append.mpr (.inr hp))
          · refine hown p hp b ?_
            simp only [List.map_cons, List.map_append, List.mem_cons, List.mem_append, List.cons_append] at hb ⊢
            grind
    | val v =>
      rw [hmd] at F6
      dsimp only [mdA] at F6
      have hv := hval v (by rw [hmd]; rfl)
      have hvl : vs.length = v.length := by rw [hv.length]; simp [sgl]
      have hvi := hsm.text v (by rw [hmd]; rfl)
      clear hval
      repeat' (first | walk1 | (dsimp only; walk1))
      · -- the end of a bare text
        rename (List.any _ _) = true => hin
        rw [in_close, Bool.or_eq_true, beq_iff_eq, beq_iff_eq] at hin
        rename Fr _ _ _ _ => F8
        rename News _ _ _ _ => N8
        replace N8 := News.sub (b := (hd, listOf hs.toArray hn) :: (sk, listOf (stkV a0 led).toArray sn) :: (vl, listOf vs.toArray vn) :: (a0, listOf items0.toArray n0) :: (r, fnMade "_law_reader" rdQ (dParams rdS) (dBody rdS) (dScope rdS) [("stop", cs), ("heard", ch)] doc pm c' ctv) :: ((led ++ (add ++ rest)) ++ own)) N8 (by kqd_sub)
        refine join_listW (items := vs.toArray) (PySem.IsL.isList (n := vn) (N8 (vl, listOf vs.toArray vn) (by k_mem)).1) hv (by decide) (by rw [sgl_sum]; simp only [sgl, List.length_map]; omega) fun t' tk9 => ?_
        rw [join_sgl]
        (try dsimp only)
        repeat' (first | walk1 | (dsimp only; walk1))
        refine kim_back (l := stkV a0 led) (by assumption) (by k_mem) rfl rfl (by decide) (by have := stkV_len a0 led; omega) (by decide) (stkV_last a0 led) ?_
        (try dsimp only)
        repeat' (first | walk1 | (dsimp only; walk1))
        · rename (mkS v == Str.ofString "NULL") = true => hv0
          rw [null_eq, decide_eq_true_iff] at hv0
          rename Fr _ _ _ _ => F8
          rename News _ _ _ _ => N8
          have hoo2 : OwnOff (add ++ rest) (hd :: sk :: vl :: a0 :: led.map (·.1)) := hoo
          have hor2 : OwnOff (add) (rest.map (·.1)) := hor
          have hown2 : OwnOff own (hd :: sk :: vl :: a0 :: (led ++ (add ++ rest)).map (·.1)) := hown
          have hds2 : DatAll (add) (items0 ++ [Value.none]) (ds0 ++ [Dat.none]) := DatAll.append hds (.cons .none .nil)
          have hhs2 : DatAll [] (hs) (lT (ps.heard)) := hhs
          have hpar2 : Par (add) a0 dss led := hpar
          refine appendHd (n := n0) (its := items0.toArray) (rest := (hd, listOf hs.toArray hn) :: (sk, listOf (stkV a0 led).toArray sn) :: (vl, listOf vs.toArray vn) :: ((led ++ (add ++ rest)) ++ own)) F8 (News.sub N8 (by kqd_sub))
            (off_cons d3 (off_cons d6 (off_cons d8 (off_app (off_app (off_map d10) (hms a0 a0m).1) (hms a0 a0m).2.2)))) hz1 fun h9 F10 N10 => ?_
          clear F8 N8
          rw [List.push_toArray] at N10
          (try dsimp only)
          repeat' (first | walk1 | (dsimp only; walk1))
          · exfalso
            rename (_ == Str.ofString "{") = true => hcc
            rw [sgl_eq c 123 _ (by decide +kernel)] at hcc
            have hcc := eq_of_beq hcc
            omega
          · rename (_ == Str.ofString "}") = true => hcc
            rw [sgl_eq c 125 _ (by decide +kernel)] at hcc
            have hcc := eq_of_beq hcc
            rename Fr _ _ _ _ => F8
            rename News _ _ _ _ => N8
            rcases hpar2.inv with rfl | ⟨a1, items1, n1, ds1, dss1, led1, rfl, rfl, hi1, hp1⟩
            · exact absurd (by simp [step, hmd, hv0, hcc, outStep, hstk, push, Res.then]) hnb
            · simp only [List.map_cons, List.mem_cons, not_or, List.nodup_cons] at d4 d7 d9 d10 d11
              rw [stkV_cons] at N8 hz2
              refine popHd (n := sn) (l := stkV a1 led1) (y := .ref a0) (rest := (hd, listOf (hs).toArray (hn)) :: (a0, listOf (items0 ++ [Value.none]).toArray (n0 + 1)) :: (vl, listOf vs.toArray vn) :: (a1, listOf (items1 ++ [Value.ref a0]).toArray n1) :: ((led1 ++ (add ++ rest)) ++ own)) F8 (News.sub N8 (by kqd_sub))
                (off_cons d1 (off_cons (Ne.symm d6) (off_cons (Ne.symm d5) (off_cons (Ne.symm d7.1) (off_app (off_app (off_map d7.2) (fun p hp => hoo2 p hp sk skm)) (hms sk skm).2.2))))) hz2 fun h9 F10 N10 => ?_
              clear F8 N8
              (try dsimp only)
              repeat' (first | walk1 | (dsimp only; walk1) | (k_unfold; dsimp only [InvPostG]))
              refine fin (ps' := { md := .out, stk := push (.list (ds0 ++ [Dat.none])) (ds1 :: dss1), heard := ps.heard }) (sn' := sn + 1) (hs' := hs) (hn' := hn) (a0' := a1) (items0' := items1 ++ [Value.ref a0]) (n0' := n1) (ds0' := ds1 ++ [.list (ds0 ++ [Dat.none])]) (led' := led1) (add' := (a0, listOf (items0 ++ [Value.none]).toArray (n0 + 1)) :: (add)) (vl' := vl) (vs' := vs) (vn' := vn) ?_ rfl hhs2 (DatAll.append (hi1.mono fun _ h => .tail _ h) (.cons (.list (.head _) (hds2.mono fun _ h => .tail _ h)) .nil)) (hp1.mono fun _ h => .tail _ h) (fun v q => by cases q) ⟨by kernel_rfl!, by kernel_rfl!, by kernel_rfl!, by kernel_rfl!, by kernel_rfl!, ?_⟩ (nodup_close hnd) (off_close hoo2 hnd) (rest_close hoo2 a0m hor2) (own_close hown2) F10 N10 (by kqd_sub) (by kqd_sub)
              · simp [step, hmd, hv0, hcc, outStep, hstk, push, Res.then]
              · intro y y1 y2 y3 y4 y5 y6 y7 y8
                simp [fm_other, y1, y2, y3, y4, y5, y6, y7, y8]
          · rename (_ == Str.ofString ",") = true => hcc
            rw [sgl_eq c 44 _ (by decide +kernel)] at hcc
            have hcc := eq_of_beq hcc
            rename Fr _ _ _ _ => F8
            rename News _ _ _ _ => N8
            (try k_unfold)
            (try dsimp only [InvPostG])
            refine fin (ps' := { md := .out, stk := push (Dat.none) ps.stk, heard := ps.heard }) (sn' := sn) (hs' := hs) (hn' := hn) (a0' := a0) (items0' := items0 ++ [Value.none]) (n0' := n0 + 1) (ds0' := ds0 ++ [Dat.none]) (dss' := dss) (led' := led) (add' := add) (vl' := vl) (vs' := vs) (vn' := vn) (by simp [step, hmd, hv0, hcc, outStep, Res.then]) (by show push _ ps.stk = _; rw [hstk]; rfl) hhs2 hds2 hpar2 (fun v q => by cases q) ⟨by kernel_rfl!, by kernel_rfl!, by kernel_rfl!, by kernel_rfl!, by kernel_rfl!, ?_⟩ hnd hoo2 hor2 hown2 F8 N8 (by kqd_sub) (by kqd_sub)
            intro y y1 y2 y3 y4 y5 y6 y7 y8
            simp [fm_other, y1, y2, y3, y4, y5, y6, y7, y8]
          · exfalso
            rename (_ == Str.ofString "\"") = true => hcc
            rw [sgl_eq c 34 _ (by decide +kernel)] at hcc
            have hcc := eq_of_beq hcc
            omega
          · exfalso
            rename (_ == Str.ofString "}") = false => hc2
            rename (_ == Str.ofString ",") = false => hc3
            rw [sgl_eq c 125 _ (by decide +kernel), beq_eq_false_iff_ne] at hc2
            rw [sgl_eq c 44 _ (by decide +kernel), beq_eq_false_iff_ne] at hc3
            omega
        · rename (mkS v == Str.ofString "NULL") = false => hv0
          rw [null_eq, decide_eq_false_iff_not] at hv0
          rename Fr _ _ _ _ => F8
          rename News _ _ _ _ => N8
          have hlh : hs.length = ps.heard.length := by rw [hhs.length, lT_length]
          have hlb := hsm.heard
          refine reader_spec (hs := hs) (hn := hn) (x := mkS v) (rest := (sk, listOf (stkV a0 led).toArray sn) :: (vl, listOf vs.toArray vn) :: (a0, listOf items0.toArray n0) :: ((led ++ (add ++ rest)) ++ own)) S' K' (Around.frames_deeper hA) rfl (by kernel_rfl) F8 (News.sub N8 (by kqd_sub)) (R.mono (by kqd_sub)) (by show A.depth + 1 < _; omega) (by show A.units + 3 + 20 < _; omega)
            (off_cons (Ne.symm d1) (off_cons (Ne.symm d2) (off_cons (Ne.symm d3) (off_app (off_app (off_map d4) (hms hd hdm).1) (hms hd hdm).2.2)))) (by omega) ⟨by omega, by omega⟩ (fun hne a ti h8 tk8 ha FQ NQ => ?_) (fun heq e G h8 tk8 FG8 R8 U8 => ?_)
          · have hne' : ¬ ps.heard.length + 1 = stop := by omega
            have qa : ∀ p ∈ (hd, listOf hs.toArray hn) :: (sk, listOf (stkV a0 led).toArray sn) :: (vl, listOf vs.toArray vn) :: (a0, listOf items0.toArray n0) :: ((led ++ (add ++ rest)) ++ own), p.1 ≠ a := fun p hp => Nat.ne_of_lt (ha p hp)
            have qa2 : a ∉ hd :: sk :: vl :: a0 :: led.map (·.1) := by
              intro hm
              simp only [List.mem_cons, List.mem_map] at hm
              rcases hm with rfl | rfl | rfl | rfl | ⟨p, hp, rfl⟩
              · exact qa _ (.head _) rfl
              · exact qa _ (.tail _ (.head _)) rfl
              · exact qa _ (.tail _ (.tail _ (.head _))) rfl
              · exact qa _ (.tail _ (.tail _ (.tail _ (.head _)))) rfl
              · exact qa p (by simp [hp]) rfl
            have hgot : got (ps.heard.length + 1) v = .tuple [.int ((hs.length + 1 : Nat) : Int), .str (mkS v)] := by rw [hlh]; rfl
            have hoo2 : OwnOff ((a, ({ cls := .type "tuple", data := .seq ([.int ((hs.length + 1 : Nat) : Int) ti, .str (mkS v) t'] : List Value).toArray 0 } : Obj)) :: add ++ rest) (hd :: sk :: vl :: a0 :: led.map (·.1)) := off_add hoo qa2
            have hor2 : OwnOff ((a, ({ cls := .type "tuple", data := .seq ([.int ((hs.length + 1 : Nat) : Int) ti, .str (mkS v) t'] : List Value).toArray 0 } : Obj)) :: add) (rest.map (·.1)) := rest_add hor fun p hp => qa p (by simp [hp])
            have hown2 : OwnOff own (hd :: sk :: vl :: a0 :: (led ++ ((a, ({ cls := .type "tuple", data := .seq ([.int ((hs.length + 1 : Nat) : Int) ti, .str (mkS v) t'] : List Value).toArray 0 } : Obj)) :: add ++ rest)).map (·.1)) := own_add hown fun p hp => qa p (by simp [hp])
            have hds2 : DatAll ((a, ({ cls := .type "tuple", data := .seq ([.int ((hs.length + 1 : Nat) : Int) ti, .str (mkS v) t'] : List Value).toArray 0 } : Obj)) :: add) (items0 ++ [Value.ref a]) (ds0 ++ [got (ps.heard.length + 1) v]) := DatAll.append (hds.mono fun _ h => .tail _ h) (.cons (by rw [hgot]; exact .tuple (n := 0) (.head _) (.cons (.int _ _) (.cons (.str _ _) .nil))) .nil)
            have hhs2 : DatAll [] (hs ++ [Value.str (mkS v) t']) (lT (ps.heard ++ [v])) := by rw [lT_snoc]; exact DatAll.append hhs (.cons (.str _ _) .nil)
            have hpar2 : Par ((a, ({ cls := .type "tuple", data := .seq ([.int ((hs.length + 1 : Nat) : Int) ti, .str (mkS v) t'] : List Value).toArray 0 } : Obj)) :: add) a0 dss led := hpar.mono fun _ h => .tail _ h
            (try dsimp only)
            repeat' (first | walk1 | (dsimp only; walk1))
            refine appendHd (n := n0) (its := items0.toArray) (rest := (hd, listOf (hs ++ [Value.str (mkS v) t']).toArray (hn + 1)) :: (a, ({ cls := .type "tuple", data := .seq ([.int ((hs.length + 1 : Nat) : Int) ti, .str (mkS v) t'] : List Value).toArray 0 } : Obj)) :: (sk, listOf (stkV a0 led).toArray sn) :: (vl, listOf vs.toArray vn) :: ((led ++ (add ++ rest)) ++ own)) FQ (News.sub NQ (by kqd_sub))
              (off_cons d3 (off_cons (Ne.symm (qa _ (.tail _ (.tail _ (.tail _ (.head _)))))) (off_cons d6 (off_cons d8 (off_app (off_app (off_map d10) (hms a0 a0m).1) (hms a0 a0m).2.2))))) hz1 fun h9 F10 N10 => ?_
            clear F8 N8 FQ NQ
            rw [List.push_toArray] at N10
            (try dsimp only)
            repeat' (first | walk1 | (dsimp only; walk1))
            · exfalso
              rename (_ == Str.ofString "{") = true => hcc
              rw [sgl_eq c 123 _ (by decide +kernel)] at hcc
              have hcc := eq_of_beq hcc
              omega
            · rename (_ == Str.ofString "}") = true => hcc
              rw [sgl_eq c 125 _ (by decide +kernel)] at hcc
              have hcc := eq_of_beq hcc
              rename Fr _ _ _ _ => F8
              rename News _ _ _ _ => N8
              rcases hpar2.inv with rfl | ⟨a1, items1, n1, ds1, dss1, led1, rfl, rfl, hi1, hp1⟩
              · exact absurd (by simp [step, hmd, hv0, hear, hne', hcc, outStep, hstk, push, Res.then]) hnb
              · simp only [List.map_cons, List.mem_cons, not_or, List.nodup_cons] at d4 d7 d9 d10 d11
                rw [stkV_cons] at N8 hz2
                refine popHd (n := sn) (l := stkV a1 led1) (y := .ref a0) (rest := (hd, listOf (hs ++ [Value.str (mkS v) t']).toArray (hn + 1)) :: (a0, listOf (items0 ++ [Value.ref a]).toArray (n0 + 1)) :: (vl, listOf vs.toArray vn) :: (a1, listOf (items1 ++ [Value.ref a0]).toArray n1) :: ((led1 ++ ((a, ({ cls := .type "tuple", data := .seq ([.int ((hs.length + 1 : Nat) : Int) ti, .str (mkS v) t'] : List Value).toArray 0 } : Obj)) :: add ++ rest)) ++ own)) F8 (News.sub N8 (by kqd_sub))
                  (off_cons d1 (off_cons (Ne.symm d6) (off_cons (Ne.symm d5) (off_cons (Ne.symm d7.1) (off_app (off_app (off_map d7.2) (fun p hp => hoo2 p hp sk skm)) (hms sk skm).2.2))))) hz2 fun h9 F10 N10 => ?_
                clear F8 N8
                (try dsimp only)
                repeat' (first | walk1 | (dsimp only; walk1) | (k_unfold; dsimp only [InvPostG]))
                refine fin (ps' := { md := .out, stk := push (.list (ds0 ++ [got (ps.heard.length + 1) v])) (ds1 :: dss1), heard := ps.heard ++ [v] }) (sn' := sn + 1) (hs' := hs ++ [Value.str (mkS v) t']) (hn' := hn + 1) (a0' := a1) (items0' := items1 ++ [Value.ref a0]) (n0' := n1) (ds0' := ds1 ++ [.list (ds0 ++ [got (ps.heard.length + 1) v])]) (led' := led1) (add' := (a0, listOf (items0 ++ [Value.ref a]).toArray (n0 + 1)) :: ((a, ({ cls := .type "tuple", data := .seq ([.int ((hs.length + 1 : Nat) : Int) ti, .str (mkS v) t'] : List Value).toArray 0 } : Obj)) :: add)) (vl' := vl) (vs' := vs) (vn' := vn) ?_ rfl hhs2 (DatAll.append (hi1.mono fun _ h => .tail _ h) (.cons (.list (.head _) (hds2.mono fun _ h => .tail _ h)) .nil)) (hp1.mono fun _ h => .tail _ h) (fun v q => by cases q) ⟨by kernel_rfl!, by kernel_rfl!, by kernel_rfl!, by kernel_rfl!, by kernel_rfl!, ?_⟩ (nodup_close hnd) (off_close hoo2 hnd) (rest_close hoo2 a0m hor2) (own_close hown2) F10 N10 (by kqd_sub) (by kqd_sub)
                · simp [step, hmd, hv0, hear, hne', hcc, outStep, hstk, push, Res.then]
                · intro y y1 y2 y3 y4 y5 y6 y7 y8
                  simp [fm_other, y1, y2, y3, y4, y5, y6, y7, y8]
            · rename (_ == Str.ofString ",") = true => hcc
              rw [sgl_eq c 44 _ (by decide +kernel)] at hcc
              have hcc := eq_of_beq hcc
              rename Fr _ _ _ _ => F8
              rename News _ _ _ _ => N8
              (try k_unfold)
              (try dsimp only [InvPostG])
              refine fin (ps' := { md := .out, stk := push (got (ps.heard.length + 1) v) ps.stk, heard := ps.heard ++ [v] }) (sn' := sn) (hs' := hs ++ [Value.str (mkS v) t']) (hn' := hn + 1) (a0' := a0) (items0' := items0 ++ [Value.ref a]) (n0' := n0 + 1) (ds0' := ds0 ++ [got (ps.heard.length + 1) v]) (dss' := dss) (led' := led) (add' := (a, ({ cls := .type "tuple", data := .seq ([.int ((hs.length + 1 : Nat) : Int) ti, .str (mkS v) t'] : List Value).toArray 0 } : Obj)) :: add) (vl' := vl) (vs' := vs) (vn' := vn) (by simp [step, hmd, hv0, hear, hne', hcc, outStep, Res.then]) (by show push _ ps.stk = _; rw [hstk]; rfl) hhs2 hds2 hpar2 (fun v q => by cases q) ⟨by kernel_rfl!, by kernel_rfl!, by kernel_rfl!, by kernel_rfl!, by kernel_rfl!, ?_⟩ hnd hoo2 hor2 hown2 F8 N8 (by kqd_sub) (by kqd_sub)
              intro y y1 y2 y3 y4 y5 y6 y7 y8
              simp [fm_other, y1, y2, y3, y4, y5, y6, y7, y8]
            · exfalso
              rename (_ == Str.ofString "\"") = true => hcc
              rw [sgl_eq c 34 _ (by decide +kernel)] at hcc
              have hcc := eq_of_beq hcc
              omega
            · exfalso
              rename (_ == Str.ofString "}") = false => hc2
              rename (_ == Str.ofString ",") = false => hc3
              rw [sgl_eq c 125 _ (by decide +kernel), beq_eq_false_iff_ne] at hc2
              rw [sgl_eq c 44 _ (by decide +kernel), beq_eq_false_iff_ne] at hc3
              omega
          · have heq' : ps.heard.length + 1 = stop := by omega
            refine fly_on K' rfl FG8 R8 U8 fun h10 R10 U10 => ?_
            refine hE _ (hrf (ps.heard ++ [v]) (by rcases hin with rfl | rfl <;> simp [step, hmd, hv0, hear, heq', Res.then])) e g (hs ++ [Value.str (mkS v) t']) (hn + 1) _ _ (by show DatAll [] _ (lT (ps.heard ++ [v])); rw [lT_snoc]; exact DatAll.append hhs (.cons (.str _ _) .nil)) FG (raised_sub R10 (by kqd_sub)) U10
      · -- another sign of a bare text
        rename (List.any _ _) = false => hin
        rw [in_close, Bool.or_eq_false_iff, beq_eq_false_iff_ne, beq_eq_false_iff_ne] at hin
        rename Fr _ _ _ _ => F8
        rename News _ _ _ _ => N8
        refine appendHd (n := vn) (its := vs.toArray) (rest := (hd, listOf hs.toArray hn) :: (sk, listOf (stkV a0 led).toArray sn) :: (a0, listOf items0.toArray n0) :: (r, fnMade "_law_reader" rdQ (dParams rdS) (dBody rdS) (dScope rdS) [("stop", cs), ("heard", ch)] doc pm c' ctv) :: ((led ++ (add ++ rest)) ++ own)) F8 (News.sub N8 (by kqd_sub))
          (off_cons d2 (off_cons d5 (off_cons (Ne.symm d8) (off_cons (hms vl vlm).2.1 (off_app (off_app (off_map d9) (hms vl vlm).1) (hms vl vlm).2.2))))) (by rw [List.size_toArray, sizeLine_eq]; omega) fun h9 F10 N10 => ?_
        clear F8 N8
        rw [List.push_toArray] at N10
        (try dsimp only)
        repeat' (first | walk1 | (dsimp only; walk1) | (k_unfold; dsimp only [InvPostG]))
        rename Fr _ _ _ _ => F10
        rename News _ _ _ _ => N10
        refine fin (ps' := { ps with md := .val (v ++ [c]) }) (sn' := sn) (n0' := n0) (hs' := hs) (hn' := hn) (vl' := vl) (vs' := vs ++ [.str ⟨#[c]⟩ t]) (vn' := vn + 1) (by simp [step, hmd, hin.1, hin.2]) hstk hhs hds hpar (fun v2 q => by cases q; rw [sgl_snoc]; exact StrsAre.append' hv (.cons _ _ .nil)) ⟨by kernel_rfl!, by kernel_rfl!, by kernel_rfl!, by kernel_rfl!, by kernel_rfl!, ?_⟩ hnd hoo hor ?_ F10 N10 (by kqd_sub) (by kqd_sub)
        · intro y y1 y2 y3 y4 y5 y6 y7 y8
          simp [FM, y1, y2, y3, y4, y5, y6, y7, y8]
        · intro p hp b hb
          refine hown p hp b ?_
          simp only [List.map_cons, List.mem_cons] at hb ⊢
          grind
    | str v =>
      rw [hmd] at F6
      dsimp only [mdA] at F6
      have hv := hval v (by rw [hmd]; rfl)
      have hvl : vs.length = v.length := by rw [hv.length]; simp [sgl]
      have hvi := hsm.text v (by rw [hmd]; rfl)
      clear hval
      repeat' (first | walk1 | (dsimp only; walk1))
      · -- the closing quote
        rename (_ == Str.ofString "\"") = true => hcc
        rw [sgl_eq c 34 _ (by decide +kernel)] at hcc
        have hcc := eq_of_beq hcc
        refine kim_back (l := stkV a0 led) (by assumption) (by k_mem) rfl rfl (by decide) (by have := stkV_len a0 led; omega) (by decide) (stkV_last a0 led) ?_
        (try dsimp only)
        repeat' (first | walk1 | (dsimp only; walk1))
        rename Fr _ _ _ _ => F8
        rename News _ _ _ _ => N8
        refine join_listW (items := vs.toArray) (PySem.IsL.isList (n := vn) (N8 (vl, listOf vs.toArray vn) (by k_mem)).1) hv (by decide) (by rw [sgl_sum]; simp only [sgl, List.length_map]; omega) fun t' tk9 => ?_
        rw [join_sgl]
        (try dsimp only)
        repeat' (first | walk1 | (dsimp only; walk1))
        rename Fr _ _ _ _ => F8
        rename News _ _ _ _ => N8
        have hlh : hs.length = ps.heard.length := by rw [hhs.length, lT_length]
        have hlb := hsm.heard
        refine reader_spec (hs := hs) (hn := hn) (x := mkS v) (rest := (sk, listOf (stkV a0 led).toArray sn) :: (vl, listOf vs.toArray vn) :: (a0, listOf items0.toArray n0) :: ((led ++ (add ++ rest)) ++ own)) S' K' (Around.frames_deeper hA) rfl (by kernel_rfl) F8 (News.sub N8 (by kqd_sub)) (R.mono (by kqd_sub)) (by show A.depth + 1 < _; omega) (by show A.units + 3 + 20 < _; omega)
          (off_cons (Ne.symm d1) (off_cons (Ne.symm d2) (off_cons (Ne.symm d3) (off_app (off_app (off_map d4) (hms hd hdm).1) (hms hd hdm).2.2)))) (by omega) ⟨by omega, by omega⟩ (fun hne a ti h8 tk8 ha FQ NQ => ?_) (fun heq e G h8 tk8 FG8 R8 U8 => ?_)
        · have hne' : ¬ ps.heard.length + 1 = stop := by omega
          have qa : ∀ p ∈ (hd, listOf hs.toArray hn) :: (sk, listOf (stkV a0 led).toArray sn) :: (vl, listOf vs.toArray vn) :: (a0, listOf items0.toArray n0) :: ((led ++ (add ++ rest)) ++ own), p.1 ≠ a := fun p hp => Nat.ne_of_lt (ha p hp)
          have qa2 : a ∉ hd :: sk :: vl :: a0 :: led.map (·.1) := by
            intro hm
            simp only [List.mem_cons, List.mem_map] at hm
            rcases hm with rfl | rfl | rfl | rfl | ⟨p, hp, rfl⟩
            · exact qa _ (.head _) rfl
            · exact qa _ (.tail _ (.head _)) rfl
            · exact qa _ (.tail _ (.tail _ (.head _))) rfl
            · exact qa _ (.tail _ (.tail _ (.tail _ (.head _)))) rfl
            · exact qa p (by simp [hp]) rfl
          have hgot : got (ps.heard.length + 1) v = .tuple [.int ((hs.length + 1 : Nat) : Int), .str (mkS v)] := by rw [hlh]; rfl
          (try dsimp only)
          repeat' (first | walk1 | (dsimp only; walk1))
          refine appendHd (n := n0) (its := items0.toArray) (rest := (hd, listOf (hs ++ [Value.str (mkS v) t']).toArray (hn + 1)) :: (a, ({ cls := .type "tuple", data := .seq ([.int ((hs.length + 1 : Nat) : Int) ti, .str (mkS v) t'] : List Value).toArray 0 } : Obj)) :: (sk, listOf (stkV a0 led).toArray sn) :: (vl, listOf vs.toArray vn) :: ((led ++ (add ++ rest)) ++ own)) FQ (News.sub NQ (by kqd_sub))
            (off_cons d3 (off_cons (Ne.symm (qa _ (.tail _ (.tail _ (.tail _ (.head _)))))) (off_cons d6 (off_cons d8 (off_app (off_app (off_map d10) (hms a0 a0m).1) (hms a0 a0m).2.2))))) hz1 fun h9 F10 N10 => ?_
          clear F8 N8 FQ NQ
          rw [List.push_toArray] at N10
          (try dsimp only)
          repeat' (first | walk1 | (dsimp only; walk1) | (k_unfold; dsimp only [InvPostG]))
          rename Fr _ _ _ _ => F10
          rename News _ _ _ _ => N10
          refine fin (ps' := { md := .out, stk := push (got (ps.heard.length + 1) v) ps.stk, heard := ps.heard ++ [v] }) (sn' := sn) (hs' := hs ++ [Value.str (mkS v) t']) (hn' := hn + 1) (a0' := a0) (items0' := items0 ++ [Value.ref a]) (n0' := n0 + 1) (ds0' := ds0 ++ [got (ps.heard.length + 1) v]) (dss' := dss) (led' := led) (add' := (a, ({ cls := .type "tuple", data := .seq ([.int ((hs.length + 1 : Nat) : Int) ti, .str (mkS v) t'] : List Value).toArray 0 } : Obj)) :: add) (vl' := vl) (vs' := vs) (vn' := vn) (by simp [step, hmd, hcc, hear, hne']) (by show push _ ps.stk = _; rw [hstk]; rfl)
            (by show DatAll [] _ (lT (ps.heard ++ [v])); rw [lT_snoc]; exact DatAll.append hhs (.cons (.str _ _) .nil))
            (DatAll.append (hds.mono fun _ h => .tail _ h) (.cons (by rw [hgot]; exact .tuple (n := 0) (.head _) (.cons (.int _ _) (.cons (.str _ _) .nil))) .nil)) (hpar.mono fun _ h => .tail _ h) (fun v q => by cases q) ⟨by kernel_rfl!, by kernel_rfl!, by kernel_rfl!, by kernel_rfl!, by kernel_rfl!, ?_⟩ hnd ?_ ?_ ?_ F10 N10 (by kqd_sub) (by kqd_sub)
          · intro y y1 y2 y3 y4 y5 y6 y7 y8
            simp [FM, y1, y2, y3, y4, y5, y6, y7, y8]
          · intro p hp b hb
            rcases List.mem_cons.mp hp with rfl | hp'
            · exact fun e => qa2 (by have e2 : a = b := e; rw [e2]; exact hb)
            · exact hoo p hp' b hb
          · intro p hp b hb
            rcases List.mem_cons.mp hp with rfl | hp'
            · obtain ⟨p2, hp2, rfl⟩ := List.mem_map.mp hb
              exact (qa p2 (by simp [hp2])).symm
            · exact hor p hp' b hb
          · intro p hp b hb
            by_cases e : b = a
            · rw [e]
              exact qa p (by simp [hp])
            · refine hown p hp b ?_
              simp only [List.map_cons, List.map_append, List.mem_cons, List.mem_append, List.cons_append] at hb ⊢
              grind
        · have heq' : ps.heard.length + 1 = stop := by omega
          refine fly_on K' rfl FG8 R8 U8 fun h10 R10 U10 => ?_
          refine hE _ (hrf (ps.heard ++ [v]) (by simp [step, hmd, hcc, hear, heq'])) e g (hs ++ [Value.str (mkS v) t']) (hn + 1) _ _ (by show DatAll [] _ (lT (ps.heard ++ [v])); rw [lT_snoc]; exact DatAll.append hhs (.cons (.str _ _) .nil)) FG (raised_sub R10 (by kqd_sub)) U10
      · -- a backslash
        rename (_ == Str.ofString "\\") = true => hcc
        rename (_ == Str.ofString "\"") = false => hc4
        rw [sgl_eq c 92 _ (by decide +kernel)] at hcc
        rw [sgl_eq c 34 _ (by decide +kernel), beq_eq_false_iff_ne] at hc4
        have hcc := eq_of_beq hcc
        repeat' (first | walk1 | (dsimp only; walk1) | (k_unfold; dsimp only [InvPostG]))
        rename Fr _ _ _ _ => F8
        rename News _ _ _ _ => N8
        refine fin (ps' := { ps with md := .esc v }) (sn' := sn) (n0' := n0) (hs' := hs) (hn' := hn) (vl' := vl) (vs' := vs) (vn' := vn) (by simp [step, hmd, hcc]) hstk hhs hds hpar (fun v2 q => by cases q; exact hv) ⟨by kernel_rfl!, by kernel_rfl!, by kernel_rfl!, by kernel_rfl!, by kernel_rfl!, ?_⟩ hnd hoo hor ?_ F8 N8 (by kqd_sub) (by kqd_sub)
        · intro y y1 y2 y3 y4 y5 y6 y7 y8
          simp [FM, y1, y2, y3, y4, y5, y6, y7, y8]
        · intro p hp b hb
          refine hown p hp b ?_
          simp only [List.map_cons, List.mem_cons] at hb ⊢
          grind
      · -- a plain sign
        rename (_ == Str.ofString "\\") = false => hc3
        rename (_ == Str.ofString "\"") = false => hc4
        rw [sgl_eq c 92 _ (by decide +kernel), beq_eq_false_iff_ne] at hc3
        rw [sgl_eq c 34 _ (by decide +kernel), beq_eq_false_iff_ne] at hc4
        repeat' (first | walk1 | (dsimp only; walk1))
        rename Fr _ _ _ _ => F8
        rename News _ _ _ _ => N8
        refine appendHd (n := vn) (its := vs.toArray) (rest := (hd, listOf hs.toArray hn) :: (sk, listOf (stkV a0 led).toArray sn) :: (a0, listOf items0.toArray n0) :: (r, fnMade "_law_reader" rdQ (dParams rdS) (dBody rdS) (dScope rdS) [("stop", cs), ("heard", ch)] doc pm c' ctv) :: ((led ++ (add ++ rest)) ++ own)) F8 (News.sub N8 (by kqd_sub))
          (off_cons d2 (off_cons d5 (off_cons (Ne.symm d8) (off_cons (hms vl vlm).2.1 (off_app (off_app (off_map d9) (hms vl vlm).1) (hms vl vlm).2.2))))) (by rw [List.size_toArray, sizeLine_eq]; omega) fun h9 F10 N10 => ?_
        clear F8 N8
        rw [List.push_toArray] at N10
        (try dsimp only)
        repeat' (first | walk1 | (dsimp only; walk1) | (k_unfold; dsimp only [InvPostG]))
        rename Fr _ _ _ _ => F10
        rename News _ _ _ _ => N10
        refine fin (ps' := { ps with md := .str (v ++ [c]) }) (sn' := sn) (n0' := n0) (hs' := hs) (hn' := hn) (vl' := vl) (vs' := vs ++ [.str ⟨#[c]⟩ t]) (vn' := vn + 1) (by simp [step, hmd, hc3, hc4]) hstk hhs hds hpar (fun v2 q => by cases q; rw [sgl_snoc]; exact StrsAre.append' hv (.cons _ _ .nil)) ⟨by kernel_rfl!, by kernel_rfl!, by kernel_rfl!, by kernel_rfl!, by kernel_rfl!, ?_⟩ hnd hoo hor ?_ F10 N10 (by kqd_sub) (by kqd_sub)
        · intro y y1 y2 y3 y4 y5 y6 y7 y8
          simp [FM, y1, y2, y3, y4, y5, y6, y7, y8]
        · intro p hp b hb
          refine hown p hp b ?_
          simp only [List.map_cons, List.mem_cons] at hb ⊢
          grind
    | esc v =>
      rw [hmd] at F6
      dsimp only [mdA] at F6
      have hv := hval v (by rw [hmd]; rfl)
      have hvl : vs.length = v.length := by rw [hv.length]; simp [sgl]
      have hvi := hsm.text v (by rw [hmd]; rfl)
      clear hval
      repeat' (first | walk1 | (dsimp only; walk1))
      rename Fr _ _ _ _ => F8
      rename News _ _ _ _ => N8
      refine appendHd (n := vn) (its := vs.toArray) (rest := (hd, listOf hs.toArray hn) :: (sk, listOf (stkV a0 led).toArray sn) :: (a0, listOf items0.toArray n0) :: (r, fnMade "_law_reader" rdQ (dParams rdS) (dBody rdS) (dScope rdS) [("stop", cs), ("heard", ch)] doc pm c' ctv) :: ((led ++ (add ++ rest)) ++ own)) F8 (News.sub N8 (by kqd_sub))
        (off_cons d2 (off_cons d5 (off_cons (Ne.symm d8) (off_cons (hms vl vlm).2.1 (off_app (off_app (off_map d9) (hms vl vlm).1) (hms vl vlm).2.2))))) (by rw [List.size_toArray, sizeLine_eq]; omega) fun h9 F10 N10 => ?_
      clear F8 N8
      rw [List.push_toArray] at N10
      (try dsimp only)
      repeat' (first | walk1 | (dsimp only; walk1) | (k_unfold; dsimp only [InvPostG]))
      rename Fr _ _ _ _ => F10
      rename News _ _ _ _ => N10
      refine fin (ps' := { ps with md := .str (v ++ [c]) }) (sn' := sn) (n0' := n0) (hs' := hs) (hn' := hn) (vl' := vl) (vs' := vs ++ [.str ⟨#[c]⟩ t]) (vn' := vn + 1) (by simp [step, hmd]) hstk hhs hds hpar (fun v2 q => by cases q; rw [sgl_snoc]; exact StrsAre.append' hv (.cons _ _ .nil)) ⟨by kernel_rfl!, by kernel_rfl!, by kernel_rfl!, by kernel_rfl!, by kernel_rfl!, ?_⟩ hnd hoo hor ?_ F10 N10 (by kqd_sub) (by kqd_sub)
      · intro y y1 y2 y3 y4 y5 y6 y7 y8
        simp [FM, y1, y2, y3, y4, y5, y6, y7, y8]
      · intro p hp b hb
        refine hown p hp b ?_
        simp only [List.map_cons, List.mem_cons] at hb ⊢
        grind
  case done =>
    rintro m₁ nx h tk ⟨ps, hs, hn, sn, vl, vs, vn, a0, items0, n0, ds0, dss, led, add, hrun, hsm, hstk, hhs, hds, hpar, hval, hfr, hnd, hoo, hor, rfl⟩ F6 N6
    have hfull : x.cps.toList.take x.cps.size = x.cps.toList := List.take_of_length_le (by simp)
    rw [hfull] at hrun
    obtain ⟨d, hd1⟩ : ∃ d, ps.stk = [[d]] := by
      rcases hok with ⟨ps', d, e1, e2⟩ | ⟨hh, e1⟩
      · rw [hrun] at e1
        cases e1
        exact ⟨d, e2⟩
      · rw [hrun] at e1
        cases e1
    rw [hstk] at hd1
    cases hd1
    cases hpar
    cases hds with
    | cons hv hnil =>
    cases hnil
    rename_i v
    have hfe := hfr.eq
    generalize m₁ "c" = uc at hfe
    generalize m₁ "a" = ua at hfe
    generalize m₁ "value" = uv at hfe
    rw [hfe] at F6
    unfold FM at F6
    dsimp only
    repeat' (first | walk1 | (dsimp only; walk1) | (k_unfold; dsimp only))
    refine item_listR (items := [v].toArray) (PySem.IsL.isList (n := n0) (N6 _ (.tail _ (.tail _ (.tail _ (.head _))))).1) (by decide) (by decide) rfl ?_
    refine back_ F6 N6 fun F9 N9 => hQ ps d hrun hstk v hs hn add _ _ hv hhs ?_ F9 (News.sub N9 (by kqd_sub))
    intro p hp b hb
    rcases List.mem_cons.mp hb with rfl | hb
    · exact hoo p (List.mem_append.mpr (.inl hp)) b (.head _)
    · exact hor p hp b hb
end Mine

end
section
open PySem PySem.W PySem.Calls PyProof.Rows PySem.Spec
set_option maxRecDepth 100000
set_option maxHeartbeats 4000000
namespace Mine
local macro_rules | `(tactic| walk_at "eval Name") => `(tactic| first
  | (refine' nmB ?S ?F ?D ?_ ?g ?b ?k ?x ?d; (case S => assumption); (case F => assumption); (case D => assumption); (case g => kernel_rfl); (case b => kernel_rfl); (case k => kernel_rfl); (case x => kernel_rfl); (case d => decide +kernel))
  | (refine' nmD ?S ?F ?D ?_ ?g ?k ?x ?d; (case S => assumption); (case F => assumption); (case D => assumption); (case g => kernel_rfl); (case k => kernel_rfl); (case x => kernel_rfl); (case d => decide +kernel))
  | (refine' nmV ?S ?F ?D ?_ ?g ?k ?x ?d; (case S => assumption); (case F => assumption); (case D => assumption); (case g => kernel_rfl); (case k => kernel_rfl); (case x => kernel_rfl); (case d => decide +kernel))
  | (refine' nmCell ?N ?c ?m ?d ?_ ?k ?x ?e; (case N => assumption); (case c => rfl); (case m => k_mem); (case d => assumption); (case k => kernel_rfl); (case x => kernel_rfl!); (case e => decide +kernel))
  | (refine' kcf_cell ?N ?c ?m ?d ?_ ?k ?x ?e; (case N => assumption); (case c => rfl); (case m => k_mem); (case d => assumption); (case k => kernel_rfl); (case x => kernel_rfl!); (case e => decide +kernel)))
local macro_rules | `(tactic| walk_at "callWith ref") => `(tactic| (refine' cwD ?D ?_; (case D => assumption)))
local macro_rules | `(tactic| walk_at "Stood") => `(tactic| exact ⟨_, by assumption⟩)
local macro_rules | `(tactic| walk_at "exec For") => `(tactic| (refine' for_ ?F ?x ?p ?_; (case F => assumption); (case x => kernel_rfl); (case p => kernel_rfl); k_fold))
local macro_rules | `(tactic| walk_at "newList") => `(tactic| (refine' newL ?F ?N ?_ ?z; (case F => assumption); (case N => assumption); (case z => size_fits); (intro _ _ _ _ _)))
local macro_rules | `(tactic| kqd_sub) => `(tactic| (intro p hp; simp only [List.mem_cons, List.mem_append, List.not_mem_nil, or_false, false_or] at hp ⊢; grind))
local macro_rules | `(tactic| walk_at "eval Name") => `(tactic| first
  | (refine' nameX_L ?F ?v ?_ ?k ?x ?d; (case F => assumption); (case v => (with_unfolding_all rfl)); (case k => kernel_rfl); (case x => kernel_rfl!); (case d => decide +kernel))
  | (refine' nmFree ?N ?c ?m ?d ?_ ?k ?x ?e ?f; (case N => assumption); (case c => rfl); (case m => k_mem); (case d => assumption); (case k => kernel_rfl); (case x => kernel_rfl!); (case e => decide +kernel); (case f => decide +kernel)))
local macro_rules | `(tactic| walk_at "eval Name") => `(tactic| (refine' LCgL.ld_own ?N ?m ?c ?x ?_; (case N => assumption); (case m => k_mem); (case c => assumption); (case x => assumption)))
local macro_rules | `(tactic| walk_at "storeName") => `(tactic| (refine' storeX_L ?F ?N ?_ ?k ?x; (case F => assumption); (case N => assumption); (case k => kernel_rfl); (case x => kernel_rfl!); (intro _ _ _)))
local macro_rules | `(tactic| walk_at "eval ListComp") => `(tactic| (refine halt ?_))
local macro_rules | `(tactic| walk_at "newTuple") => `(tactic| (refine' newT ?F ?N ?_ ?z; (case F => assumption); (case N => assumption); (case z => size_fits); (intro _ _ _ _ _)))
local macro_rules | `(tactic| walk_at "call builtin:str.join cons nil") => `(tactic| (refine halt ?_))
local macro_rules | `(tactic| walk_at "call builtin:list.append cons nil") => `(tactic| (refine halt ?_))
local macro_rules | `(tactic| walk_at "call ref cons nil") => `(tactic| (refine halt ?_))
def posOf : Stmt → Pos
  | .FunctionDef _ _ _ _ _ _ _ _ _ p => p
  | _ => ⟨0, 0, 0, 0⟩
/-- a def's table of code objects: without its nested def's, or with it -/
def TabOk (pos : Pos) (qual : Str) (ps : Array Value) (rest : List (Addr × Obj)) : Prop := TriplesOk ps.toList ∧ (codeAmong pos ps.toList = none ∨ ∃ c' oc ws t, codeAmong pos ps.toList = some (.ref c') ∧ (c', oc) ∈ rest ∧ oc.data = .fields ws ∧ ws[1]? = some (.str qual t))
theorem TabOk.mono {pos : Pos} {qual : Str} {ps : Array Value} {rest rest' : List (Addr × Obj)} (h : TabOk pos qual ps rest) (k : ∀ p ∈ rest, p ∈ rest') : TabOk pos qual ps rest' := by
  obtain ⟨h0, h | ⟨c', oc, ws, t, e, h1, h2, h3⟩⟩ := h
  · exact ⟨h0, .inl h⟩
  · exact ⟨h0, .inr ⟨c', oc, ws, t, e, k _ h1, h2, h3⟩⟩
/-- another def's code object changes nothing in the look -/
theorem among_other {pos pos' : Pos} {c : Value} (hne : ¬ (pos'.line = pos.line ∧ pos'.col = pos.col)) (l : List Value) (h : TriplesOk l) :
    codeAmong pos (l ++ [rawInt pos'.line, rawInt pos'.col, c]) = codeAmong pos l := by
  fun_induction TriplesOk l with
  | case1 =>
    simp only [List.nil_append, codeAmong, rawInt]
    rw [if_neg]
    simp only [Bool.and_eq_true, beq_iff_eq]
    omega
  | case2 a t b u x rest ih =>
    simp only [List.cons_append, codeAmong]
    rw [ih h]
  | case3 l h1 h2 => exact h.elim
/-- the table is as it was, or grown by the nested def's -/
def TabUp (pos : Pos) (ps ps' : Array Value) : Prop := ps' = ps ∨ ∃ v, ps' = ps ++ #[rawInt pos.line, rawInt pos.col, v]
theorem TabUp.triples {pos : Pos} {ps ps' : Array Value} (h : TabUp pos ps ps') (k : TriplesOk ps.toList) : TriplesOk ps'.toList := by
  rcases h with rfl | ⟨v, rfl⟩
  · exact k
  · rw [Array.toList_append]
    exact TriplesOk_snoc _ _ _ _ k
theorem TabUp.among {pos pos₂ : Pos} {ps ps' : Array Value} (h : TabUp pos ps ps') (hne : ¬ (pos.line = pos₂.line ∧ pos.col = pos₂.col)) (k : TriplesOk ps.toList) : codeAmong pos₂ ps'.toList = codeAmong pos₂ ps.toList := by
  rcases h with rfl | ⟨v, rfl⟩
  · rfl
  · rw [Array.toList_append]
    exact among_other hne _ k
/-- a call of a def with cells; what stood stands -/
theorem enterCS {w : World} {mg mb : Str → Option Value} {A : Around} {h₀ : Heap} {L : Addr} {s : Shared} {m m₁ cm : Str → Option Value} {news : List (Addr × Obj)} {x : Str} {i : Nat} {f : Addr} {cdv : Value} {vals : List Value} {binds : List (Str × Value)} {cl : Addr → List (Str × Addr)}
    {Q E : Value → Shared → Prop} (S : Sta w mg mb A h₀ L) (F : Fr h₀ L s.heap m) (N : News h₀ L s.heap news) (D : IsDef h₀ mg x i f cdv) (hroom : A.depth < recursionLimit)
    (hbind : ∀ doc pm, bindArgs (fnX x x (dParams (stm i)) (dBody (stm i)) (dScope (stm i)) [] .none .none doc pm none cdv .none) ⟨vals, []⟩ = pure binds)
    (hkind : (binds.all fun y => (dScope (stm i)).names.lookup y.1 == some .local || (dScope (stm i)).names.lookup y.1 == some .cell) = true)
    (hnd : ((cellsFrom 0 (dScope (stm i)).names []).map (·.1)).Nodup)
    (hcl : ∀ L', cellsFrom (L' + 1) (dScope (stm i)).names [] = cl L')
    (hm : ∀ L', bindL (envX x (dScope (stm i)) L' f cdv (cl L')).kindOf binds (fun _ => none) = m₁) (hc : ∀ L', bindC (envX x (dScope (stm i)) L' f cdv (cl L')).kindOf binds (fun _ => none) = cm)
    (h : ∀ g L' h₁ tk cells, (∀ b o, h₀.get? b = some o → g.get? b = some o) → Sta w mg mb (A.deeper (envX x (dScope (stm i)) L' f cdv (cl L'))) g L' → Fr g L' h₁ m₁ → News g L' h₁ (cells ++ news) → CellsAre cm (cl L') cells → (∀ p ∈ news, p.1 < L') →
      wpAny (model prog w) (A.deeper (envX x (dScope (stm i)) L' f cdv (cl L'))) (execs (dBody (stm i)) (envX x (dScope (stm i)) L' f cdv (cl L')))
        (fun fl s' => Back h₀ g L L' m Q (retOf fl) s')
        (fun e s' => wpAny (model prog w) (A.deeper (envX x (dScope (stm i)) L' f cdv (cl L'))) (leaving (envX x (dScope (stm i)) L' f cdv (cl L')) e) (fun _ s'' => E e s'') (fun e' s'' => E e' s'') s')
        { s with heap := h₁, toks := tk })
    (hco : (dScope (stm i)).isCoroutine = false) (hgen : (dScope (stm i)).isGenerator = false) (hk : (dScope (stm i)).kind = .function) :
    wpAny (model prog w) A (call (.ref f) vals) Q E s := by
  obtain ⟨A₀, base, outer, env, bel, hA, hf, hke⟩ := S.bel
  obtain ⟨o, pm, doc, ho, hd⟩ := D.obj
  refine wpAny_call (callX_cells bel F N S.lib.nolimit hA hf hke (F.keep _ _ ho) hd (D.code.keeps F.keep) hroom (.of_eq (hbind doc pm)) (kindsX hkind) hnd (fun g L' h₁ tk cells FG F' N' Y B' st lt => ?_) hco hgen hk)
  have ee : envOfC x (dScope (stm i)) L' f cdv = envX x (dScope (stm i)) L' f cdv (cl L') := by rw [← hcl L']; rfl
  rw [ee, hm L'] at F'
  rw [ee, hc L', hcl L'] at Y
  rw [ee]
  refine wpAny_mono (h g L' h₁ tk cells st ⟨⟨A, base, env :: outer, _, B', Around.frames_deeper hA, rfl, hk⟩, S.hand, S.lib.keeps st⟩ F' N' Y lt) (fun fl s' hl => ?_) fun _ _ e => e
  obtain ⟨m', news', F₁, N₁, k⟩ := hl
  exact ⟨L', m', news', F₁, N₁, k⟩

theorem listener_spec {w : World} {mg mb : Str → Option Value} {A : Around} {h₀ : Heap} {L : Addr} {s : Shared} {m : Str → Option Value} {mid rest : List (Addr × Obj)} {f c P hd : Addr} {stop : Int} {ts : Tok} {ps : Array Value}
    {Q E : Value → Shared → Prop} (S : Sta w mg mb A h₀ L) (F : Fr h₀ L s.heap m) (N : News h₀ L s.heap ((P, tabObj ps) :: (mid ++ rest))) (D : IsDef h₀ mg "_law_listener" 26 f (.ref c)) (C : CodeHd h₀ c P) (hroom : A.depth < recursionLimit) (hoff : ∀ p ∈ mid ++ rest, p.1 ≠ P)
    (hT : TabOk (posOf rdS) rdQ ps rest)
    (hQ : ∀ r add ps' doc pm c' ctv oc ws t ch cs och ocs ts' h' tk2, Rd (add ++ rest) r hd stop doc pm c' ctv oc ws t ch cs och ocs ts' → TabOk (posOf rdS) rdQ ps' (add ++ rest) → TabUp (posOf rdS) ps ps' → OwnOff add (P :: (mid ++ rest).map (·.1)) → Fr h₀ L h' m → News h₀ L h' ((P, tabObj ps') :: (add ++ (mid ++ rest))) → Q (.ref r) { s with heap := h', toks := tk2 }) :
    wpAny (model prog w) A (call (.ref f) [.ref hd, .int stop ts]) Q E s := by
  refine enterCS (binds := [("heard", .ref hd), ("stop", .int stop ts)]) (cl := fun L' => [("stop", L' + 2), ("heard", L' + 1)]) (m₁ := fun _ => none)
    (cm := fun y => if y = "stop" then some (.int stop ts) else if y = "heard" then some (.ref hd) else none) S F N D (by omega) (fun doc pm => by kernel_rfl) (by kernel_rfl) (by decide +kernel) (fun L' => by kernel_rfl) (fun L' => by kernel_rfl) (fun L' => by kernel_rfl)
    (fun g L' h₁ tk0 cells st S' F' N' Y lt => ?_) (by kernel_rfl) (by kernel_rfl) (by kernel_rfl)
  obtain ⟨o1, o2, rfl, d1, d2⟩ := Y.two
  replace d1 : o1.data = .cell (some (.int stop ts)) := d1.trans (by kernel_rfl)
  replace d2 : o2.data = .cell (some (.ref hd)) := d2.trans (by kernel_rfl)
  obtain ⟨loose, mean, T⟩ := S'.lib.T
  replace C := C.keeps st
  clear F N S D
  have ht := hT.1
  refine wpAny_execs_cons ?_
  refine nestDef_K (name := "_law_reader") (params := dParams rdS) (body := dBody rdS) (scope := dScope rdS) (pos := posOf rdS) (by kernel_rfl) (by kernel_rfl) (by kernel_rfl) ?_
  rw [show qualnameIn (envX "_law_listener" (dScope (stm 26)) L' f (.ref c) [(("stop" : Str), L' + 2), (("heard" : Str), L' + 1)]) "_law_reader" "_law_reader" = rdQ by kernel_rfl]
  have hcl : closureFor (dScope rdS) (envX "_law_listener" (dScope (stm 26)) L' f (.ref c) [(("stop" : Str), L' + 2), (("heard" : Str), L' + 1)]) = pure [(("stop" : Str), L' + 2), (("heard" : Str), L' + 1)] := by kernel_rfl
  have hP : P < L' := lt (P, _) (.head _)
  have h1 : L' < L' + 1 := Nat.lt_succ_self L'
  have h2 : L' < L' + 2 := Nat.lt_trans h1 (Nat.lt_succ_self _)
  have hlt : ∀ p ∈ mid ++ rest, p.1 < L' := fun p hp => lt p (.tail _ hp)
  have N1 : News g L' h₁ ((P, tabObj ps) :: (L' + 2, o1) :: (L' + 1, o2) :: (mid ++ rest)) := News.sub N' (by kqd_sub)
  clear N' lt
  have offP : ∀ p ∈ (L' + 2, o1) :: (L' + 1, o2) :: (mid ++ rest), p.1 ≠ P := off_cons (Nat.ne_of_gt (Nat.lt_trans hP h2)) (off_cons (Nat.ne_of_gt (Nat.lt_trans hP h1)) hoff)
  have bigL : ∀ a : Addr, L' < a → ∀ b ∈ P :: (mid ++ rest).map (·.1), a ≠ b := fun a ha b hb => by
    rcases List.mem_cons.mp hb with rfl | hb
    · exact Nat.ne_of_gt (Nat.lt_trans hP ha)
    · obtain ⟨p, hp, rfl⟩ := List.mem_map.mp hb
      exact Nat.ne_of_gt (Nat.lt_trans (hlt p hp) ha)
  rcases hT.2 with hnone | ⟨c', oc, ws, t, hsome, hm, hd1, hv1⟩
  · refine nest_K F' N1 T C rfl (.head offP) ht hnone hcl fun r c' oc ws t ctv doc h4 tk2 F2 N2 hd2 hv2 lt1 lt2 => ?_
    clear F' N1
    have hc1 : L' + 2 < c' := lt1 (L' + 2, o1) (.tail _ (.head _))
    repeat' (first | walk1 | (dsimp only; walk1) | (k_unfold; dsimp only))
    rename Fr _ _ _ _ => F3
    rename News _ _ _ _ => N3
    refine back_ F3 N3 fun F9 N9 => hQ r ((r, fnMade "_law_reader" rdQ (dParams rdS) (dBody rdS) (dScope rdS) [(("stop" : Str), L' + 2), (("heard" : Str), L' + 1)] doc ((mg "__name__").getD .none) c' ctv) :: (c', oc) :: (L' + 2, o1) :: (L' + 1, o2) :: []) _ doc ((mg "__name__").getD .none) c' ctv oc ws t (L' + 1) (L' + 2) o2 o1 ts _ _ ⟨by simp, by simp, hd2, hv2, by simp, d2, by simp, d1⟩ ⟨by rw [Array.toList_append]; exact TriplesOk_snoc _ _ _ _ ht, .inr ⟨c', oc, ws, t, by rw [Array.toList_append]; exact codeAmong_snoc _ ht hnone, by simp, hd2, hv2⟩⟩ (.inr ⟨_, rfl⟩) ?_ F9 (News.sub N9 (by kqd_sub))
    intro p hp b hb
    simp only [List.mem_cons, List.not_mem_nil, or_false] at hp
    rcases hp with rfl | rfl | rfl | rfl
    · exact bigL _ (Nat.lt_trans (Nat.lt_trans h2 hc1) lt2) b hb
    · exact bigL _ (Nat.lt_trans h2 hc1) b hb
    · exact bigL _ h2 b hb
    · exact bigL _ h1 b hb
  · refine nestHit_K F' N1 T C rfl (.head _) ht hsome hcl fun r ctv doc h4 tk2 F2 N2 lt1 => ?_
    clear F' N1
    have hc1 : L' + 2 < r := lt1 (L' + 2, o1) (.tail _ (.head _))
    repeat' (first | walk1 | (dsimp only; walk1) | (k_unfold; dsimp only))
    rename Fr _ _ _ _ => F3
    rename News _ _ _ _ => N3
    refine back_ F3 N3 fun F9 N9 => hQ r ((r, fnMade "_law_reader" rdQ (dParams rdS) (dBody rdS) (dScope rdS) [(("stop" : Str), L' + 2), (("heard" : Str), L' + 1)] doc ((mg "__name__").getD .none) c' ctv) :: (L' + 2, o1) :: (L' + 1, o2) :: []) _ doc ((mg "__name__").getD .none) c' ctv oc ws t (L' + 1) (L' + 2) o2 o1 ts _ _ ⟨by simp, by simp [hm], hd1, hv1, by simp, d2, by simp, d1⟩ ⟨ht, .inr ⟨c', oc, ws, t, hsome, by simp [hm], hd1, hv1⟩⟩ (.inl rfl) ?_ F9 (News.sub N9 (by kqd_sub))
    intro p hp b hb
    simp only [List.mem_cons, List.not_mem_nil, or_false] at hp
    rcases hp with rfl | rfl | rfl
    · exact bigL _ (Nat.lt_trans h2 hc1) b hb
    · exact bigL _ h2 b hb
    · exact bigL _ h1 b hb
end Mine

end
section
open PySem PySem.W PySem.Calls PyProof.Rows PySem.Spec
set_option maxRecDepth 100000
set_option maxHeartbeats 4000000
namespace Mine
local macro_rules | `(tactic| walk_at "eval Name") => `(tactic| first
  | (refine' nmB ?S ?F ?D ?_ ?g ?b ?k ?x ?d; (case S => assumption); (case F => assumption); (case D => assumption); (case g => kernel_rfl); (case b => kernel_rfl); (case k => kernel_rfl); (case x => kernel_rfl); (case d => decide +kernel))
  | (refine' nmD ?S ?F ?D ?_ ?g ?k ?x ?d; (case S => assumption); (case F => assumption); (case D => assumption); (case g => kernel_rfl); (case k => kernel_rfl); (case x => kernel_rfl); (case d => decide +kernel))
  | (refine' nmV ?S ?F ?D ?_ ?g ?k ?x ?d; (case S => assumption); (case F => assumption); (case D => assumption); (case g => kernel_rfl); (case k => kernel_rfl); (case x => kernel_rfl); (case d => decide +kernel))
  | (refine' nmCell ?N ?c ?m ?d ?_ ?k ?x ?e; (case N => assumption); (case c => rfl); (case m => k_mem); (case d => assumption); (case k => kernel_rfl); (case x => kernel_rfl!); (case e => decide +kernel))
  | (refine' kcf_cell ?N ?c ?m ?d ?_ ?k ?x ?e; (case N => assumption); (case c => rfl); (case m => k_mem); (case d => assumption); (case k => kernel_rfl); (case x => kernel_rfl!); (case e => decide +kernel)))
local macro_rules | `(tactic| walk_at "callWith ref") => `(tactic| (refine' cwD ?D ?_; (case D => assumption)))
local macro_rules | `(tactic| walk_at "Stood") => `(tactic| exact ⟨_, by assumption⟩)
local macro_rules | `(tactic| walk_at "exec For") => `(tactic| (refine' for_ ?F ?x ?p ?_; (case F => assumption); (case x => kernel_rfl); (case p => kernel_rfl); k_fold))
local macro_rules | `(tactic| walk_at "newList") => `(tactic| (refine' newL ?F ?N ?_ ?z; (case F => assumption); (case N => assumption); (case z => size_fits); (intro _ _ _ _ _)))
local macro_rules | `(tactic| kqd_sub) => `(tactic| (intro p hp; simp only [List.mem_cons, List.mem_append, List.not_mem_nil, or_false, false_or] at hp ⊢; grind))
local macro_rules | `(tactic| walk_at "eval Name") => `(tactic| first
  | (refine' nameX_L ?F ?v ?_ ?k ?x ?d; (case F => assumption); (case v => (with_unfolding_all rfl)); (case k => kernel_rfl); (case x => kernel_rfl!); (case d => decide +kernel))
  | (refine' nmFree ?N ?c ?m ?d ?_ ?k ?x ?e ?f; (case N => assumption); (case c => rfl); (case m => k_mem); (case d => assumption); (case k => kernel_rfl); (case x => kernel_rfl!); (case e => decide +kernel); (case f => decide +kernel)))
local macro_rules | `(tactic| walk_at "eval Name") => `(tactic| (refine' LCgL.ld_own ?N ?m ?c ?x ?_; (case N => assumption); (case m => k_mem); (case c => assumption); (case x => assumption)))
local macro_rules | `(tactic| walk_at "storeName") => `(tactic| (refine' storeX_L ?F ?N ?_ ?k ?x; (case F => assumption); (case N => assumption); (case k => kernel_rfl); (case x => kernel_rfl!); (intro _ _ _)))
local macro_rules | `(tactic| walk_at "eval ListComp") => `(tactic| (refine halt ?_))
local macro_rules | `(tactic| walk_at "newTuple") => `(tactic| (refine' newT ?F ?N ?_ ?z; (case F => assumption); (case N => assumption); (case z => size_fits); (intro _ _ _ _ _)))
local macro_rules | `(tactic| walk_at "call builtin:str.join cons nil") => `(tactic| (refine halt ?_))
local macro_rules | `(tactic| walk_at "call builtin:list.append cons nil") => `(tactic| (refine halt ?_))
local macro_rules | `(tactic| walk_at "call ref cons nil") => `(tactic| (refine halt ?_))
/-- the def in the wrapper's maker -/
def fnS : Stmt := (dBody (stm 13)).getD 0 (.Pass ⟨0, 0, 0, 0⟩)
def fnQ : Str := "_array_in.<locals>.f"
/-- the wrapper's objects -/
structure Fd (rest : List (Addr × Obj)) (q r : Addr) (doc pm : Value) (c' : Addr) (ctv : Value) (oc : Obj) (ws : Array Value) (t : Tok) (ca : Addr) (oca : Obj) : Prop where
  fn : (q, fnMade "f" fnQ (dParams fnS) (dBody fnS) (dScope fnS) [("adapter", ca)] doc pm c' ctv) ∈ rest
  code : (c', oc) ∈ rest
  codeD : oc.data = .fields ws
  codeN : ws[1]? = some (.str fnQ t)
  ca : (ca, oca) ∈ rest
  caD : oca.data = .cell (some (.ref r))
theorem Fd.mono {rest rest' : List (Addr × Obj)} {q r : Addr} {doc pm : Value} {c' : Addr} {ctv : Value} {oc : Obj} {ws : Array Value} {t : Tok} {ca : Addr} {oca : Obj} (h : Fd rest q r doc pm c' ctv oc ws t ca oca) (k : ∀ p ∈ rest, p ∈ rest') : Fd rest' q r doc pm c' ctv oc ws t ca oca :=
  ⟨k _ h.fn, k _ h.code, h.codeD, h.codeN, k _ h.ca, h.caD⟩
/-- a table without a nested def's code object -/
structure TabNo (pos : Pos) (ps : Array Value) : Prop where
  ok : TriplesOk ps.toList
  no : codeAmong pos ps.toList = none
theorem arrayIn_spec {w : World} {mg mb : Str → Option Value} {A : Around} {h₀ : Heap} {L : Addr} {s : Shared} {m : Str → Option Value} {rest : List (Addr × Obj)} {f c P r : Addr} {ps : Array Value}
    {Q E : Value → Shared → Prop} (S : Sta w mg mb A h₀ L) (F : Fr h₀ L s.heap m) (N : News h₀ L s.heap ((P, tabObj ps) :: rest)) (D : IsDef h₀ mg "_array_in" 13 f (.ref c)) (C : CodeHd h₀ c P) (hroom : A.depth < recursionLimit) (hoff : ∀ p ∈ rest, p.1 ≠ P)
    (hT : TabNo (posOf fnS) ps)
    (hQ : ∀ q add ps' doc pm c' ctv oc ws t ca oca h' tk2, Fd add q r doc pm c' ctv oc ws t ca oca → TabUp (posOf fnS) ps ps' → OwnOff add (P :: rest.map (·.1)) → Fr h₀ L h' m → News h₀ L h' ((P, tabObj ps') :: (add ++ rest)) → Q (.ref q) { s with heap := h', toks := tk2 }) :
    wpAny (model prog w) A (call (.ref f) [.ref r]) Q E s := by
  refine enterCS (binds := [("adapter", .ref r)]) (cl := fun L' => [("adapter", L' + 1)]) (m₁ := fun _ => none)
    (cm := fun y => if y = "adapter" then some (.ref r) else none) S F N D (by omega) (fun doc pm => by kernel_rfl) (by kernel_rfl) (by decide +kernel) (fun L' => by kernel_rfl) (fun L' => by kernel_rfl) (fun L' => by kernel_rfl)
    (fun g L' h₁ tk0 cells st S' F' N' Y lt => ?_) (by kernel_rfl) (by kernel_rfl) (by kernel_rfl)
  obtain ⟨o1, rfl, d1⟩ := Y.one
  replace d1 : o1.data = .cell (some (.ref r)) := d1.trans (by kernel_rfl)
  obtain ⟨loose, mean, T⟩ := S'.lib.T
  replace C := C.keeps st
  clear F N S D
  refine wpAny_execs_cons ?_
  refine nestDef_K (name := "f") (params := dParams fnS) (body := dBody fnS) (scope := dScope fnS) (pos := posOf fnS) (by kernel_rfl) (by kernel_rfl) (by kernel_rfl) ?_
  rw [show qualnameIn (envX "_array_in" (dScope (stm 13)) L' f (.ref c) [(("adapter" : Str), L' + 1)]) "f" "f" = fnQ by kernel_rfl]
  have hcl : closureFor (dScope fnS) (envX "_array_in" (dScope (stm 13)) L' f (.ref c) [(("adapter" : Str), L' + 1)]) = pure [(("adapter" : Str), L' + 1)] := by kernel_rfl
  have hP : P < L' := lt (P, _) (.head _)
  have h1 : L' < L' + 1 := Nat.lt_succ_self L'
  have hlt : ∀ p ∈ rest, p.1 < L' := fun p hp => lt p (.tail _ hp)
  have N1 : News g L' h₁ ((P, tabObj ps) :: (L' + 1, o1) :: rest) := News.sub N' (by kqd_sub)
  clear N' lt
  have offP : ∀ p ∈ (L' + 1, o1) :: rest, p.1 ≠ P := off_cons (Nat.ne_of_gt (Nat.lt_trans hP h1)) hoff
  have bigL : ∀ a : Addr, L' < a → ∀ b ∈ P :: rest.map (·.1), a ≠ b := fun a ha b hb => by
    rcases List.mem_cons.mp hb with rfl | hb
    · exact Nat.ne_of_gt (Nat.lt_trans hP ha)
    · obtain ⟨p, hp, rfl⟩ := List.mem_map.mp hb
      exact Nat.ne_of_gt (Nat.lt_trans (hlt p hp) ha)
  refine nest_K F' N1 T C rfl (.head offP) hT.1 hT.2 hcl fun q c' oc ws t ctv doc h4 tk2 F2 N2 hd2 hv2 lt1 lt2 => ?_
  clear F' N1
  have hc1 : L' + 1 < c' := lt1 (L' + 1, o1) (.tail _ (.head _))
  repeat' (first | walk1 | (dsimp only; walk1) | (k_unfold; dsimp only))
  rename Fr _ _ _ _ => F3
  rename News _ _ _ _ => N3
  refine back_ F3 N3 fun F9 N9 => hQ q ((q, fnMade "f" fnQ (dParams fnS) (dBody fnS) (dScope fnS) [(("adapter" : Str), L' + 1)] doc ((mg "__name__").getD .none) c' ctv) :: (c', oc) :: (L' + 1, o1) :: []) (ps ++ #[rawInt (posOf fnS).line, rawInt (posOf fnS).col, .ref c']) doc ((mg "__name__").getD .none) c' ctv oc ws t (L' + 1) o1 _ _ ⟨by simp, by simp, hd2, hv2, by simp, d1⟩ (.inr ⟨_, rfl⟩) ?_ F9 (News.sub N9 (by kqd_sub))
  intro p hp b hb
  simp only [List.mem_cons, List.not_mem_nil, or_false] at hp
  rcases hp with rfl | rfl | rfl
  · exact bigL _ (Nat.lt_trans (Nat.lt_trans h1 hc1) lt2) b hb
  · exact bigL _ (Nat.lt_trans h1 hc1) b hb
  · exact bigL _ h1 b hb
end Mine

end
section
open PySem PySem.W PySem.Calls PyProof.Rows PySem.Spec
set_option maxRecDepth 100000
set_option maxHeartbeats 4000000
namespace Mine
local macro_rules | `(tactic| walk_at "eval Name") => `(tactic| first
  | (refine' nmB ?S ?F ?D ?_ ?g ?b ?k ?x ?d; (case S => assumption); (case F => assumption); (case D => assumption); (case g => kernel_rfl); (case b => kernel_rfl); (case k => kernel_rfl); (case x => kernel_rfl); (case d => decide +kernel))
  | (refine' nmD ?S ?F ?D ?_ ?g ?k ?x ?d; (case S => assumption); (case F => assumption); (case D => assumption); (case g => kernel_rfl); (case k => kernel_rfl); (case x => kernel_rfl); (case d => decide +kernel))
  | (refine' nmV ?S ?F ?D ?_ ?g ?k ?x ?d; (case S => assumption); (case F => assumption); (case D => assumption); (case g => kernel_rfl); (case k => kernel_rfl); (case x => kernel_rfl); (case d => decide +kernel))
  | (refine' nmCell ?N ?c ?m ?d ?_ ?k ?x ?e; (case N => assumption); (case c => rfl); (case m => k_mem); (case d => assumption); (case k => kernel_rfl); (case x => kernel_rfl!); (case e => decide +kernel))
  | (refine' kcf_cell ?N ?c ?m ?d ?_ ?k ?x ?e; (case N => assumption); (case c => rfl); (case m => k_mem); (case d => assumption); (case k => kernel_rfl); (case x => kernel_rfl!); (case e => decide +kernel)))
local macro_rules | `(tactic| walk_at "callWith ref") => `(tactic| (refine' cwD ?D ?_; (case D => assumption)))
local macro_rules | `(tactic| walk_at "Stood") => `(tactic| exact ⟨_, by assumption⟩)
local macro_rules | `(tactic| walk_at "exec For") => `(tactic| (refine' for_ ?F ?x ?p ?_; (case F => assumption); (case x => kernel_rfl); (case p => kernel_rfl); k_fold))
local macro_rules | `(tactic| walk_at "newList") => `(tactic| (refine' newL ?F ?N ?_ ?z; (case F => assumption); (case N => assumption); (case z => size_fits); (intro _ _ _ _ _)))
local macro_rules | `(tactic| kqd_sub) => `(tactic| (intro p hp; simp only [List.mem_cons, List.mem_append, List.not_mem_nil, or_false, false_or] at hp ⊢; grind))
local macro_rules | `(tactic| walk_at "eval Name") => `(tactic| first
  | (refine' nameX_L ?F ?v ?_ ?k ?x ?d; (case F => assumption); (case v => (with_unfolding_all rfl)); (case k => kernel_rfl); (case x => kernel_rfl!); (case d => decide +kernel))
  | (refine' nmFree ?N ?c ?m ?d ?_ ?k ?x ?e ?f; (case N => assumption); (case c => rfl); (case m => k_mem); (case d => assumption); (case k => kernel_rfl); (case x => kernel_rfl!); (case e => decide +kernel); (case f => decide +kernel)))
local macro_rules | `(tactic| walk_at "eval Name") => `(tactic| (refine' LCgL.ld_own ?N ?m ?c ?x ?_; (case N => assumption); (case m => k_mem); (case c => assumption); (case x => assumption)))
local macro_rules | `(tactic| walk_at "storeName") => `(tactic| (refine' storeX_L ?F ?N ?_ ?k ?x; (case F => assumption); (case N => assumption); (case k => kernel_rfl); (case x => kernel_rfl!); (intro _ _ _)))
local macro_rules | `(tactic| walk_at "eval ListComp") => `(tactic| (refine halt ?_))
local macro_rules | `(tactic| walk_at "newTuple") => `(tactic| (refine' newT ?F ?N ?_ ?z; (case F => assumption); (case N => assumption); (case z => size_fits); (intro _ _ _ _ _)))
local macro_rules | `(tactic| walk_at "call builtin:str.join cons nil") => `(tactic| (refine halt ?_))
local macro_rules | `(tactic| walk_at "call builtin:list.append cons nil") => `(tactic| (refine halt ?_))
local macro_rules | `(tactic| walk_at "call ref cons nil") => `(tactic| (refine halt ?_))
theorem f_spec {w : World} {mg mb : Str → Option Value} {A₀ A : Around} {base h₀ : Heap} {outer : List Env} {env : Env} {L : Addr} {s : Shared} {m : Str → Option Value} {rest : List (Addr × Obj)} {q r hd : Addr} {doc pm : Value} {c' : Addr} {ctv : Value} {oc : Obj} {ws : Array Value} {t : Tok} {ch cs : Addr} {och ocs : Obj} {ts : Tok} {hn : Nat} {x : PySem.Str} {tx : Tok}
    {fdoc fpm : Value} {fc' : Addr} {fctv : Value} {foc : Obj} {fws : Array Value} {ft : Tok} {ca : Addr} {oca : Obj}
    {Q E : Value → Shared → Prop} (S : Sta w mg mb A h₀ L) (K : Below A₀ base outer h₀) (hA : A.frames = some (env :: outer)) (hf : env.frame = some L) (hke : env.scope.kind = .function) (F : Fr h₀ L s.heap m) (N : News h₀ L s.heap ((hd, listOf #[] hn) :: rest))
    (Y : Fd rest q r fdoc fpm fc' fctv foc fws ft ca oca) (R : Rd rest r hd ((0 : Nat) : Int) doc pm c' ctv oc ws t ch cs och ocs ts) (hroom : A.depth + 4 < recursionLimit) (hu : A.units + 60 < cLine) (hoff : ∀ p ∈ rest, p.1 ≠ hd) (hx : x.length ≤ 2000)
    (hok : ∃ ps d, run 0 x.cps.toList ⟨.out, [[]], []⟩ = .ok ps ∧ ps.stk = [[d]])
    (hQ : ∀ ps d, run 0 x.cps.toList ⟨.out, [[]], []⟩ = .ok ps → ps.stk = [[d]] → ∀ v hs' hn' add h' tk2, DatIn add v d → DatAll [] hs' (lT ps.heard) → OwnOff add (hd :: rest.map (·.1)) → Fr h₀ L h' m → News h₀ L h' ((hd, listOf hs'.toArray hn') :: (add ++ rest)) → Q v { s with heap := h', toks := tk2 }) :
    wpAny (model prog w) A (call (.ref q) [.str x tx]) Q E s := by
  refine wpAny_call (callX_plain (binds := [("data", .str x tx)]) K F N S.lib.nolimit hA hf hke (N _ (.tail _ Y.fn)).1 rfl (codeRec_news N (.tail _ Y.code) Y.codeD Y.codeN) (by omega) (.of_eq (by kernel_rfl)) (locs (by kernel_rfl)) (fun g L' h₁ FG F' N' B' st lt => ?_) (by decide +kernel) (by kernel_rfl) (by kernel_rfl) (by kernel_rfl))
  have lib := S.lib.keeps st
  obtain ⟨y1, y2, y3, y4, y5, y6⟩ := Y
  have S' : Sta w mg mb (A.deeper (envX fnQ (dScope fnS) L' q (.ref fc') [("adapter", ca)])) g L' := ⟨⟨A, base, env :: outer, _, B', Around.frames_deeper hA, rfl, by kernel_rfl⟩, S.hand, lib⟩
  have N2 : News g L' h₁ ((hd, listOf #[] hn) :: (ca, oca) :: rest) := News.sub N' (by
    intro p hp
    simp only [List.mem_cons] at hp ⊢
    rcases hp with hp | rfl | hp
    · exact .inl hp
    · exact .inr y5
    · exact .inr hp)
  clear N'
  obtain ⟨fp, cp, DP⟩ := lib.parse
  refine wpAny_execs_cons ?_
  clear F N S
  w_on
  k_unmd
  k_fold
  repeat' (first | walk1 | (dsimp only; walk1) | (k_unfold; dsimp only))
  rename Fr _ _ _ _ => F3
  rename News _ _ _ _ => N3
  refine parse_spec (hd := hd) (hn := hn) (rest := rest) S' B' (Around.frames_deeper hA) rfl (by kernel_rfl) F3 (News.sub N3 (by kqd_sub)) DP R (by show A.depth + 1 + 2 < _; omega) (by show A.units + 3 + 40 < _; omega) hoff (by omega) hx (.inl hok) (fun ps d hrun hstk v hs' hn' add h4 tk4 hv hhs hof F4 N4 => ?_) (fun hh hrun => ?_)
  · k_unfold
    refine ⟨_, _, _, F4, N4, fun F9 N9 => hQ ps d hrun hstk v hs' hn' add _ _ hv hhs hof F9 N9⟩
  · obtain ⟨ps, d, e1, _⟩ := hok
    rw [hrun] at e1
    cases e1

/-- a call from the law's own frame, of a def that catches -/
theorem enterS0 {w : World} {mg mb : Str → Option Value} {A₀ A : Around} {base h₀ : Heap} {L a : Addr} {cn : Str} {csc : Scope} {ccd : Value} {s : Shared} {m : Str → Option Value} {news : List (Addr × Obj)} {x : Str} {i : Nat} {f : Addr} {cdv : Value} {vals : List Value} {binds : List (Str × Value)}
    {Q E : Value → Shared → Prop} (lib : Lib w mg mb h₀) (B : Below A₀ base [] h₀) (hA : A.frames = some [envOf cn csc L a ccd]) (hck : csc.kind = .function) (F : Fr h₀ L s.heap m) (N : News h₀ L s.heap news) (D : IsDef h₀ mg x i f cdv) (hroom : A.depth < recursionLimit)
    (hbind : ∀ doc pm, bindArgs (fnX x x (dParams (stm i)) (dBody (stm i)) (dScope (stm i)) [] .none .none doc pm none cdv .none) ⟨vals, []⟩ = pure binds)
    (hloc : ∀ y ∈ binds, (dScope (stm i)).names.lookup y.1 = some .local)
    (h : ∀ g L' h₁, Lib w mg mb g → Fr h₀ L g m → Fr g L' h₁ (fun y => binds.reverse.lookup y) → News g L' h₁ news → Below A base [envOf cn csc L a ccd] g →
      wpAny (model prog w) (A.deeper (envOf x (dScope (stm i)) L' f cdv)) (execs (dBody (stm i)) (envOf x (dScope (stm i)) L' f cdv))
        (fun fl s' => ∃ g' L'' m' news', KtsTurn ([envOf cn csc L a ccd].filterMap (·.frame)) g g' ∧ Fr g' L'' s'.heap m' ∧ News g' L'' s'.heap news' ∧ (Fr h₀ L s'.heap m → News h₀ L s'.heap news' → Q (retOf fl) s'))
        (fun e s' => wpAny (model prog w) (A.deeper (envOf x (dScope (stm i)) L' f cdv)) (leaving (envOf x (dScope (stm i)) L' f cdv) e) (fun _ s'' => E e s'') (fun e' s'' => E e' s'') s')
        { s with heap := h₁, toks := s.toks + binds.length })
    (hcell : ∀ x ∈ (dScope (stm i)).names, x.2 ≠ .cell) (hco : (dScope (stm i)).isCoroutine = false) (hgen : (dScope (stm i)).isGenerator = false) (hk : (dScope (stm i)).kind = .function) :
    wpAny (model prog w) A (call (.ref f) vals) Q E s := by
  obtain ⟨⟨c0, d0, dt, sl0⟩, pm, doc, ho, hd⟩ := D.obj
  obtain ⟨c, oc, vs, t, rfl, hc, hcd, hcv⟩ := D.code
  obtain ⟨c1, d1, dt1, sl1⟩ := oc
  cases hd
  cases hcd
  obtain ⟨loose, mean, T⟩ := lib.T
  have hne : c ≠ f := fun e => by
    rw [e, ho] at hc
    cases hc
  have X : Frag.In [(f, ⟨c0, d0, .func (fnX x x (dParams (stm i)) (dBody (stm i)) (dScope (stm i)) [] .none .none doc pm none (.ref c) .none), sl0⟩), (c, ⟨c1, d1, .fields vs, sl1⟩)] h₀ := by
    intro b o e
    by_cases h1 : b = f
    · subst h1
      rw [List.lookup_cons, beq_self_eq_true] at e
      cases e
      exact ho
    · rw [List.lookup_cons, beq_eq_false_iff_ne.mpr h1] at e
      by_cases h2 : b = c
      · subst h2
        rw [List.lookup_cons, beq_self_eq_true] at e
        cases e
        exact hc
      · simp only [List.lookup_cons, beq_eq_false_iff_ne.mpr h2, List.lookup_nil] at e
        cases e
  have hcode : codeIn [(f, ⟨c0, d0, .func (fnX x x (dParams (stm i)) (dBody (stm i)) (dScope (stm i)) [] .none .none doc pm none (.ref c) .none), sl0⟩), (c, (⟨c1, d1, .fields vs, sl1⟩ : Obj))] (.ref c) x = true := by
    obtain ⟨l⟩ := vs
    rcases l with _ | ⟨v0, _ | ⟨v1, l⟩⟩
    · cases hcv
    · cases hcv
    · have e : v1 = .str x t := by simpa using hcv
      subst e
      simp [codeIn, List.lookup_cons, beq_eq_false_iff_ne.mpr hne]
  refine wpAny_call (code_defS0 B F X N T hA (by rw [List.lookup_cons, beq_self_eq_true]) hcode hroom (.of_eq (hbind doc pm)) hloc (fun g L' h₁ FG F' N' B' XG TG _ => ?_) hck hco hgen hk hcell)
  refine wpAny_mono (h g L' h₁ (lib.keeps FG.keep) FG F' N' B') (fun fl s' hl => ?_) fun _ _ e => e
  obtain ⟨g', L'', m', news', T', F₁, N₁, k⟩ := hl
  exact ⟨g', L'', m', news', T', F₁, N₁, k⟩

theorem stopped_spec {w : World} {mg mb : Str → Option Value} {A₀ A : Around} {base h₀ : Heap} {L a : Addr} {cn : Str} {csc : Scope} {ccd : Value} {s : Shared} {m : Str → Option Value} {rest : List (Addr × Obj)} {f : Addr} {cdv : Value} {r hd : Addr} {stop : Nat} {doc pm : Value} {c' : Addr} {ctv : Value} {oc : Obj} {ws : Array Value} {t : Tok} {ch cs : Addr} {och ocs : Obj} {ts : Tok} {hn : Nat} {x : PySem.Str} {tx : Tok}
    {Q E : Value → Shared → Prop} (lib : Lib w mg mb h₀) (hand : A.handled = none) (B : Below A₀ base [] h₀) (hA : A.frames = some [envOf cn csc L a ccd]) (hck : csc.kind = .function) (hgB : base.Ns mainGlobals mg) (hbB : base.Ns builtinsNs mb) (F : Fr h₀ L s.heap m) (N : News h₀ L s.heap ((hd, listOf #[] hn) :: rest))
    (D : IsDef h₀ mg "_law_stopped" 27 f cdv) (R : Rd rest r hd (stop : Int) doc pm c' ctv oc ws t ch cs och ocs ts) (hroom : A.depth + 4 < recursionLimit) (hu : A.units + 60 < cLine) (hoff : ∀ p ∈ rest, p.1 ≠ hd) (hst : stop ≤ 100) (hx : x.length ≤ 2000)
    (hok : (∃ ps d, run stop x.cps.toList ⟨.out, [[]], []⟩ = .ok ps ∧ ps.stk = [[d]]) ∨ ∃ hh, run stop x.cps.toList ⟨.out, [[]], []⟩ = .refused hh)
    (hQ : ∀ ps d, run stop x.cps.toList ⟨.out, [[]], []⟩ = .ok ps → ps.stk = [[d]] → ∀ v hs' hn' add h' tk2, DatIn add v d → DatAll [] hs' (lT ps.heard) → OwnOff add (hd :: rest.map (·.1)) → Fr h₀ L h' m → News h₀ L h' ((hd, listOf hs'.toArray hn') :: (add ++ rest)) → Q v { s with heap := h', toks := tk2 })
    (hR : ∀ hh, run stop x.cps.toList ⟨.out, [[]], []⟩ = .refused hh → ∀ tr hs' hn' h' tk2, DatAll [] hs' (lT hh) → Fr h₀ L h' m → News h₀ L h' ((hd, listOf hs'.toArray hn') :: rest) → Q (.str (Str.ofString "refused") tr) { s with heap := h', toks := tk2 }) :
    wpAny (model prog w) A (call (.ref f) [.str x tx, .ref r]) Q E s := by
  refine enterS0 (binds := [("text", .str x tx), ("reader", .ref r)]) lib B hA hck F N D (by omega) (fun doc pm => by kernel_rfl) (locs (by kernel_rfl)) (fun g L' h₁ lib' FG F' N' B' => ?_) (by decide +kernel) (by kernel_rfl) (by kernel_rfl) (by kernel_rfl)
  have S' : Sta w mg mb (A.deeper (envOf "_law_stopped" (dScope (stm 27)) L' f cdv)) g L' := ⟨⟨A, base, [envOf cn csc L a ccd], _, B', Around.frames_deeper hA, rfl, by kernel_rfl⟩, hand, lib'⟩
  have hVE := lib'.valueError
  obtain ⟨fp, cp, DP⟩ := lib'.parse
  refine wpAny_execs_cons ?_
  refine wpAny_Try_except ?_
  clear F N D lib
  w_on
  k_unmd
  k_fold
  repeat' (first | walk1 | (dsimp only; walk1) | (k_unfold; dsimp only))
  rename Fr _ _ _ _ => F3
  rename News _ _ _ _ => N3
  refine parse_spec (hd := hd) (hn := hn) (rest := rest) S' B' (Around.frames_deeper hA) rfl (by kernel_rfl) F3 (News.sub N3 (by kqd_sub)) DP R (by show A.depth + 1 + 2 < _; omega) (by show A.units + 3 + 40 < _; omega) hoff (by omega) hx hok (fun ps d hrun hstk v hs' hn' add h4 tk4 hv hhs hof F4 N4 => ?_) (fun hh hrun e G hs' hn' h4 tk4 hda FG4 R4 U4 => ?_)
  · k_unfold
    exact ⟨g, L', _, _, KtsTurn.refl, F4, N4, fun F9 N9 => hQ ps d hrun hstk v hs' hn' add _ _ hv hhs hof F9 N9⟩
  · k_unfold
    refine fly_caught R4 FG4 B' U4 hgB hbB hVE (fun h6 g6 T6 F6 N6 => ?_) (by kernel_rfl) (by kernel_rfl)
    repeat' ((with_reducible show wpAny _ _ _ _ _ _); walk1)
    exact ⟨g6, L', _, _, T6, F6, N6, fun F9 N9 => hR hh hrun _ hs' hn' _ _ hda F9 N9⟩
end Mine

end
section
open PySem PySem.W PySem.Calls PyProof.Rows PySem.Spec
set_option maxRecDepth 100000
set_option maxHeartbeats 4000000
namespace Mine
/-- the two tables, be they two or one -/
def Tabs (P1 P2 : Addr) (fresh : Bool) (tl rest : List (Addr × Obj)) : Prop := ∃ ps1 ps2, TabOk (posOf rdS) rdQ ps1 rest ∧ TriplesOk ps2.toList ∧ (fresh = true → codeAmong (posOf fnS) ps2.toList = none) ∧
  ((tl = [(P1, tabObj ps1), (P2, tabObj ps2)] ∧ P1 ≠ P2) ∨ (tl = [(P1, tabObj ps1)] ∧ P1 = P2 ∧ ps1 = ps2))
theorem Tabs.mono {P1 P2 : Addr} {fresh : Bool} {tl rest rest' : List (Addr × Obj)} (h : Tabs P1 P2 fresh tl rest) (k : ∀ p ∈ rest, p ∈ rest') : Tabs P1 P2 fresh tl rest' :=
  let ⟨ps1, ps2, h1, h2, h3, h4⟩ := h; ⟨ps1, ps2, h1.mono k, h2, h3, h4⟩
theorem Tabs.mem {P1 P2 : Addr} {fresh : Bool} {tl rest : List (Addr × Obj)} (h : Tabs P1 P2 fresh tl rest) : ∀ p ∈ tl, p.1 = P1 ∨ p.1 = P2 := by
  obtain ⟨ps1, ps2, _, _, _, ⟨rfl, _⟩ | ⟨rfl, _, _⟩⟩ := h
  · intro p hp
    simp only [List.mem_cons, List.not_mem_nil, or_false] at hp
    rcases hp with rfl | rfl
    · exact .inl rfl
    · exact .inr rfl
  · intro p hp
    simp only [List.mem_cons, List.not_mem_nil, or_false] at hp
    subst hp
    exact .inl rfl
theorem Tabs.left {P1 P2 : Addr} {fresh : Bool} {tl rest : List (Addr × Obj)} (h : Tabs P1 P2 fresh tl rest) : ∃ ps, (P1, tabObj ps) ∈ tl := by
  obtain ⟨ps1, ps2, _, _, _, ⟨rfl, _⟩ | ⟨rfl, _, _⟩⟩ := h
  · exact ⟨ps1, .head _⟩
  · exact ⟨ps1, .head _⟩
theorem Tabs.right {P1 P2 : Addr} {fresh : Bool} {tl rest : List (Addr × Obj)} (h : Tabs P1 P2 fresh tl rest) : ∃ ps, (P2, tabObj ps) ∈ tl := by
  obtain ⟨ps1, ps2, _, _, _, ⟨rfl, _⟩ | ⟨rfl, rfl, _⟩⟩ := h
  · exact ⟨ps2, .tail _ (.head _)⟩
  · exact ⟨ps1, .head _⟩
theorem poss : ¬ ((posOf rdS).line = (posOf fnS).line ∧ (posOf rdS).col = (posOf fnS).col) := by decide +kernel
theorem poss' : ¬ ((posOf fnS).line = (posOf rdS).line ∧ (posOf fnS).col = (posOf rdS).col) := by decide +kernel

theorem TabOk.up {pos pos₂ : Pos} {qual : Str} {ps ps' : Array Value} {rest : List (Addr × Obj)} (h : TabOk pos qual ps rest) (hU : TabUp pos₂ ps ps') (hne : ¬ (pos₂.line = pos.line ∧ pos₂.col = pos.col)) : TabOk pos qual ps' rest := by
  obtain ⟨h0, h⟩ := h
  refine ⟨hU.triples h0, ?_⟩
  rw [hU.among hne h0]
  exact h
theorem tabs_listener {w : World} {mg mb : Str → Option Value} {A : Around} {h₀ : Heap} {L : Addr} {s : Shared} {m : Str → Option Value} {tl mid rest : List (Addr × Obj)} {f c P1 P2 hd : Addr} {stop : Int} {ts : Tok} {fresh : Bool}
    {Q E : Value → Shared → Prop} (S : Sta w mg mb A h₀ L) (F : Fr h₀ L s.heap m) (N : News h₀ L s.heap (tl ++ (mid ++ rest))) (D : IsDef h₀ mg "_law_listener" 26 f (.ref c)) (C : CodeHd h₀ c P1) (hroom : A.depth < recursionLimit) (hoff : ∀ p ∈ mid ++ rest, p.1 ≠ P1 ∧ p.1 ≠ P2)
    (hT : Tabs P1 P2 fresh tl rest)
    (hQ : ∀ r add tl' doc pm c' ctv oc ws t ch cs och ocs ts' h' tk2, Rd (add ++ rest) r hd stop doc pm c' ctv oc ws t ch cs och ocs ts' → Tabs P1 P2 fresh tl' (add ++ rest) → OwnOff add (P1 :: P2 :: (mid ++ rest).map (·.1)) → Fr h₀ L h' m → News h₀ L h' (tl' ++ (add ++ (mid ++ rest))) → Q (.ref r) { s with heap := h', toks := tk2 }) :
    wpAny (model prog w) A (call (.ref f) [.ref hd, .int stop ts]) Q E s := by
  obtain ⟨ps1, ps2, h1, h2, h3, ⟨rfl, hne⟩ | ⟨rfl, rfl, rfl⟩⟩ := hT
  · refine listener_spec (mid := (P2, tabObj ps2) :: mid) S F N D C hroom ?_ h1 (fun r add ps' doc pm c' ctv oc ws t ch cs och ocs ts' h' tk2 hR hT hU hO F9 N9 => ?_)
    · intro p hp
      rcases List.mem_cons.mp hp with rfl | hp
      · exact Ne.symm hne
      · exact (hoff p hp).1
    · refine hQ r add [(P1, tabObj ps'), (P2, tabObj ps2)] doc pm c' ctv oc ws t ch cs och ocs ts' h' tk2 hR ⟨ps', ps2, hT, h2, h3, .inl ⟨rfl, hne⟩⟩ ?_ F9 (News.sub N9 (by intro p hp; simp only [List.mem_cons, List.mem_append, List.not_mem_nil, or_false, false_or] at hp ⊢; grind))
      intro p hp b hb
      refine hO p hp b ?_
      simpa using hb
  · refine listener_spec (mid := mid) S F N D C hroom (fun p hp => (hoff p hp).1) h1 (fun r add ps' doc pm c' ctv oc ws t ch cs och ocs ts' h' tk2 hR hT hU hO F9 N9 => ?_)
    refine hQ r add [(P1, tabObj ps')] doc pm c' ctv oc ws t ch cs och ocs ts' h' tk2 hR ⟨ps', ps', hT, hU.triples h2, fun e => (hU.among poss h2).trans (h3 e), .inr ⟨rfl, rfl, rfl⟩⟩ ?_ F9 N9
    intro p hp b hb
    refine hO p hp b ?_
    simpa using hb

theorem tabs_arrayIn {w : World} {mg mb : Str → Option Value} {A : Around} {h₀ : Heap} {L : Addr} {s : Shared} {m : Str → Option Value} {tl mid rest : List (Addr × Obj)} {f c P1 P2 r : Addr}
    {Q E : Value → Shared → Prop} (S : Sta w mg mb A h₀ L) (F : Fr h₀ L s.heap m) (N : News h₀ L s.heap (tl ++ (mid ++ rest))) (D : IsDef h₀ mg "_array_in" 13 f (.ref c)) (C : CodeHd h₀ c P2) (hroom : A.depth < recursionLimit) (hoff : ∀ p ∈ mid ++ rest, p.1 ≠ P1 ∧ p.1 ≠ P2)
    (hT : Tabs P1 P2 true tl rest)
    (hQ : ∀ q add tl' doc pm c' ctv oc ws t ca oca h' tk2, Fd add q r doc pm c' ctv oc ws t ca oca → Tabs P1 P2 false tl' (add ++ rest) → OwnOff add (P1 :: P2 :: (mid ++ rest).map (·.1)) → Fr h₀ L h' m → News h₀ L h' (tl' ++ (add ++ (mid ++ rest))) → Q (.ref q) { s with heap := h', toks := tk2 }) :
    wpAny (model prog w) A (call (.ref f) [.ref r]) Q E s := by
  obtain ⟨ps1, ps2, h1, h2, h3, ⟨rfl, hne⟩ | ⟨rfl, rfl, rfl⟩⟩ := hT
  · refine arrayIn_spec (ps := ps2) (rest := (P1, tabObj ps1) :: (mid ++ rest)) S F (News.sub N (by intro p hp; simp only [List.mem_cons, List.mem_append, List.not_mem_nil, or_false, false_or] at hp ⊢; grind)) D C hroom ?_ ⟨h2, h3 rfl⟩ (fun q add ps' doc pm c' ctv oc ws t ca oca h' tk2 hF hU hO F9 N9 => ?_)
    · intro p hp
      rcases List.mem_cons.mp hp with rfl | hp
      · exact hne
      · exact (hoff p hp).2
    · refine hQ q add [(P1, tabObj ps1), (P2, tabObj ps')] doc pm c' ctv oc ws t ca oca h' tk2 hF ⟨ps1, ps', h1.mono (fun p hp => List.mem_append.mpr (.inr hp)), hU.triples h2, (fun e => nomatch e), .inl ⟨rfl, hne⟩⟩ ?_ F9 (News.sub N9 (by intro p hp; simp only [List.mem_cons, List.mem_append, List.not_mem_nil, or_false, false_or] at hp ⊢; grind))
      intro p hp b hb
      refine hO p hp b ?_
      simp only [List.map_cons, List.mem_cons] at hb ⊢
      grind
  · refine arrayIn_spec (ps := ps1) (rest := mid ++ rest) S F N D C hroom (fun p hp => (hoff p hp).2) ⟨h2, h3 rfl⟩ (fun q add ps' doc pm c' ctv oc ws t ca oca h' tk2 hF hU hO F9 N9 => ?_)
    refine hQ q add [(P1, tabObj ps')] doc pm c' ctv oc ws t ca oca h' tk2 hF ⟨ps', ps', (h1.up hU poss').mono (fun p hp => List.mem_append.mpr (.inr hp)), hU.triples h2, (fun e => nomatch e), .inr ⟨rfl, rfl, rfl⟩⟩ ?_ F9 N9
    intro p hp b hb
    refine hO p hp b ?_
    simp only [List.mem_cons] at hb ⊢
    grind
end Mine

end
section
open PySem PySem.W PySem.Calls PyProof.Rows PySem.Spec
set_option maxRecDepth 100000
set_option maxHeartbeats 4000000
namespace Mine
theorem mkS_ok {s : List Nat} (h : OkT s) : PyData.strOk (mkS s) = true := by
  show (mkS s).cps.all (· < 0x110000) = true
  rw [Array.all_eq_true_iff_forall_mem]
  intro c hc
  have : c ∈ s := by simpa [mkS] using hc
  have := h.2 c this
  simp only [decide_eq_true_eq]
  omega
mutual
theorem mk_ok : ∀ (n k : Nat) (t : Tr) (h : List (List Nat)), n < k → OkN n t → kqdOk k (mk t h).1 = true
  | n, k, .nul, h, _, _ => by cases k <;> rfl
  | n, 0, .leaf s, h, hk, _ => by omega
  | n, k + 1, .leaf s, h, hk, o => by
    have o' : OkT s := by cases n <;> exact o
    show (([.int _, .str (mkS s)] : List Dat).all (kqdOk k)) = true
    have e1 : ∀ i : Int, kqdOk k (.int i) = true := fun i => by cases k <;> rfl
    have e2 : kqdOk k (.str (mkS s)) = true := by
      have : kqdOk k (.str (mkS s)) = PyData.strOk (mkS s) := by cases k <;> rfl
      rw [this]; exact mkS_ok o'
    simp [e1, e2]
  | 0, k, .node ts, h, hk, o => by exact absurd o (by simp [OkN])
  | n + 1, 0, .node ts, h, hk, o => by omega
  | n + 1, k + 1, .node ts, h, hk, o => by
    show ((mks ts h).1.all (kqdOk k)) = true
    exact List.all_eq_true.mpr (mks_ok n k ts h (by omega) o.2)
theorem mks_ok : ∀ (n k : Nat) (ts : List Tr) (h : List (List Nat)), n < k → (∀ t ∈ ts, OkN n t) → ∀ d ∈ (mks ts h).1, kqdOk k d = true
  | n, k, [], h, _, _ => fun d hd => nomatch hd
  | n, k, t :: ts, h, hk, o => by
    intro d hd
    simp only [mks] at hd
    rcases List.mem_cons.mp hd with rfl | hd
    · exact mk_ok n k t h hk (o t (.head _))
    · exact mks_ok n k ts _ hk (fun x hx => o x (.tail _ hx)) d hd
end
mutual
theorem leaves_ok : ∀ (n : Nat) (t : Tr), OkN n t → ∀ s ∈ leaves t, OkT s
  | n, .nul, _ => fun s hs => nomatch hs
  | n, .leaf z, o => fun s hs => by
    have o' : OkT z := by cases n <;> exact o
    rw [List.mem_singleton.mp hs]; exact o'
  | 0, .node ts, o => by exact absurd o (by simp [OkN])
  | n + 1, .node ts, o => leavess_ok n ts o.2
theorem leavess_ok : ∀ (n : Nat) (ts : List Tr), (∀ t ∈ ts, OkN n t) → ∀ s ∈ leavess ts, OkT s
  | n, [], _ => fun s hs => nomatch hs
  | n, t :: ts, o => fun s hs => by
    rcases List.mem_append.mp hs with hs | hs
    · exact leaves_ok n t (o t (.head _)) s hs
    · exact leavess_ok n ts (fun x hx => o x (.tail _ hx)) s hs
end
theorem lT_ok {l : List (List Nat)} (h : ∀ s ∈ l, OkT s) : ∀ d ∈ lT l, kqdOk 8 d = true := by
  intro d hd
  obtain ⟨s, hs, rfl⟩ := List.mem_map.mp hd
  exact mkS_ok (h s hs)
theorem pick_take (us : List Value) (k : Nat) : slicePick us.toArray none (some (k : Int)) none = (us.take k).toArray := by
  have e : sliceBounds none (some (k : Int)) none us.toArray.size = (((0 : Nat) : Int), ((min k us.toArray.size : Nat) : Int), 1) := by
    simp only [sliceBounds, Option.getD_none, show (1 : Int) > 0 by decide, if_true, if_neg (show ¬ ((k : Int) < 0) by omega)]
    congr 1
    congr 1
    omega
  rw [kmk_pick_nat _ e, List.drop_zero, Nat.sub_zero, List.size_toArray, kmk_take_min]
theorem DatAll.take {add : List (Addr × Obj)} : ∀ {us : List Value} {ds : List Dat} (k : Nat), DatAll add us ds → DatAll add (us.take k) (ds.take k)
  | _, _, 0, _ => by simp only [List.take_zero]; exact .nil
  | _, _, k + 1, .nil => by simp only [List.take_nil]; exact .nil
  | _, _, k + 1, .cons h r => by simp only [List.take_succ_cons]; exact .cons h (DatAll.take k r)
theorem lT_take (l : List (List Nat)) (k : Nat) : lT (l.take k) = (lT l).take k := by simp [lT, List.map_take]
/-- what the law's tree is read back to -/
theorem DatIn.row {add : List (Addr × Obj)} {v : Value} {ds : List Dat} (h : DatIn add v (.list ds)) : ∃ a us n, v = .ref a ∧ (a, listOf us.toArray n) ∈ add ∧ DatAll add us ds := by
  cases h with
  | list m k => exact ⟨_, _, _, rfl, m, k⟩
section
variable {w : World} {A : Around} {E : Value → Shared → Prop} {s : Shared} {h₀ : Heap} {L a b : Addr} {news n₁ n₂ : List (Addr × Obj)} {xs ys : List Value} {ds : List Dat} {ka kb : Nat} {Q : Value → Shared → Prop}
theorem rows_ne (N : News h₀ L s.heap news) (ma : (a, listOf xs.toArray ka) ∈ news) (mb : (b, listOf ys.toArray kb) ∈ news) (Da : DatAll n₁ xs ds) (sa : ∀ p ∈ n₁, p ∈ news) (Db : DatAll n₂ ys ds) (sb : ∀ p ∈ n₂, p ∈ news) (h8 : ∀ d ∈ ds, kqdOk 8 d = true) (hu : A.units + 64 < cLine)
    (h : Q (.bool false) s) : wpAny (model prog w) A (compareOp .NotEq (.ref a) (.ref b)) Q E s :=
  kqd_ne N ma rfl rfl Da sa mb rfl rfl Db sb h8 h8 hu (by simp only [decide_true, Bool.not_true]; exact h)
theorem rows_eq (N : News h₀ L s.heap news) (ma : (a, listOf xs.toArray ka) ∈ news) (mb : (b, listOf ys.toArray kb) ∈ news) (Da : DatAll n₁ xs ds) (sa : ∀ p ∈ n₁, p ∈ news) (Db : DatAll n₂ ys ds) (sb : ∀ p ∈ n₂, p ∈ news) (h8 : ∀ d ∈ ds, kqdOk 8 d = true) (hu : A.units + 64 < cLine)
    (h : Q (.bool true) s) : wpAny (model prog w) A (compareOp .Eq (.ref a) (.ref b)) Q E s :=
  kqd_eq N ma rfl rfl Da sa mb rfl rfl Db sb h8 h8 hu (by simp only [decide_true, Bool.not_true]; exact h)
end
end Mine

end
section
open PySem PySem.W PySem.Calls PyProof.Rows PySem.Spec
set_option maxRecDepth 100000
set_option maxHeartbeats 4000000
namespace Mine
local macro_rules | `(tactic| walk_at "eval Name") => `(tactic| first
  | (refine' nmB ?S ?F ?D ?_ ?g ?b ?k ?x ?d; (case S => assumption); (case F => assumption); (case D => assumption); (case g => kernel_rfl); (case b => kernel_rfl); (case k => kernel_rfl); (case x => kernel_rfl); (case d => decide +kernel))
  | (refine' nmD ?S ?F ?D ?_ ?g ?k ?x ?d; (case S => assumption); (case F => assumption); (case D => assumption); (case g => kernel_rfl); (case k => kernel_rfl); (case x => kernel_rfl); (case d => decide +kernel))
  | (refine' nmV ?S ?F ?D ?_ ?g ?k ?x ?d; (case S => assumption); (case F => assumption); (case D => assumption); (case g => kernel_rfl); (case k => kernel_rfl); (case x => kernel_rfl); (case d => decide +kernel))
  | (refine' nmCell ?N ?c ?m ?d ?_ ?k ?x ?e; (case N => assumption); (case c => rfl); (case m => k_mem); (case d => assumption); (case k => kernel_rfl); (case x => kernel_rfl!); (case e => decide +kernel))
  | (refine' kcf_cell ?N ?c ?m ?d ?_ ?k ?x ?e; (case N => assumption); (case c => rfl); (case m => k_mem); (case d => assumption); (case k => kernel_rfl); (case x => kernel_rfl!); (case e => decide +kernel)))
local macro_rules | `(tactic| walk_at "callWith ref") => `(tactic| (refine' cwD ?D ?_; (case D => assumption)))
local macro_rules | `(tactic| walk_at "Stood") => `(tactic| exact ⟨_, by assumption⟩)
local macro_rules | `(tactic| walk_at "exec For") => `(tactic| (refine' for_ ?F ?x ?p ?_; (case F => assumption); (case x => kernel_rfl); (case p => kernel_rfl); k_fold))
local macro_rules | `(tactic| walk_at "newList") => `(tactic| (refine' newL ?F ?N ?_ ?z; (case F => assumption); (case N => assumption); (case z => size_fits); (intro _ _ _ _ _)))
local macro_rules | `(tactic| kqd_sub) => `(tactic| (intro p hp; simp only [List.mem_cons, List.mem_append, List.not_mem_nil, or_false, false_or] at hp ⊢; grind))
local macro_rules | `(tactic| walk_at "eval Name") => `(tactic| first
  | (refine' nameX_L ?F ?v ?_ ?k ?x ?d; (case F => assumption); (case v => (with_unfolding_all rfl)); (case k => kernel_rfl); (case x => kernel_rfl!); (case d => decide +kernel))
  | (refine' nmFree ?N ?c ?m ?d ?_ ?k ?x ?e ?f; (case N => assumption); (case c => rfl); (case m => k_mem); (case d => assumption); (case k => kernel_rfl); (case x => kernel_rfl!); (case e => decide +kernel); (case f => decide +kernel)))
local macro_rules | `(tactic| walk_at "eval Name") => `(tactic| (refine' LCgL.ld_own ?N ?m ?c ?x ?_; (case N => assumption); (case m => k_mem); (case c => assumption); (case x => assumption)))
local macro_rules | `(tactic| walk_at "storeName") => `(tactic| (refine' storeX_L ?F ?N ?_ ?k ?x; (case F => assumption); (case N => assumption); (case k => kernel_rfl); (case x => kernel_rfl!); (intro _ _ _)))
local macro_rules | `(tactic| walk_at "eval ListComp") => `(tactic| (refine halt ?_))
local macro_rules | `(tactic| walk_at "newTuple") => `(tactic| (refine' newT ?F ?N ?_ ?z; (case F => assumption); (case N => assumption); (case z => size_fits); (intro _ _ _ _ _)))
local macro_rules | `(tactic| walk_at "call builtin:str.join cons nil") => `(tactic| (refine halt ?_))
local macro_rules | `(tactic| walk_at "call builtin:list.append cons nil") => `(tactic| (refine halt ?_))
local macro_rules | `(tactic| walk_at "call ref cons nil") => `(tactic| (refine halt ?_))
theorem cwDF {w : World} {mg : Str → Option Value} {A : Around} {E : Value → Shared → Prop} {s : Shared} {h₀ : Heap} {L : Addr} {m : Str → Option Value} {x : Str} {i : Nat} {f : Addr} {cdv : Value} {pos : Pos} {e : Expr} {rest : List Expr} {env : Env} {Q : Value → Shared → Prop} (F : Fr h₀ L s.heap m) (D : IsDef h₀ mg x i f cdv)
    (h : wpAny (model prog w) A (spliced (backTo pos (starEach (e :: rest) env))) (fun vs s₁ => Stood h₀ L s₁.heap ∧ wpAny (model prog w) A (call (.ref f) vs) Q E s₁) E s)
    (he : starEach (e :: rest) env = (false, eval e env) :: starEach rest env := by rfl) (hplain : (backTo pos (starEach rest env)).any (·.1) = false := by rfl) :
    wpAny (model prog w) A (callWith pos (.ref f) [] (backTo pos (starEach (e :: rest) env)) []) Q E s := cwD D h he hplain
local macro_rules | `(tactic| walk_at "callWith ref") => `(tactic| first
  | (refine' cwDF ?F ?D ?_; (case F => assumption); (case D => assumption))
  | (refine' callWith_F ?k ?_; (case k => exact FnAt.of (by assumption) (by k_mem))))
local macro_rules | `(tactic| walk_at "FnAt") => `(tactic| exact FnAt.of (by assumption) (by k_mem))
local macro_rules | `(tactic| walk_at "compareOp NotEq ref ref") => `(tactic| (refine halt ?_))
local macro_rules | `(tactic| walk_at "compareOp Eq ref ref") => `(tactic| (refine halt ?_))
local macro_rules | `(tactic| walk_at "call builtin:len cons nil") => `(tactic| (refine halt ?_))
theorem law_spec {w : World} {mg mb : Str → Option Value} {A₀ A : Around} {base h₀ : Heap} {L a x f1 f2 c1 c2 P1 P2 : Addr} {ccd : Value} {s : Shared} {tl : List (Addr × Obj)} {vs : List Value} {ns : List Int}
    {Q : Flow → Shared → Prop} {E : Value → Shared → Prop} (lib : Lib w mg mb h₀) (hand : A.handled = none) (BL : Below A₀ base [] h₀) (hA : A.frames = some [envOf "law" (dScope (stm 28)) L a ccd]) (hgB : base.Ns mainGlobals mg) (hbB : base.Ns builtinsNs mb)
    (F : Fr h₀ L s.heap (fun y => if y = "script" then some (.ref x) else none)) (N : News h₀ L s.heap tl) (D1 : IsDef h₀ mg "_law_listener" 26 f1 (.ref c1)) (C1 : CodeHd h₀ c1 P1) (D2 : IsDef h₀ mg "_array_in" 13 f2 (.ref c2)) (C2 : CodeHd h₀ c2 P2) (hT : Tabs P1 P2 true tl [])
    (hl : h₀.IsList x vs.toArray) (hi : IntsAre vs ns) (hlen : ns.length ≤ 63) (hroom : A.depth + 30 < recursionLimit) (hu : A.units + 200 < cLine)
    (hQ : ∀ m' h' tk2 news' ps1 ps2, Fr h₀ L h' m' → News h₀ L h' news' → (P1, tabObj ps1) ∈ news' → (P2, tabObj ps2) ∈ news' → Q (.ret (.bool true)) { s with heap := h', toks := tk2 }) :
    wpAny (model prog w) A (execs (dBody (stm 28)) (envOf "law" (dScope (stm 28)) L a ccd)) Q E s := by
  have S : Sta w mg mb A h₀ L := ⟨⟨A₀, base, [], _, BL, hA, rfl, by kernel_rfl⟩, hand, lib⟩
  obtain ⟨fp, cp, Dp⟩ := lib.parse
  obtain ⟨fn, cn, Dn⟩ := lib.next
  obtain ⟨ft, ct, Dt⟩ := lib.tree
  obtain ⟨fw, cw, Dw⟩ := lib.written
  obtain ⟨fl, cl, Dl⟩ := lib.leaves
  obtain ⟨fm, cm, Dm⟩ := lib.marked
  obtain ⟨fs, cs, Ds⟩ := lib.stopped
  have Blen := lib.len
  refine wpAny_execs_cons ?_
  w_on
  k_unmd
  k_fold
  repeat' (first | walk1 | (dsimp only; walk1) | (k_unfold; dsimp only))
  rename Fr _ _ _ _ => F1
  rename Behind _ _ => Hb
  rename News _ _ _ _ => N1
  have hscr : s.heap.objs.size + 1 = s.heap.objs.size + 1 := rfl
  generalize hse : s.heap.objs.size + 1 = scr at F1 N1 Hb ⊢
  have htl : ∀ p ∈ tl, p.1 ≠ scr := fun p hp => by
    have q : p.1 < s.heap.objs.size := Heap.lt_size (N p hp).1
    rw [← hse]
    exact Nat.ne_of_lt (Nat.lt_succ_of_lt q)
  rename_i st _ _ _ _
  have hi2 : IntsAre (slicePick vs.toArray none (some 40) none).toList (ns.take 40) := slice_ints_uptoW hi (by decide)
  have hle2 : (ns.take 40).length ≤ 40 := by rw [List.length_take]; omega
  generalize ewe : (slicePick vs.toArray none (some 40) none).toList = ws at hi2
  have ewe2 : slicePick vs.toArray none (some 40) none = ws.toArray := by rw [← ewe, Array.toArray_toList]
  rw [ewe2] at N1 Hb
  clear hscr ewe ewe2 F N
  have hne : scr ≠ st := (Hb.ne (.head _)).symm
  have hoff : ∀ p ∈ tl, p.1 ≠ st := fun p hp => (Hb.ne (p := p) (.tail _ hp)).symm
  refine next_spec (n := 0) (n' := 0) (rest := tl) S F1 N1 Dn (by omega) (by omega) hne hoff hi2 hle2 (by decide) (by decide) (by decide) (by decide) fun v t tk1 h1 tk2 hv0 hv1 F2 N2 => ?_
  clear F1 N1 Hb
  obtain ⟨d, rfl⟩ : ∃ d : Nat, v = (d : Int) := ⟨v.toNat, by omega⟩
  (try dsimp only)
  repeat' (first | walk1 | (dsimp only; walk1))
  have e1 : (1 : Int) + (d : Int) = ((1 + d : Nat) : Int) := by omega
  rw [e1]
  have hd2 : d ≤ 2 := by omega
  have hC : C (1 + d) ≤ 565 := by
    obtain rfl | rfl | rfl : d = 0 ∨ d = 1 ∨ d = 2 := by omega
    all_goals decide
  have hK : K (1 + d + 1) ≤ 81 := by
    obtain rfl | rfl | rfl : d = 0 ∨ d = 1 ∨ d = 2 := by omega
    all_goals decide
  have hB : B (1 + d + 1) ≤ 2000 := by
    obtain rfl | rfl | rfl : d = 0 ∨ d = 1 ∨ d = 2 := by omega
    all_goals decide
  refine tree_spec hi2 hle2 (1 + d) (n := 0) (n' := 0) (rest := tl) S F2 N2 Dt (by omega) (by omega) hne hoff (by omega) (by omega) (by decide) (by decide) fun a1 ws1 nn1 ts k1 tk3 h2 tk4 add1 hk1 hk2 hm1 hda1 hok1 hfr1 F3 N3 => ?_
  clear F2 N2
  (try dsimp only)
  repeat' (first | walk1 | (dsimp only; walk1) | (k_unfold; dsimp only))
  rename Fr _ _ _ _ => F4
  rename News _ _ _ _ => N4
  have hoff1 : ∀ p ∈ add1 ++ tl, p.1 ≠ st := off_app (hfr1.ne (.head _)) hoff
  have hin1 : DatIn (add1 ++ tl) (.ref a1) (dT (.node ts)) := .list (List.mem_append.mpr (.inl hm1)) (hda1.mono fun p hp => List.mem_append.mpr (.inl hp))
  refine written_spec hi2 hle2 (1 + d + 1) (n := 0) (n' := 0) (rest := add1 ++ tl) S F4 N4 Dw (by omega) (by omega) hne hoff1 (by omega) (by omega) hin1 hok1 (by omega) fun tx ttx k2 tk5 h3 tk6 hwr htx hk3 hk4 F5 N5 => ?_
  clear F3 N3 F4 N4
  (try dsimp only)
  repeat' (first | walk1 | (dsimp only; walk1) | (k_unfold; dsimp only))
  rename Fr _ _ _ _ => F6
  rename News _ _ _ _ => N6
  refine next_spec (n := 0) (n' := 0) (rest := add1 ++ tl) S F6 N6 Dn (by omega) (by omega) hne hoff1 hi2 hle2 (by omega) (by omega) (by decide) (by decide) fun v2 t2 tk7 h4 tk8 hv20 hv21 F7 N7 => ?_
  clear F5 N5 F6 N6
  obtain ⟨e, rfl⟩ : ∃ e : Nat, v2 = (e : Int) := ⟨v2.toNat, by omega⟩
  (try dsimp only)
  repeat' (first | walk1 | (dsimp only; walk1) | (k_unfold; dsimp only))
  rename Fr _ _ _ _ => F8
  rename News _ _ _ _ => N8
  rename Behind _ _ => Hb1
  rename_i g1 _
  have hin2 : DatIn ((st, listOf #[.ref scr, .int (k2 + 1) tk7] 0) :: (scr, listOf ws.toArray 0) :: (add1 ++ tl)) (.ref a1) (dT (.node ts)) := hin1.mono fun p hp => .tail _ (.tail _ hp)
  refine marked_spec (1 + d + 1) (hs := []) (h := []) (hn := 0) S F8 N8 Dm (by omega) (by omega) (fun p hp => (Hb1.ne hp).symm) .nil (by rw [List.length_nil]; omega) hin2 hok1 fun vd hs2 hn2 h5 tk9 add2 hdv _ hoa2 F9 N9 => ?_
  obtain ⟨vda, uds, ndn, rfl, hmd, hdd⟩ := DatIn.row (ds := (mks ts []).1) hdv
  clear hdv
  clear F7 N7 F8 N8
  have hin3 : DatIn (add2 ++ ((st, listOf #[.ref scr, .int (k2 + 1) tk7] 0) :: (scr, listOf ws.toArray 0) :: (add1 ++ tl))) (.ref a1) (dT (.node ts)) := hin2.mono fun p hp => List.mem_append.mpr (.inr hp)
  replace N9 := News.sub (b := add2 ++ ((st, listOf #[.ref scr, .int (k2 + 1) tk7] 0) :: (scr, listOf ws.toArray 0) :: (add1 ++ tl))) N9 fun p hp => .tail _ hp
  (try dsimp only)
  repeat' (first | walk1 | (dsimp only; walk1) | (k_unfold; dsimp only))
  rename Fr _ _ _ _ => F10
  rename News _ _ _ _ => N10
  refine leaves_spec (1 + d + 1) S F10 N10 Dl (by omega) (by omega) hin3 hok1 (by omega) fun lv us nn2 h6 tk10 hus hlv hlt2 F11 N11 => ?_
  clear F9 N9 F10 N10
  have hP1 : ∃ ps, (P1, tabObj ps) ∈ tl := hT.left
  have hP2 : ∃ ps, (P2, tabObj ps) ∈ tl := hT.right
  obtain ⟨psl, hP1⟩ := hP1
  obtain ⟨psr, hP2⟩ := hP2
  have hlvP : lv ≠ P1 ∧ lv ≠ P2 := ⟨Nat.ne_of_gt (hlt2 (P1, tabObj psl) (by simp [hP1])), Nat.ne_of_gt (hlt2 (P2, tabObj psr) (by simp [hP2]))⟩
  have ha2P : ∀ p ∈ add2, p.1 ≠ P1 ∧ p.1 ≠ P2 := fun p hp => ⟨hoa2 p hp P1 (.tail _ (List.mem_map.mpr ⟨(P1, tabObj psl), by simp [hP1], rfl⟩)), hoa2 p hp P2 (.tail _ (List.mem_map.mpr ⟨(P2, tabObj psr), by simp [hP2], rfl⟩))⟩
  replace N11 := News.sub (b := tl ++ ((lv, listOf us.toArray nn2) :: add2)) N11 (by kqd_sub)
  clear hin1 hin2 hin3 hlt2 hoa2 Hb1 hm1 hda1 hfr1 hoff1 hoff hi2 htl
  (try dsimp only)
  repeat' (first | walk1 | (dsimp only; walk1) | (k_unfold; dsimp only))
  rename Fr _ _ _ _ => F12
  rename News _ _ _ _ => N12
  rename Behind _ _ => Hb2
  rename_i hh1 _ _ _ _
  clear F11 N11
  have hh1P : hh1 ≠ P1 ∧ hh1 ≠ P2 := ⟨Hb2.ne (p := (P1, tabObj psl)) (by simp [hP1]), Hb2.ne (p := (P2, tabObj psr)) (by simp [hP2])⟩
  have hX1 : ∀ p ∈ (lv, listOf us.toArray nn2) :: add2, p.1 ≠ P1 ∧ p.1 ≠ P2 := fun p hp => (List.mem_cons.mp hp).elim (fun e => e ▸ hlvP) (ha2P p)
  have hX1h : ∀ p ∈ (lv, listOf us.toArray nn2) :: add2, p.1 ≠ hh1 := fun p hp => (Hb2.ne (p := p) (List.mem_append.mpr (.inr hp))).symm
  refine tabs_listener (mid := [(hh1, listOf #[] 0)]) (rest := (lv, listOf us.toArray nn2) :: add2) S F12 (News.sub N12 (by kqd_sub)) D1 C1 (by omega) (fun p hp => (List.mem_cons.mp hp).elim (fun e => e ▸ hh1P) (hX1 p)) (hT.mono fun p hp => nomatch hp) fun r1 add3 tl1 rdoc rpm rc rctv roc rws rt rch rcs roch rocs rts h7 tk11 hR1 hT1 hO1 F13 N13 => ?_
  clear F12 N12
  (try dsimp only)
  repeat' (first | walk1 | (dsimp only; walk1) | (k_unfold; dsimp only))
  have hoffh1 : ∀ p ∈ tl1 ++ (add3 ++ ((lv, listOf us.toArray nn2) :: add2)), p.1 ≠ hh1 := off_app (fun p hp => (hT1.mem p hp).elim (fun e => e ▸ hh1P.1.symm) (fun e => e ▸ hh1P.2.symm)) (off_app (fun p hp => hO1 p hp hh1 (by simp)) hX1h)
  have hrun : ∀ stop, run stop tx.cps.toList { md := .out, stk := [[]], heard := [] } = if stop = 0 ∨ (leaves (.node ts)).length < stop then .ok { md := .out, stk := [[(mk (.node ts) []).1]], heard := leaves (.node ts) } else .refused ((leaves (.node ts)).take stop) := fun stop => run_whole hwr
  have hrun0 : run 0 tx.cps.toList { md := .out, stk := [[]], heard := [] } = .ok { md := .out, stk := [[(mk (.node ts) []).1]], heard := leaves (.node ts) } := by rw [hrun 0, if_pos (.inl rfl)]
  refine parse_spec (stop := 0) (hd := hh1) (hn := 0) (rest := tl1 ++ (add3 ++ ((lv, listOf us.toArray nn2) :: add2))) S BL hA rfl (by kernel_rfl) F13 (News.sub N13 (by kqd_sub)) Dp (hR1.mono fun p hp => List.mem_append.mpr (.inr hp)) (by omega) (by omega) hoffh1 (by omega) (by omega) (.inl ⟨_, _, hrun0, rfl⟩) (fun ps dd hr2 hs2 v3 hs3 hn3 add4 h8 tk12 hv3 hhs3 ho4 F14 N14 => ?_) (fun hh hr2 => absurd (hrun0.symm.trans hr2) (by simp))
  cases (hrun0.symm.trans hr2)
  cases hs2
  clear F13 N13
  (try dsimp only)
  repeat' (first | walk1 | (dsimp only; walk1) | (k_unfold; dsimp only))
  obtain ⟨va3, ud3, nd3, rfl, hm3, hd3⟩ := DatIn.row (ds := (mks ts []).1) hv3
  have hok8 : ∀ q ∈ (mks ts []).1, kqdOk 8 q = true := mks_ok (1 + d) 8 ts [] (by omega) hok1.2
  have hok9 : ∀ q ∈ lT (leaves (.node ts)), kqdOk 8 q = true := lT_ok (leaves_ok (1 + d + 1) (.node ts) hok1)
  refine rows_ne N14 (a := va3) (b := vda) (xs := ud3) (ys := uds) (ka := nd3) (kb := ndn) (by simp [hm3]) (by simp [hmd]) hd3 (fun p hp => by simp [hp]) hdd (fun p hp => by simp [hp]) hok8 (by omega) ?_
  (try dsimp only)
  repeat' (first | walk1 | (dsimp only; walk1) | (k_unfold; dsimp only))
  refine rows_ne N14 (a := hh1) (b := lv) (xs := hs3) (ys := us) (ka := hn3) (kb := nn2) (.head _) (by simp) hhs3 (fun p hp => nomatch hp) hus (fun p hp => nomatch hp) hok9 (by omega) ?_
  have hX2 : ∀ p ∈ add3 ++ ((lv, listOf us.toArray nn2) :: add2), p.1 ≠ P1 ∧ p.1 ≠ P2 := fun p hp => (List.mem_append.mp hp).elim (fun hp => ⟨hO1 p hp P1 (.head _), hO1 p hp P2 (.tail _ (.head _))⟩) (hX1 p)
  have hP1' : ∃ ps, (P1, tabObj ps) ∈ tl1 := hT1.left
  have hP2' : ∃ ps, (P2, tabObj ps) ∈ tl1 := hT1.right
  obtain ⟨psl1, hP1'⟩ := hP1'
  obtain ⟨psr1, hP2'⟩ := hP2'
  replace N14 := News.sub (b := tl1 ++ (add3 ++ ((lv, listOf us.toArray nn2) :: add2))) N14 (by kqd_sub)
  clear hv3 hm3 hd3 ho4 hhs3 hR1 hO1 hoffh1 hh1P hX1 hX1h Hb2 hr2
  (try dsimp only)
  repeat' (first | walk1 | (dsimp only; walk1) | (k_unfold; dsimp only))
  rename Fr _ _ _ _ => F15
  rename News _ _ _ _ => N15
  rename Behind _ _ => Hb3
  rename_i hh2 _ _ _ _
  clear F14 N14
  have hh2P : hh2 ≠ P1 ∧ hh2 ≠ P2 := ⟨Hb3.ne (p := (P1, tabObj psl1)) (by simp [hP1']), Hb3.ne (p := (P2, tabObj psr1)) (by simp [hP2'])⟩
  have hX2h : ∀ p ∈ add3 ++ ((lv, listOf us.toArray nn2) :: add2), p.1 ≠ hh2 := fun p hp => (Hb3.ne (p := p) (List.mem_append.mpr (.inr hp))).symm
  refine tabs_listener (mid := [(hh2, listOf #[] 0)]) (rest := add3 ++ ((lv, listOf us.toArray nn2) :: add2)) S F15 (News.sub N15 (by kqd_sub)) D1 C1 (by omega) (fun p hp => (List.mem_cons.mp hp).elim (fun e => e ▸ hh2P) (hX2 p)) hT1 fun r2 add5 tl2 rdoc2 rpm2 rc2 rctv2 roc2 rws2 rt2 rch2 rcs2 roch2 rocs2 rts2 h9 tk13 hR2 hT2 hO2 F16 N16 => ?_
  clear F15 N15
  (try dsimp only)
  repeat' (first | walk1 | (dsimp only; walk1) | (k_unfold; dsimp only))
  have hX3 : ∀ p ∈ add5 ++ (add3 ++ ((lv, listOf us.toArray nn2) :: add2)), p.1 ≠ P1 ∧ p.1 ≠ P2 := fun p hp => (List.mem_append.mp hp).elim (fun hp => ⟨hO2 p hp P1 (.head _), hO2 p hp P2 (.tail _ (.head _))⟩) (hX2 p)
  have hX3h : ∀ p ∈ add5 ++ (add3 ++ ((lv, listOf us.toArray nn2) :: add2)), p.1 ≠ hh2 := off_app (fun p hp => hO2 p hp hh2 (by simp)) hX2h
  refine tabs_arrayIn (mid := [(hh2, listOf #[] 0)]) (rest := add5 ++ (add3 ++ ((lv, listOf us.toArray nn2) :: add2))) S F16 (News.sub N16 (by kqd_sub)) D2 C2 (by omega) (fun p hp => (List.mem_cons.mp hp).elim (fun e => e ▸ hh2P) (hX3 p)) hT2 fun q add6 tl3 fdoc fpm fc fctv foc fws ft fca foca h10 tk14 hF3 hT3 hO3 F17 N17 => ?_
  clear F16 N16
  replace N17 := News.sub (b := (q, fnMade "f" fnQ (dParams fnS) (dBody fnS) (dScope fnS) [("adapter", fca)] fdoc fpm fc fctv) :: (hh2, listOf #[] 0) :: (tl3 ++ (add6 ++ (add5 ++ (add3 ++ ((lv, listOf us.toArray nn2) :: add2)))))) N17 (by
    intro p hp
    have := hF3.fn
    simp only [List.mem_cons, List.mem_append, List.not_mem_nil, or_false, false_or] at hp ⊢
    grind)
  (try dsimp only)
  repeat' (first | walk1 | (dsimp only; walk1) | (k_unfold; dsimp only))
  have hoffh2 : ∀ p ∈ tl3 ++ (add6 ++ (add5 ++ (add3 ++ ((lv, listOf us.toArray nn2) :: add2)))), p.1 ≠ hh2 := off_app (fun p hp => (hT3.mem p hp).elim (fun e => e ▸ hh2P.1.symm) (fun e => e ▸ hh2P.2.symm)) (off_app (fun p hp => hO3 p hp hh2 (by simp)) hX3h)
  refine f_spec (hd := hh2) (hn := 0) (rest := tl3 ++ (add6 ++ (add5 ++ (add3 ++ ((lv, listOf us.toArray nn2) :: add2))))) S BL hA rfl (by kernel_rfl) F17 (News.sub N17 (by kqd_sub)) (hF3.mono fun p hp => by simp [hp]) (hR2.mono fun p hp => List.mem_append.mpr (.inr (List.mem_append.mpr (.inr hp)))) (by omega) (by omega) hoffh2 (by omega) ⟨_, _, hrun0, rfl⟩ (fun ps dd hr2 hs2 v4 hs4 hn4 add7 h11 tk15 hv4 hhs4 ho4 F18 N18 => ?_)
  cases (hrun0.symm.trans hr2)
  cases hs2
  clear F17 N17
  obtain ⟨va4, ud4, nd4, rfl, hm4, hd4⟩ := DatIn.row (ds := (mks ts []).1) hv4
  (try dsimp only)
  repeat' (first | walk1 | (dsimp only; walk1) | (k_unfold; dsimp only))
  refine rows_ne N18 (a := va4) (b := vda) (xs := ud4) (ys := uds) (ka := nd4) (kb := ndn) (by simp [hm4]) (by simp [hmd]) hd4 (fun p hp => by simp [hp]) hdd (fun p hp => by simp [hp]) hok8 (by omega) ?_
  (try dsimp only)
  repeat' (first | walk1 | (dsimp only; walk1) | (k_unfold; dsimp only))
  refine rows_ne N18 (a := hh2) (b := lv) (xs := hs4) (ys := us) (ka := hn4) (kb := nn2) (.head _) (by simp) hhs4 (fun p hp => nomatch hp) hus (fun p hp => nomatch hp) hok9 (by omega) ?_
  have hX4 : ∀ p ∈ add6 ++ (add5 ++ (add3 ++ ((lv, listOf us.toArray nn2) :: add2))), p.1 ≠ P1 ∧ p.1 ≠ P2 := fun p hp => (List.mem_append.mp hp).elim (fun hp => ⟨hO3 p hp P1 (.head _), hO3 p hp P2 (.tail _ (.head _))⟩) (hX3 p)
  have hP1'' : ∃ ps, (P1, tabObj ps) ∈ tl3 := hT3.left
  have hP2'' : ∃ ps, (P2, tabObj ps) ∈ tl3 := hT3.right
  obtain ⟨psl2, hP1''⟩ := hP1''
  obtain ⟨psr2, hP2''⟩ := hP2''
  replace N18 := News.sub (b := tl3 ++ (add6 ++ (add5 ++ (add3 ++ ((lv, listOf us.toArray nn2) :: add2))))) N18 (by kqd_sub)
  clear hv4 hm4 hd4 ho4 hhs4 hR2 hO2 hO3 hoffh2 hh2P hX2 hX3 hX2h hX3h Hb3 hr2 hF3 hT2
  (try dsimp only)
  repeat' (first | walk1 | (dsimp only; walk1) | (k_unfold; dsimp only))
  rename Fr _ _ _ _ => F19
  rename News _ _ _ _ => N19
  rename Behind _ _ => Hb4
  rename_i hh3 _ _ _ _
  clear F18 N18
  have hh3P : hh3 ≠ P1 ∧ hh3 ≠ P2 := ⟨Hb4.ne (p := (P1, tabObj psl2)) (by simp [hP1'']), Hb4.ne (p := (P2, tabObj psr2)) (by simp [hP2''])⟩
  have hX4h : ∀ p ∈ add6 ++ (add5 ++ (add3 ++ ((lv, listOf us.toArray nn2) :: add2))), p.1 ≠ hh3 := fun p hp => (Hb4.ne (p := p) (List.mem_append.mpr (.inr hp))).symm
  refine tabs_listener (mid := [(hh3, listOf #[] 0)]) (rest := add6 ++ (add5 ++ (add3 ++ ((lv, listOf us.toArray nn2) :: add2)))) S F19 (News.sub N19 (by kqd_sub)) D1 C1 (by omega) (fun p hp => (List.mem_cons.mp hp).elim (fun e => e ▸ hh3P) (hX4 p)) hT3 fun r3 add8 tl4 rdoc3 rpm3 rc3 rctv3 roc3 rws3 rt3 rch3 rcs3 roch3 rocs3 rts3 h12 tk16 hR3 hT4 hO4 F20 N20 => ?_
  clear F19 N19
  (try dsimp only)
  repeat' (first | walk1 | (dsimp only; walk1) | (k_unfold; dsimp only))
  have e2 : (1 : Int) + (e : Int) = ((1 + e : Nat) : Int) := by omega
  rw [e2] at hR3
  have hoffh3 : ∀ p ∈ tl4 ++ (add8 ++ (add6 ++ (add5 ++ (add3 ++ ((lv, listOf us.toArray nn2) :: add2))))), p.1 ≠ hh3 := off_app (fun p hp => (hT4.mem p hp).elim (fun e => e ▸ hh3P.1.symm) (fun e => e ▸ hh3P.2.symm)) (off_app (fun p hp => hO4 p hp hh3 (by simp)) hX4h)
  have hok : (∃ ps dd, run (1 + e) tx.cps.toList { md := .out, stk := [[]], heard := [] } = .ok ps ∧ ps.stk = [[dd]]) ∨ ∃ hh, run (1 + e) tx.cps.toList { md := .out, stk := [[]], heard := [] } = .refused hh := by
    rw [hrun (1 + e)]
    by_cases hc : 1 + e = 0 ∨ (leaves (.node ts)).length < 1 + e
    · rw [if_pos hc]; exact .inl ⟨_, _, rfl, rfl⟩
    · rw [if_neg hc]; exact .inr ⟨_, rfl⟩
  have hsz : us.toArray.size = (leaves (.node ts)).length := by rw [List.size_toArray, hus.length, lT_length]
  refine stopped_spec (stop := 1 + e) (hd := hh3) (hn := 0) (rest := tl4 ++ (add8 ++ (add6 ++ (add5 ++ (add3 ++ ((lv, listOf us.toArray nn2) :: add2)))))) lib hand BL hA (by kernel_rfl) hgB hbB F20 (News.sub N20 (by kqd_sub)) Ds (hR3.mono fun p hp => List.mem_append.mpr (.inr hp)) (by omega) (by omega) hoffh3 (by omega) (by omega) hok (fun ps dd hr2 hs2 v5 hs5 hn5 add9 h13 tk17 hv5 hhs5 ho5 F21 N21 => ?_) (fun hh hr2 tr hs5 hn5 h13 tk17 hhs5 F21 N21 => ?_)
  · have hc : (leaves (.node ts)).length < 1 + e := by
      by_cases hc : 1 + e = 0 ∨ (leaves (.node ts)).length < 1 + e
      · omega
      · rw [hrun (1 + e), if_neg hc] at hr2
        cases hr2
    rw [hrun (1 + e), if_pos (.inr hc)] at hr2
    cases hr2
    cases hs2
    clear F20 N20
    obtain ⟨va5, ud5, nd5, rfl, hm5, hd5⟩ := DatIn.row (ds := (mks ts []).1) hv5
    (try dsimp only)
    repeat' (first | walk1 | (dsimp only; walk1) | (k_unfold; dsimp only))
    rename Fr _ _ _ _ => F22
    rename News _ _ _ _ => N22
    refine lenL (its := us.toArray) (n := nn2) N22 (by simp) (by rw [hsz]; omega) fun t6 tk18 => ?_
    rw [hsz]
    (try dsimp only)
    repeat' (first | walk1 | (dsimp only; walk1) | (k_unfold; dsimp only))
    · refine rows_eq N22 (a := va5) (b := vda) (xs := ud5) (ys := uds) (ka := nd5) (kb := ndn) (by simp [hm5]) (by simp [hmd]) hd5 (fun p hp => by simp [hp]) hdd (fun p hp => by simp [hp]) hok8 (by omega) ?_
      (try dsimp only)
      repeat' (first | walk1 | (dsimp only; walk1))
      refine rows_eq N22 (a := hh3) (b := lv) (xs := hs5) (ys := us) (ka := hn5) (kb := nn2) (.head _) (by simp) hhs5 (fun p hp => nomatch hp) hus (fun p hp => nomatch hp) hok9 (by omega) ?_
      exact hQ _ _ _ _ (Classical.choose hT4.left) (Classical.choose hT4.right) F22 N22 (by have := Classical.choose_spec hT4.left; simp [this]) (by have := Classical.choose_spec hT4.right; simp [this])
    · exfalso
      omega
  · have hc : ¬ (1 + e = 0 ∨ (leaves (.node ts)).length < 1 + e) := fun hc => by
      rw [hrun (1 + e), if_pos hc] at hr2
      cases hr2
    rw [hrun (1 + e), if_neg hc] at hr2
    cases hr2
    clear F20 N20
    (try dsimp only)
    repeat' (first | walk1 | (dsimp only; walk1) | (k_unfold; dsimp only))
    rename Fr _ _ _ _ => F22
    rename News _ _ _ _ => N22
    refine lenL (its := us.toArray) (n := nn2) N22 (by simp) (by rw [hsz]; omega) fun t6 tk18 => ?_
    rw [hsz]
    (try dsimp only)
    repeat' (first | walk1 | (dsimp only; walk1) | (k_unfold; dsimp only))
    · exfalso
      omega
    · have hpt : slicePick us.toArray none (some ((1 + e : Nat) : Int)) none = (us.take (1 + e)).toArray := pick_take us (1 + e)
      refine kmk_slice F22 N22 (its := us.toArray) (lo := none) (hi := some ((1 + e : Nat) : Int)) (PySem.IsL.isList (n := nn2) (N22 (lv, listOf us.toArray nn2) (by simp)).1) (by kmk_part) (by rw [← e2]; kmk_part) (fun D h14 F23 N23 l23 => ?_) (by with_unfolding_all rfl) (fun _ => by with_unfolding_all rfl) (by rw [hsz, sizeLine_eq]; omega)
      rw [hpt] at N23
      refine rows_eq N23 (n₁ := []) (n₂ := []) (ds := lT ((leaves (.node ts)).take (1 + e))) (a := hh3) (b := D) (xs := hs5) (ys := us.take (1 + e)) (ka := hn5) (kb := 0) (.tail _ (.head _)) (.head _) hhs5 (fun p hp => nomatch hp) (by rw [lT_take]; exact DatAll.take (1 + e) hus) (fun p hp => nomatch hp) (fun q hq => hok9 q (by rw [lT_take] at hq; exact List.mem_of_mem_take hq)) (by omega) ?_
      exact hQ _ _ _ _ (Classical.choose hT4.left) (Classical.choose hT4.right) F23 N23 (by have := Classical.choose_spec hT4.left; simp [this]) (by have := Classical.choose_spec hT4.right; simp [this])
end Mine

end
section
open PySem PySem.W PySem.Calls PyProof.Rows PySem.Spec
set_option maxRecDepth 100000
set_option maxHeartbeats 4000000
namespace Mine
def recOf (i : Nat) (x : Str) : DefRec := { name := x, params := dParams (stm i), body := dBody (stm i), scope := dScope (stm i), pos := posOf (stm i) }
section
variable {loose : List Str} {mean : ExcName → Option Value} {mg mb : Str → Option Value} {h : Heap}
theorem def_of (T : Top vw loose mean mg mb h) (i : Nat) (x : Str) (hf : (recsOf vw).find? (fun e => e.name == x) = some (recOf i x)) :
    ∃ f c P, IsDef h mg x i f (.ref c) ∧ CodeHd h c P ∧ h.get? P = some (tabObj #[]) := by
  have hm := List.mem_of_find?_eq_some hf
  obtain ⟨a, o, pm, code, doc, h1, h2, h3, h4⟩ := T.fn _ hm
  obtain ⟨a', o', fd, c, P, k1, k2, k3, k4, k5, k6⟩ := T.tab _ hm
  rw [h1] at k1
  cases k1
  rw [h2] at k2
  cases k2
  rw [h3] at k3
  cases k3
  obtain rfl : code = .ref c := k4
  exact ⟨a, c, P, ⟨h1, ⟨o, pm, doc, h2, h3⟩, h4⟩, CodeHd.of k5 k6, k6.2⟩
theorem IsDef.ghost {tabs : List (Addr × Addr)} {x : Str} {i : Nat} {f : Addr} {cdv : Value} (hT : TabsAt tabs h) (D : IsDef h mg x i f cdv) : IsDef (ghostOf h tabs) mg x i f cdv := by
  refine ⟨D.name, ?_, ?_⟩
  · obtain ⟨o, pm, doc, ho, hd⟩ := D.obj
    exact ⟨o, pm, doc, ghost_get hT ho (fun q => by rw [q] at hd; cases hd), hd⟩
  · obtain ⟨c, oc, vs, t, e, hc, hd, hv⟩ := D.code
    refine ⟨c, oc, vs, t, e, ghost_get hT hc (fun q => ?_), hd, hv⟩
    rw [q] at hd
    cases hd
    cases hv
theorem Still.ghost {tabs : List (Addr × Addr)} (hT : TabsAt tabs h) (x : Still h) : Still (ghostOf h tabs) := let ⟨mc, a, b⟩ := x; ⟨mc, ghost_ns hT a, b⟩
theorem str_of {x : Str} {z : Str} (T : Top vw loose mean mg mb h) (e : valOf vw x = some (.str z)) : ∃ t, mg x = some (.str z t) := by
  obtain ⟨v, hv, hr⟩ := T.const _ _ e
  have q := hr h
  cases q
  exact ⟨_, hv⟩
theorem isB_of {x : Str} {v : Value} (T : Top vw loose mean mg mb h) (e : bootBuiltins x = some v) (hn : x ≠ "__name__") (h1 : x ∉ startupNames) (h2 : x ∉ loose) (h3 : x ∉ (recsOf vw).map (·.name)) (h4 : x ∉ (litsOf vw).map (·.1)) (h5 : x ∉ (clssOf vw loose).map (·.name)) : IsB mg mb x v :=
  ⟨T.free x h1 h2 h3 h4 h5, (T.builtins x hn).trans e⟩
end
theorem find_parse : (recsOf vw).find? (fun e => e.name == ("_parse_array" : Str)) = some (recOf 12 "_parse_array") := by kernel_rfl
theorem find_arrayIn : (recsOf vw).find? (fun e => e.name == ("_array_in" : Str)) = some (recOf 13 "_array_in") := by kernel_rfl
theorem find_next : (recsOf vw).find? (fun e => e.name == ("_law_next" : Str)) = some (recOf 18 "_law_next") := by kernel_rfl
theorem find_text : (recsOf vw).find? (fun e => e.name == ("_law_text" : Str)) = some (recOf 19 "_law_text") := by kernel_rfl
theorem find_leaf : (recsOf vw).find? (fun e => e.name == ("_law_leaf" : Str)) = some (recOf 20 "_law_leaf") := by kernel_rfl
theorem find_tree : (recsOf vw).find? (fun e => e.name == ("_law_tree" : Str)) = some (recOf 21 "_law_tree") := by kernel_rfl
theorem find_quoted : (recsOf vw).find? (fun e => e.name == ("_law_quoted" : Str)) = some (recOf 22 "_law_quoted") := by kernel_rfl
theorem find_written : (recsOf vw).find? (fun e => e.name == ("_law_written" : Str)) = some (recOf 23 "_law_written") := by kernel_rfl
theorem find_leaves : (recsOf vw).find? (fun e => e.name == ("_law_leaves" : Str)) = some (recOf 24 "_law_leaves") := by kernel_rfl
theorem find_marked : (recsOf vw).find? (fun e => e.name == ("_law_marked" : Str)) = some (recOf 25 "_law_marked") := by kernel_rfl
theorem find_listener : (recsOf vw).find? (fun e => e.name == ("_law_listener" : Str)) = some (recOf 26 "_law_listener") := by kernel_rfl
theorem find_stopped : (recsOf vw).find? (fun e => e.name == ("_law_stopped" : Str)) = some (recOf 27 "_law_stopped") := by kernel_rfl
theorem val_word : valOf vw ("_law_WORD" : Str) = some (.str (.ofString "aZ7-.:'éあ")) := by kernel_rfl
theorem val_any : valOf vw ("_law_ANY" : Str) = some (.str (.ofString "aZ7-.:'éあ{},\"\\ \n\t()")) := by kernel_rfl
theorem val_must : valOf vw ("_law_MUST" : Str) = some (.str (.ofString "{},\"\\ \n\t()")) := by kernel_rfl
theorem boot_len : bootBuiltins "len" = some (.builtin "len") := by kernel_rfl
theorem boot_range : bootBuiltins "range" = some (.type "range") := by kernel_rfl
theorem boot_list : bootBuiltins "list" = some (.type "list") := by kernel_rfl
theorem boot_isinstance : bootBuiltins "isinstance" = some (.builtin "isinstance") := by kernel_rfl
theorem boot_any : bootBuiltins "any" = some (.builtin "any") := by kernel_rfl
theorem boot_valueError : bootBuiltins "ValueError" = some (.type "ValueError") := by kernel_rfl
theorem ka_noTabs (P : Params) : noTabs (Ka P) = true := by kernel_rfl
/-- none of the text's names is this built-in's -/
def offNames (x : Str) : Bool := x != "__name__" && !(startupNames.contains x) && !((looseW vw looseS).contains x) && !(((recsOf vw).map (·.name)).contains x) && !(((litsOf vw).map (·.1)).contains x) && !(((clssOf vw (looseW vw looseS)).map (·.name)).contains x)
theorem isB_off {mean : ExcName → Option Value} {mg mb : Str → Option Value} {h : Heap} {x : Str} {v : Value} (T : Top vw (looseW vw looseS) mean mg mb h) (e : bootBuiltins x = some v) (o : offNames x = true) : IsB mg mb x v := by
  simp only [offNames, Bool.and_eq_true, Bool.not_eq_true', bne_iff_ne, ne_eq] at o
  obtain ⟨⟨⟨⟨⟨o1, o2⟩, o3⟩, o4⟩, o5⟩, o6⟩ := o
  have k : ∀ {l : List Str}, l.contains x = false → x ∉ l := fun e m => by rw [List.contains_iff_mem.mpr m] at e; cases e
  exact isB_of T e o1 (k o2) (k o3) (k o4) (k o5) (k o6)
theorem off_len : offNames "len" = true := by kernel_rfl
theorem off_range : offNames "range" = true := by kernel_rfl
theorem off_list : offNames "list" = true := by kernel_rfl
theorem off_isinstance : offNames "isinstance" = true := by kernel_rfl
theorem off_any : offNames "any" = true := by kernel_rfl
theorem off_valueError : offNames "ValueError" = true := by kernel_rfl
/-- all that stands at the top, the two tables hidden -/
theorem lib_of {w : World} {mean : ExcName → Option Value} {mg mb : Str → Option Value} {h : Heap} (T : Top vw (looseW vw looseS) mean mg mb h) (X : (Ka w.params).In h) (st : Still h) (ps : mg "ParserState" = some (.ref 608)) :
    ∃ f1 c1 P1 f2 c2 P2, TabsAt [(c1, P1), (c2, P2)] h ∧ Lib w mg mb (ghostOf h [(c1, P1), (c2, P2)]) ∧ IsDef (ghostOf h [(c1, P1), (c2, P2)]) mg "_law_listener" 26 f1 (.ref c1) ∧ CodeHd (ghostOf h [(c1, P1), (c2, P2)]) c1 P1 ∧
      IsDef (ghostOf h [(c1, P1), (c2, P2)]) mg "_array_in" 13 f2 (.ref c2) ∧ CodeHd (ghostOf h [(c1, P1), (c2, P2)]) c2 P2 := by
  obtain ⟨f1, c1, P1, D1, C1, t1⟩ := def_of T 26 "_law_listener" find_listener
  obtain ⟨f2, c2, P2, D2, C2, t2⟩ := def_of T 13 "_array_in" find_arrayIn
  have hT : TabsAt [(c1, P1), (c2, P2)] h := fun q hq => by
    simp only [List.mem_cons, List.not_mem_nil, or_false] at hq
    rcases hq with rfl | rfl
    · exact ⟨C1, t1⟩
    · exact ⟨C2, t2⟩
  obtain ⟨g1, g2, _⟩ := ghost_code hT
  have T' := ghost_top hT T
  have one : ∀ (i : Nat) (x : Str), (recsOf vw).find? (fun e => e.name == x) = some (recOf i x) → ∃ f c, IsDef (ghostOf h [(c1, P1), (c2, P2)]) mg x i f c := fun i x e => by
    obtain ⟨f, c, _, D, _, _⟩ := def_of T i x e
    exact ⟨f, _, D.ghost hT⟩
  refine ⟨f1, c1, P1, f2, c2, P2, hT, ?_, D1.ghost hT, g1, D2.ghost hT, g2⟩
  exact { g := T'.g, b := T'.b, nolimit := T'.nolimit, X := ghost_K hT X (ka_noTabs _), still := st.ghost hT, T := ⟨_, _, T'⟩
          parse := one 12 _ find_parse, arrayIn := ⟨f2, c2, P2, D2.ghost hT, g2⟩, next := one 18 _ find_next, text := one 19 _ find_text, leaf := one 20 _ find_leaf, tree := one 21 _ find_tree
          quoted := one 22 _ find_quoted, written := one 23 _ find_written, leaves := one 24 _ find_leaves, marked := one 25 _ find_marked, listener := ⟨f1, c1, P1, D1.ghost hT, g1⟩, stopped := one 27 _ find_stopped
          word := str_of T val_word, any' := str_of T val_any, must := str_of T val_must, state := ps, len := isB_off T boot_len off_len, range := isB_off T boot_range off_range, list := isB_off T boot_list off_list
          isinstance := isB_off T boot_isinstance off_isinstance, any := isB_off T boot_any off_any, valueError := isB_off T boot_valueError off_valueError }
theorem fr_script {h h' : Heap} {L : Addr} {v : Value} (F : Fr h L h' (fun y => List.lookup y ([(("script" : Str), v)] : List (Str × Value)).reverse)) : Fr h L h' (fun y => if y = ("script" : Str) then some v else none) := by
  have e : (fun y => List.lookup y ([(("script" : Str), v)] : List (Str × Value)).reverse) = (fun y => if y = ("script" : Str) then some v else none) := by
    funext y
    by_cases q : y = ("script" : Str)
    · subst q
      rw [if_pos rfl]
      exact List.lookup_cons_self
    · rw [if_neg q]
      show List.lookup y [(("script" : Str), v)] = none
      rw [List.lookup_cons, beq_eq_false_iff_ne.mpr q]
      rfl
  rw [← e]
  exact F
theorem tabs_start (P1 P2 : Addr) : ∃ tl, Tabs P1 P2 true tl [] ∧ ∀ p ∈ tl, p ∈ [(P1, tabObj #[]), (P2, tabObj #[])] := by
  by_cases h : P1 = P2
  · exact ⟨[(P1, tabObj #[])], ⟨#[], #[], ⟨trivial, .inl rfl⟩, trivial, fun _ => rfl, .inr ⟨rfl, h, rfl⟩⟩, fun p hp => by rw [List.mem_singleton.mp hp]; exact .head _⟩
  · exact ⟨_, ⟨#[], #[], ⟨trivial, .inl rfl⟩, trivial, fun _ => rfl, .inl ⟨rfl, h⟩⟩, fun p hp => hp⟩
end Mine

end
open PySem PySem.W PySem.Calls PyProof.Rows PySem.Spec
set_option maxRecDepth 100000
set_option maxHeartbeats 8000000
namespace Mine
theorem Ka_in {w : World} {s : Shared} (e : Yf s = Kv w.params) : (Ka w.params).In s.heap := Frag.in_of (as := adrs) rfl e
theorem ps_of {s : Shared} (x : psAt s = true) : s.heap.nsMap mainGlobals "ParserState" = some (.ref 608) := by
  unfold psAt at x
  split at x
  · rename_i a e
    rw [e, eq_of_beq x]
  · cases x
end Mine
theorem PySem.Challenge.cw_ej5022_01_holds : PySem.Challenge.rw_ej5022_01.Holds := by
  w_on
  o_law
  refine PySem.W.holds_open (q := Mine.vw) (loose := Mine.looseS) (Xt := Mine.Xt) (XP := fun mg h => XL Mine.vw [] mg h ∧ (Mine.Still h ∧ mg "ParserState" = some (.ref 608))) (Yf := Mine.Yf) (Ya := fun w => Mine.Kv w.params) (YP := fun w h => (Mine.Ka w.params).In h) (N := 20000)
    Mine.left (fun w s e => Mine.Ka_in e) (fun w h h' x k => x.keeps k) (fun s e => ⟨xl_of s (Bool.and_eq_true_iff.mp (Bool.and_eq_true_iff.mp e).1).1, Mine.Still.of (Bool.and_eq_true_iff.mp (Bool.and_eq_true_iff.mp (Bool.and_eq_true_iff.mp e).1).2).1, Mine.ps_of (Bool.and_eq_true_iff.mp (Bool.and_eq_true_iff.mp (Bool.and_eq_true_iff.mp e).1).2).2⟩) (fun mg h h' x k => ⟨XL.keeps mg _ _ x.1 k, x.2.1.keeps k, x.2.2⟩)
    (by rfl) (by rfl) (by rfl) (fun s e => recFacts_of (Bool.and_eq_true_iff.mp e).2) (by rfl) (by assumption) (by decide +kernel) ⟨rfl, rfl, rfl, rfl, rfl, by decide +kernel⟩ ?hw ?hc
  case hw => w_witness2
  intro w s₀ s₁ mg mb G Y fa o pm cd doc dV kV ho hd hcd hD hmg hg args vals as hpre hlay hrd hwl hlo
  have X := Ground.X G
  refine Ground.open G ?_
  intro T B D TE TW
  obtain ⟨f1, c1, P1, f2, c2, P2, hT9, lib, D1, C1, D2, C2⟩ := Mine.lib_of T Y X.2.1 X.2.2
  wrow_args hpre hlay hrd hwl hlo
  refine enter_call ?_
  w_top on
  refine kn_post hT9 (fun _ _ => rfl) ?_
  w_call any ho hd hcd hD T F
  rename Heap.IsList _ _ _ => hL
  rename IntsAre _ _ => hI
  rename ¬ (_ : Int) < _ => h63
  rename News _ _ _ _ => N0
  have hlen := Int.not_lt.mp h63
  obtain ⟨tl, hTab, hsub⟩ := Mine.tabs_start P1 P2
  refine Mine.law_spec (A₀ := callerA) lib rfl (ghost_below hT9) rfl lib.g lib.b (Mine.fr_script (ghost_fr hT9 F)) (Mine.News.sub (ghost_news hT9 F N0) hsub) D1 C1 D2 C2 hTab (ghost_list hT9 hL) hI (by omega) (by show callerA.depth + 1 + 30 < recursionLimit; decide +kernel) (by show callerA.units + 3 + 200 < cLine; decide +kernel) (fun m' h' tk2 news' ps1 ps2 F9 N9 hm1 hm2 => ?_)
  refine ⟨?_, GrownAt.of N9 hm1, GrownAt.of N9 hm2, trivial⟩
  show GoodW _ _ _ _ _ (.ok (.ret (.bool true))) _
  refine goodW_bool F9 hg (raisesW_false ?_) ?_
  · wrow_none_raised
  · kc_post
