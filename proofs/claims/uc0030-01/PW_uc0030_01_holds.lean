import PyProof.Rows.All
import Wide.All
import OpenK.AllK
import Wide.FinOn
import Lean
import PySem.Challenge.RW_uc0030_01
set_option Elab.async false
set_option maxRecDepth 100000
set_option compiler.extract_closed false
set_option linter.all false
section
open PySem PySem.W PyProof.Rows
set_option maxHeartbeats 0
namespace Mine
/-- a list of objects as a tree, each insertion looked at -/
noncomputable def grow : BT → Nat → List Obj → Option BT
  | t, _, [] => some t
  | t, n, o :: l => match ((t.ins n o).get n).isSome with
    | true => grow (t.ins n o) (n + 1) l
    | false => none
theorem grow_abs (life : Life) : ∀ {l : List Obj} {t t' : BT} {n : Nat}, grow t n l = some t' → absHeap t' (n + l.length) life = ⟨(absHeap t n life).objs ++ l, life⟩
  | [], t, t', n, h => by
    cases h
    show absHeap t n life = ⟨(absHeap t n life).objs ++ ([] : List Obj), life⟩
    simp
    rfl
  | o :: l, t, t', n, h => by
    unfold grow at h
    cases e : ((t.ins n o).get n).isSome with
    | false => rw [e] at h; cases h
    | true =>
      rw [e] at h
      have k := grow_abs life h
      rw [show n + 1 + l.length = n + (o :: l).length from by simp only [List.length_cons]; omega] at k
      rw [k, absHeap_ins e]
      show Heap.mk ((absHeap t n life).objs.push o ++ l) life = _
      exact congrArg (Heap.mk · life) (by simp)
noncomputable def treeOf (s : Shared) : Option SharedT := (grow .nil 0 s.heap.objs.toList).map fun t => ⟨t, s.heap.objs.size, s.heap.life, s.gens, s.drawn, s.toks, s.os⟩
theorem treeOf_abs {s : Shared} {T : SharedT} (h : treeOf s = some T) : T.abs = s := by
  obtain ⟨t, ht, rfl⟩ := Option.map_eq_some_iff.mp h
  obtain ⟨⟨objs, life⟩, gens, drawn, toks, os⟩ := s
  have k := grow_abs life ht
  rw [Nat.zero_add] at k
  show Shared.mk (absHeap t objs.toList.length life) gens drawn toks os = _
  rw [k]
  congr 2
  apply Array.toList_inj.mp
  show ((absHeap BT.nil 0 life).objs ++ objs.toList).toList = _
  simp [absHeap, BT.list]
noncomputable def topU (stp : SharedT → Thread → Option (SharedT × Thread)) (ok : Thread → Bool) : Nat → SharedT → Thread → Option SharedT
  | 0, _, _ => none
  | n + 1, s, t => match through t with
    | true => some s
    | false => match ok t with
      | false => none
      | true => match stp s t with
        | some (s', t') => topU stp ok n s' t'
        | none => none
theorem topU_abs {tb : String → Option Builtin} {p : Program} {w : World} {n₀ : Nat} {ann : Option Value} {s' : SharedT} : ∀ (n : Nat) (s : SharedT) (t : Thread), topU (stepT (denote tb) p w) (stepOk n₀ ann) n s t = some s' → topRun tb p w n₀ ann n s.abs t = some s'.abs
  | 0, _, _ => fun h => nomatch h
  | n + 1, s, t => by
    show (match through t with | true => some s | false => match stepOk n₀ ann t with | false => none | true => match stepT (denote tb) p w s t with | some (s', t') => topU (stepT (denote tb) p w) (stepOk n₀ ann) n s' t' | none => none) = some s' →
      (match through t with | true => some s.abs | false => match stepOk n₀ ann t with | false => none | true => match step (denote tb) p w s.abs t with | .go s' t' => topRun tb p w n₀ ann n s' t' | .halt _ _ => none) = some s'.abs
    generalize through t = b1, stepOk n₀ ann t = b2
    match b1, b2 with
    | true, _ => exact congrArg (Option.map SharedT.abs)
    | false, false => exact fun h => nomatch h
    | false, true =>
      cases hs : stepT (denote tb) p w s t with
      | none => exact fun h => nomatch h
      | some r => rw [stepT_spec hs]; exact topU_abs n r.1 r.2
noncomputable def ownTop (den : Code → Sem Fin) (stp : (Code → Sem Fin) → Program → World → SharedT → Thread → Option (SharedT × Thread)) (ok : Nat → Option Value → Thread → Bool) (p : Program) (w : World) (N : Nat) (s₀ : Shared) : Option Shared :=
  match s₀.heap.isNs mainGlobals && s₀.gens.size == 0 with
  | true => (treeOf s₀).bind fun T => ((topU (stp den p w) (ok s₀.heap.objs.size (s₀.heap.nsMap mainGlobals "__annotations__")) N T (topStub p)).map SharedT.abs).bind fun s₁ =>
      match staticsOk (importedModules p.main.body) s₀.heap s₁.heap && namesBound p s₁.heap && gensDone s₁ && laidKept s₀.heap s₁.heap with
      | true => some s₁
      | false => none
  | false => none
theorem ownTop_top {tb : String → Option Builtin} {p : Program} {w : World} {N : Nat} {s₀ s : Shared} : ownTop (denote tb) stepT stepOk p w N s₀ = some s → topFrom tb p w N s₀ = some s := by
  unfold ownTop topFrom
  cases s₀.heap.isNs mainGlobals && s₀.gens.size == 0 with
  | false => exact id
  | true =>
    intro h
    obtain ⟨T, hT, h⟩ := Option.bind_eq_some_iff.mp h
    obtain ⟨s₁, h1, h⟩ := Option.bind_eq_some_iff.mp h
    obtain ⟨T₁, h2, rfl⟩ := Option.map_eq_some_iff.mp h1
    have e := topU_abs _ _ _ h2
    rw [treeOf_abs hT] at e
    exact Option.bind_eq_some_iff.mpr ⟨_, e, h⟩
/-- what the head's run leans on: the semantics' own functions, or the library's quick twins of them -/
abbrev Eng : Type := (type_of% @importEnds) × (type_of% @fenceModules?) × (type_of% @start) × (String → Option Builtin) × (type_of% @stepT) × (type_of% @denote) × (type_of% @stepOk) × (type_of% @openSeen)
noncomputable def endsBy (e : Eng) (p : Program) (w : World) (N : Nat) : Option Shared :=
  ((e.1 e.2.2.2.1 (opening p) w N (e.2.2.1 (opening p)).1 (e.2.2.1 (opening p)).2).bind (e.2.1 p)).bind (ownTop (e.2.2.2.2.2.1 e.2.2.2.1) e.2.2.2.2.1 e.2.2.2.2.2.2.1 p w N)
noncomputable def eng : Eng := (@importEnds, @fenceModules?, @start, treeTable, @stepT, @denote, @stepOk, @openSeen)
noncomputable def twins : Eng := (@PySem.W.Fast.tw10274390034422433532, @PySem.W.Fast.tw14289696077712309145, @PySem.W.Fast.tw1435165496053646825, PySem.W.Fast.tw14364793385576792824, @PySem.W.Fast.tw10156331382660048174, @PySem.W.Fast.tw11892475500146522536, @PySem.W.Fast.tw6613529449190102663, @PySem.W.Fast.tw4187177175401517315)
theorem twins_eq : eng = twins := by
  unfold eng
  rw [PySem.W.Fast.te10274390034422433532, PySem.W.Fast.te14289696077712309145, PySem.W.Fast.te1435165496053646825, PySem.W.Fast.te14364793385576792824, PySem.W.Fast.te10156331382660048174, PySem.W.Fast.te11892475500146522536, PySem.W.Fast.te6613529449190102663, PySem.W.Fast.te4187177175401517315]
  rfl
theorem left_of_twins {p q : Program} {loose : List Str} {Xt : Shared → Bool} {α : Type} {Yf : Shared → α} {Ya : World → α} {N : Nat}
    (h : ∀ w, (endsBy twins p w N).map (fun s => (twins.2.2.2.2.2.2.2 q loose (importedModules p.main.body) Xt true s, Yf s)) = some (openGood q loose, Ya w)) : LeftO p q loose Xt Yf Ya N := fun w => by
  rw [← twins_eq] at h
  obtain ⟨s, hs, x⟩ := Option.map_eq_some_iff.mp (h w)
  obtain ⟨s₀, h0, h1⟩ := Option.bind_eq_some_iff.mp hs
  exact Option.map_eq_some_iff.mpr ⟨s, Option.bind_eq_some_iff.mpr ⟨s₀, h0, ownTop_top h1⟩, x⟩
/- the row's program once more, put together from its own pieces (each read off the row by the unifier): the library's quick twins are then made piece by piece -/
def ofEq {α : Type} {a : α} (_ : a = a) : α := a
noncomputable def topB : List Stmt := PySem.Challenge.pw_uc0030_01.main.body
noncomputable def bodyOf (s : Option Stmt) : List Stmt := match s with | some (.FunctionDef _ _ b _ _ _ _ _ _ _) => b | some (.ClassDef _ _ _ b _ _ _ _ _ _ _) => b | _ => []
def Whole : Option Stmt → Prop | some s => s = s | none => False
def Shell : Option Stmt → Prop
  | some (.FunctionDef a b _ c d e f g h i) => Stmt.FunctionDef a b [] c d e f g h i = Stmt.FunctionDef a b [] c d e f g h i
  | some (.ClassDef a b c _ d e f g h i j) => Stmt.ClassDef a b c [] d e f g h i j = Stmt.ClassDef a b c [] d e f g h i j
  | _ => False
def Frame : Program → Prop
  | ⟨⟨_, a, b, c, d⟩, e, f, g, h, i⟩ => (⟨⟨[], a, b, c, d⟩, e, f, g, h, i⟩ : Program) = ⟨⟨[], a, b, c, d⟩, e, f, g, h, i⟩
noncomputable def fill (l : List Stmt) (s : Stmt) : Stmt := match s with | .FunctionDef a b _ c d e f g h i => .FunctionDef a b l c d e f g h i | .ClassDef a b c _ d e f g h i j => .ClassDef a b c l d e f g h i j | s => s
noncomputable def frame : Program := ofEq (rfl : Frame PySem.Challenge.pw_uc0030_01)
noncomputable def w0 : Stmt := ofEq (rfl : Whole topB[0]?)
noncomputable def w1 : Stmt := ofEq (rfl : Whole topB[1]?)
noncomputable def w2 : Stmt := ofEq (rfl : Whole topB[2]?)
noncomputable def w3 : Stmt := ofEq (rfl : Shell topB[3]?)
noncomputable def w3x0 : Stmt := ofEq (rfl : Whole (bodyOf topB[3]?)[0]?)
noncomputable def w3x1 : Stmt := ofEq (rfl : Whole (bodyOf topB[3]?)[1]?)
noncomputable def w3x2 : Stmt := ofEq (rfl : Whole (bodyOf topB[3]?)[2]?)
noncomputable def w3x3 : Stmt := ofEq (rfl : Whole (bodyOf topB[3]?)[3]?)
noncomputable def w3x4 : Stmt := ofEq (rfl : Whole (bodyOf topB[3]?)[4]?)
noncomputable def f3 : Stmt := fill [w3x0, w3x1, w3x2, w3x3, w3x4] w3
noncomputable def w4 : Stmt := ofEq (rfl : Whole topB[4]?)
noncomputable def w5 : Stmt := ofEq (rfl : Shell topB[5]?)
noncomputable def w5x0 : Stmt := ofEq (rfl : Whole (bodyOf topB[5]?)[0]?)
noncomputable def w5x1 : Stmt := ofEq (rfl : Whole (bodyOf topB[5]?)[1]?)
noncomputable def f5 : Stmt := fill [w5x0, w5x1] w5
noncomputable def w6 : Stmt := ofEq (rfl : Shell topB[6]?)
noncomputable def w6x0 : Stmt := ofEq (rfl : Whole (bodyOf topB[6]?)[0]?)
noncomputable def w6x1 : Stmt := ofEq (rfl : Whole (bodyOf topB[6]?)[1]?)
noncomputable def w6x2 : Stmt := ofEq (rfl : Whole (bodyOf topB[6]?)[2]?)
noncomputable def w6x3 : Stmt := ofEq (rfl : Whole (bodyOf topB[6]?)[3]?)
noncomputable def f6 : Stmt := fill [w6x0, w6x1, w6x2, w6x3] w6
noncomputable def w7 : Stmt := ofEq (rfl : Shell topB[7]?)
noncomputable def w7x0 : Stmt := ofEq (rfl : Whole (bodyOf topB[7]?)[0]?)
noncomputable def w7x1 : Stmt := ofEq (rfl : Whole (bodyOf topB[7]?)[1]?)
noncomputable def w7x2 : Stmt := ofEq (rfl : Whole (bodyOf topB[7]?)[2]?)
noncomputable def w7x3 : Stmt := ofEq (rfl : Whole (bodyOf topB[7]?)[3]?)
noncomputable def f7 : Stmt := fill [w7x0, w7x1, w7x2, w7x3] w7
noncomputable def w8 : Stmt := ofEq (rfl : Whole topB[8]?)
noncomputable def w9 : Stmt := ofEq (rfl : Whole topB[9]?)
noncomputable def w10 : Stmt := ofEq (rfl : Whole topB[10]?)
noncomputable def w11 : Stmt := ofEq (rfl : Whole topB[11]?)
noncomputable def w12 : Stmt := ofEq (rfl : Whole topB[12]?)
noncomputable def w13 : Stmt := ofEq (rfl : Shell topB[13]?)
noncomputable def w13x0 : Stmt := ofEq (rfl : Whole (bodyOf topB[13]?)[0]?)
noncomputable def w13x1 : Stmt := ofEq (rfl : Whole (bodyOf topB[13]?)[1]?)
noncomputable def w13x2 : Stmt := ofEq (rfl : Whole (bodyOf topB[13]?)[2]?)
noncomputable def w13x3 : Stmt := ofEq (rfl : Whole (bodyOf topB[13]?)[3]?)
noncomputable def w13x4 : Stmt := ofEq (rfl : Whole (bodyOf topB[13]?)[4]?)
noncomputable def w13x5 : Stmt := ofEq (rfl : Whole (bodyOf topB[13]?)[5]?)
noncomputable def w13x6 : Stmt := ofEq (rfl : Whole (bodyOf topB[13]?)[6]?)
noncomputable def w13x7 : Stmt := ofEq (rfl : Whole (bodyOf topB[13]?)[7]?)
noncomputable def w13x8 : Stmt := ofEq (rfl : Whole (bodyOf topB[13]?)[8]?)
noncomputable def w13x9 : Stmt := ofEq (rfl : Whole (bodyOf topB[13]?)[9]?)
noncomputable def w13x10 : Stmt := ofEq (rfl : Whole (bodyOf topB[13]?)[10]?)
noncomputable def w13x11 : Stmt := ofEq (rfl : Whole (bodyOf topB[13]?)[11]?)
noncomputable def w13x12 : Stmt := ofEq (rfl : Whole (bodyOf topB[13]?)[12]?)
noncomputable def w13x13 : Stmt := ofEq (rfl : Whole (bodyOf topB[13]?)[13]?)
noncomputable def w13x14 : Stmt := ofEq (rfl : Whole (bodyOf topB[13]?)[14]?)
noncomputable def w13x15 : Stmt := ofEq (rfl : Whole (bodyOf topB[13]?)[15]?)
noncomputable def w13x16 : Stmt := ofEq (rfl : Whole (bodyOf topB[13]?)[16]?)
noncomputable def f13 : Stmt := fill [w13x0, w13x1, w13x2, w13x3, w13x4, w13x5, w13x6, w13x7, w13x8, w13x9, w13x10, w13x11, w13x12, w13x13, w13x14, w13x15, w13x16] w13
noncomputable def w14 : Stmt := ofEq (rfl : Whole topB[14]?)
noncomputable def w15 : Stmt := ofEq (rfl : Shell topB[15]?)
noncomputable def w15x0 : Stmt := ofEq (rfl : Whole (bodyOf topB[15]?)[0]?)
noncomputable def w15x1 : Stmt := ofEq (rfl : Whole (bodyOf topB[15]?)[1]?)
noncomputable def w15x2 : Stmt := ofEq (rfl : Whole (bodyOf topB[15]?)[2]?)
noncomputable def f15 : Stmt := fill [w15x0, w15x1, w15x2] w15
noncomputable def w16 : Stmt := ofEq (rfl : Whole topB[16]?)
noncomputable def w17 : Stmt := ofEq (rfl : Whole topB[17]?)
noncomputable def w18 : Stmt := ofEq (rfl : Shell topB[18]?)
noncomputable def w18x0 : Stmt := ofEq (rfl : Whole (bodyOf topB[18]?)[0]?)
noncomputable def w18x1 : Stmt := ofEq (rfl : Whole (bodyOf topB[18]?)[1]?)
noncomputable def w18x2 : Stmt := ofEq (rfl : Whole (bodyOf topB[18]?)[2]?)
noncomputable def f18 : Stmt := fill [w18x0, w18x1, w18x2] w18
noncomputable def w19 : Stmt := ofEq (rfl : Shell topB[19]?)
noncomputable def w19x0 : Stmt := ofEq (rfl : Whole (bodyOf topB[19]?)[0]?)
noncomputable def w19x1 : Stmt := ofEq (rfl : Whole (bodyOf topB[19]?)[1]?)
noncomputable def w19x2 : Stmt := ofEq (rfl : Whole (bodyOf topB[19]?)[2]?)
noncomputable def f19 : Stmt := fill [w19x0, w19x1, w19x2] w19
noncomputable def w20 : Stmt := ofEq (rfl : Shell topB[20]?)
noncomputable def w20x0 : Stmt := ofEq (rfl : Whole (bodyOf topB[20]?)[0]?)
noncomputable def w20x1 : Stmt := ofEq (rfl : Whole (bodyOf topB[20]?)[1]?)
noncomputable def w20x2 : Stmt := ofEq (rfl : Whole (bodyOf topB[20]?)[2]?)
noncomputable def f20 : Stmt := fill [w20x0, w20x1, w20x2] w20
noncomputable def w21 : Stmt := ofEq (rfl : Shell topB[21]?)
noncomputable def w21x0 : Stmt := ofEq (rfl : Whole (bodyOf topB[21]?)[0]?)
noncomputable def w21x1 : Stmt := ofEq (rfl : Whole (bodyOf topB[21]?)[1]?)
noncomputable def w21x2 : Stmt := ofEq (rfl : Whole (bodyOf topB[21]?)[2]?)
noncomputable def f21 : Stmt := fill [w21x0, w21x1, w21x2] w21
noncomputable def w22 : Stmt := ofEq (rfl : Shell topB[22]?)
noncomputable def w22x0 : Stmt := ofEq (rfl : Whole (bodyOf topB[22]?)[0]?)
noncomputable def w22x1 : Stmt := ofEq (rfl : Whole (bodyOf topB[22]?)[1]?)
noncomputable def f22 : Stmt := fill [w22x0, w22x1] w22
noncomputable def w23 : Stmt := ofEq (rfl : Shell topB[23]?)
noncomputable def w23x0 : Stmt := ofEq (rfl : Whole (bodyOf topB[23]?)[0]?)
noncomputable def w23x1 : Stmt := ofEq (rfl : Whole (bodyOf topB[23]?)[1]?)
noncomputable def w23x2 : Stmt := ofEq (rfl : Whole (bodyOf topB[23]?)[2]?)
noncomputable def w23x3 : Stmt := ofEq (rfl : Whole (bodyOf topB[23]?)[3]?)
noncomputable def w23x4 : Stmt := ofEq (rfl : Whole (bodyOf topB[23]?)[4]?)
noncomputable def f23 : Stmt := fill [w23x0, w23x1, w23x2, w23x3, w23x4] w23
noncomputable def w24 : Stmt := ofEq (rfl : Shell topB[24]?)
noncomputable def w24x0 : Stmt := ofEq (rfl : Whole (bodyOf topB[24]?)[0]?)
noncomputable def w24x1 : Stmt := ofEq (rfl : Whole (bodyOf topB[24]?)[1]?)
noncomputable def w24x2 : Stmt := ofEq (rfl : Whole (bodyOf topB[24]?)[2]?)
noncomputable def f24 : Stmt := fill [w24x0, w24x1, w24x2] w24
noncomputable def w25 : Stmt := ofEq (rfl : Shell topB[25]?)
noncomputable def w25x0 : Stmt := ofEq (rfl : Whole (bodyOf topB[25]?)[0]?)
noncomputable def w25x1 : Stmt := ofEq (rfl : Whole (bodyOf topB[25]?)[1]?)
noncomputable def w25x2 : Stmt := ofEq (rfl : Whole (bodyOf topB[25]?)[2]?)
noncomputable def f25 : Stmt := fill [w25x0, w25x1, w25x2] w25
noncomputable def w26 : Stmt := ofEq (rfl : Shell topB[26]?)
noncomputable def w26x0 : Stmt := ofEq (rfl : Whole (bodyOf topB[26]?)[0]?)
noncomputable def w26x1 : Stmt := ofEq (rfl : Whole (bodyOf topB[26]?)[1]?)
noncomputable def w26x2 : Stmt := ofEq (rfl : Whole (bodyOf topB[26]?)[2]?)
noncomputable def f26 : Stmt := fill [w26x0, w26x1, w26x2] w26
noncomputable def w27 : Stmt := ofEq (rfl : Shell topB[27]?)
noncomputable def w27x0 : Stmt := ofEq (rfl : Whole (bodyOf topB[27]?)[0]?)
noncomputable def w27x1 : Stmt := ofEq (rfl : Whole (bodyOf topB[27]?)[1]?)
noncomputable def w27x2 : Stmt := ofEq (rfl : Whole (bodyOf topB[27]?)[2]?)
noncomputable def w27x3 : Stmt := ofEq (rfl : Whole (bodyOf topB[27]?)[3]?)
noncomputable def w27x4 : Stmt := ofEq (rfl : Whole (bodyOf topB[27]?)[4]?)
noncomputable def w27x5 : Stmt := ofEq (rfl : Whole (bodyOf topB[27]?)[5]?)
noncomputable def w27x6 : Stmt := ofEq (rfl : Whole (bodyOf topB[27]?)[6]?)
noncomputable def w27x7 : Stmt := ofEq (rfl : Whole (bodyOf topB[27]?)[7]?)
noncomputable def w27x8 : Stmt := ofEq (rfl : Whole (bodyOf topB[27]?)[8]?)
noncomputable def w27x9 : Stmt := ofEq (rfl : Whole (bodyOf topB[27]?)[9]?)
noncomputable def w27x10 : Stmt := ofEq (rfl : Whole (bodyOf topB[27]?)[10]?)
noncomputable def w27x11 : Stmt := ofEq (rfl : Whole (bodyOf topB[27]?)[11]?)
noncomputable def w27x12 : Stmt := ofEq (rfl : Whole (bodyOf topB[27]?)[12]?)
noncomputable def w27x13 : Stmt := ofEq (rfl : Whole (bodyOf topB[27]?)[13]?)
noncomputable def w27x14 : Stmt := ofEq (rfl : Whole (bodyOf topB[27]?)[14]?)
noncomputable def w27x15 : Stmt := ofEq (rfl : Whole (bodyOf topB[27]?)[15]?)
noncomputable def w27x16 : Stmt := ofEq (rfl : Whole (bodyOf topB[27]?)[16]?)
noncomputable def w27x17 : Stmt := ofEq (rfl : Whole (bodyOf topB[27]?)[17]?)
noncomputable def w27x18 : Stmt := ofEq (rfl : Whole (bodyOf topB[27]?)[18]?)
noncomputable def w27x19 : Stmt := ofEq (rfl : Whole (bodyOf topB[27]?)[19]?)
noncomputable def w27x20 : Stmt := ofEq (rfl : Whole (bodyOf topB[27]?)[20]?)
noncomputable def w27x21 : Stmt := ofEq (rfl : Whole (bodyOf topB[27]?)[21]?)
noncomputable def w27x22 : Stmt := ofEq (rfl : Whole (bodyOf topB[27]?)[22]?)
noncomputable def w27x23 : Stmt := ofEq (rfl : Whole (bodyOf topB[27]?)[23]?)
noncomputable def f27 : Stmt := fill [w27x0, w27x1, w27x2, w27x3, w27x4, w27x5, w27x6, w27x7, w27x8, w27x9, w27x10, w27x11, w27x12, w27x13, w27x14, w27x15, w27x16, w27x17, w27x18, w27x19, w27x20, w27x21, w27x22, w27x23] w27
noncomputable def prog2 : Program := { frame with main := { frame.main with body := [w0, w1, w2, f3, w4, f5, f6, f7, w8, w9, w10, w11, w12, f13, w14, f15, w16, w17, f18, f19, f20, f21, f22, f23, f24, f25, f26, f27] } }
noncomputable def rw2 : OpenLaw := { prog := prog2, name := Str.ofString "law", about := [Str.ofString "_strip_padding"], foot := 13, most := some 63, bound := none, writes := false }
theorem rw2_eq : PySem.Challenge.rw_uc0030_01 = rw2 := by kernel_rfl
theorem holds2 (k : (OpenLaw.row rw2).wellSaid = true → OpenRow.Holds (OpenLaw.row rw2)) : rw2.Holds := by
  w_on
  o_law
  exact k (by assumption)
theorem law_of (k : (OpenLaw.row PySem.Challenge.rw_uc0030_01).wellSaid = true → OpenRow.Holds (OpenLaw.row PySem.Challenge.rw_uc0030_01)) : PySem.Challenge.rw_uc0030_01.Holds := by
  rw [rw2_eq] at k ⊢
  exact holds2 k
local macro_rules | `(tactic| o_law) => `(tactic| refine law_of fun said => ?_)
def keepN : List Nat := [0, 1, 3, 9, 10, 11, 13, 15, 16, 17, 18, 19, 20, 21, 22, 23, 24, 25, 26, 27]
def theView : Program := { PySem.Challenge.pw_uc0030_01 with main := { PySem.Challenge.pw_uc0030_01.main with body := keepN.filterMap fun i => PySem.Challenge.pw_uc0030_01.main.body[i]? } }
def loose0 : List Str := [Str.ofString "insort_right", Str.ofString "bisect_right", Str.ofString "bisect_left", Str.ofString "tspecials", Str.ofString "_name_disallowed_re", Str.ofString "_value_disallowed_re", Str.ofString "_formatparam"]
noncomputable def XT (s : Shared) : Bool := xlAt theView [] s && recOk (RowW.records (OpenRow.toRowW (OpenLaw.row PySem.Challenge.rw_uc0030_01))) s
theorem head_of (H : Hook) {d : DefRec} {kwd : List (Str × Expr)} (hl : LeftO (OpenLaw.row PySem.Challenge.rw_uc0030_01).prog theView loose0 XT H.obs H.val 3346) (hdef : defOf theView (OpenLaw.row PySem.Challenge.rw_uc0030_01).name = some (d, kwd))
    (hp : (OpenLaw.row PySem.Challenge.rw_uc0030_01).prog.theDef (OpenLaw.row PySem.Challenge.rw_uc0030_01).name = some (d.params, d.body, d.scope)) (hk : kwWritten? d.params.kwonlyargs d.params.kw_defaults = some kwd) (k1 : (OpenLaw.row PySem.Challenge.rw_uc0030_01).wellSaid = true) (hw : (OpenLaw.row PySem.Challenge.rw_uc0030_01).toRowW.promised)
    (hc : WalkO theView loose0 (XL theView []) H.says (OpenLaw.row PySem.Challenge.rw_uc0030_01).toRowW d kwd fun f vs => PySem.call f vs) : (OpenLaw.row PySem.Challenge.rw_uc0030_01).Holds :=
  holds_open (Xt := XT) hl H.of H.keeps (fun s e => xl_of s (Bool.and_eq_true_iff.mp e).1) XL.keeps hdef hp hk (fun s e => recFacts_of (Bool.and_eq_true_iff.mp e).2) (by rfl) k1 (by decide +kernel) ⟨rfl, rfl, rfl, rfl, rfl, by decide +kernel⟩ hw hc
local macro_rules | `(tactic| o_head $H:term) => `(tactic| (
  refine head_of $H (left_of_twins ?hl) (by rfl) (by rfl) (by rfl) (by assumption) ?hw ?hc
  case hl => (intro w; kernel_rfl)))
open_top hd for PySem.Challenge.rw_uc0030_01
end Mine
end
namespace Mine
open PySem PySem.W PySem.Calls PyProof.Rows
section
open PySem PySem.W PySem.Calls PyProof.Rows
theorem fill0 : PySem.Challenge.rw_uc0030_01 = PySem.Challenge.rw_uc0030_01 ∧ Mine.hd.heap_1 = Mine.hd.heap_1 := by k_fill; exact ⟨rfl, rfl⟩
noncomputable abbrev prg : Program := PySem.Challenge.rw_uc0030_01.prog
noncomputable abbrev lo0 : List Str := looseW theView loose0
noncomputable def Kp (h h' : Heap) : Prop := ∀ b o, h.get? b = some o → h'.get? b = some o
theorem Kp.refl (h : Heap) : Kp h h := fun _ _ e => e
theorem Kp.trans {a b c : Heap} (x : Kp a b) (y : Kp b c) : Kp a c := fun _ _ e => y _ _ (x _ _ e)
/-- what a walk of a def wants of the heap it begins at -/
structure Wd (w : World) (mean : ExcName → Option Value) (mg mb : Str → Option Value) (h : Heap) : Prop where
  X : (Mine.hd.heap_1 w.params).In h
  T : ∃ p loose, Top p loose mean mg mb h
theorem Wd.keeps {w : World} {mean : ExcName → Option Value} {mg mb : Str → Option Value} {h h' : Heap} (W : Wd w mean mg mb h) (k : Kp h h') : Wd w mean mg mb h' := ⟨W.X.keeps k, let ⟨p, l, T⟩ := W.T; ⟨p, l, T.keeps k⟩⟩
/-- where a walk is to stop -/
noncomputable def Stop (p : Prop) : Prop := p
theorem stop_of {p : Prop} (h : Stop p) : p := h
theorem Stop.go {p : Prop} (h : p) : Stop p := h
theorem Wd.nolimit {w : World} {mean : ExcName → Option Value} {mg mb : Str → Option Value} {h : Heap} (W : Wd w mean mg mb h) : h.NoLimit := let ⟨_, _, T⟩ := W.T; T.nolimit
noncomputable def Fls : Value → Shared → Prop := fun _ _ => False
/-- what stands around a call: no exception in flight -/
noncomputable abbrev Ar (dp : Nat) (fr : Option (List Env)) (gd : Option (List Code)) (un : Nat) : Around := { handled := none, depth := dp, frames := fr, guards := gd, units := un }
/-- the locals, the newest first -/
noncomputable def mp : List (Str × Value) → Str → Option Value
  | [], _ => none
  | (k, v) :: r, y => if y = k then some v else mp r y
theorem mp_lookup : ∀ (l : List (Str × Value)) (y : Str), l.lookup y = mp l y
  | [], _ => rfl
  | (k, v) :: r, y => by
    show (match y == k with | true => some v | false => r.lookup y) = if y = k then some v else mp r y
    by_cases h : y = k
    · subst h; simp
    · rw [if_neg h, beq_false_of_ne h, mp_lookup r y]
theorem mp_none : ∀ (l : List (Str × Value)) (y : Str), y ∉ l.map (·.1) → mp l y = none
  | [], _, _ => rfl
  | (k, v) :: r, y, h => by
    simp only [List.map_cons, List.mem_cons, not_or] at h
    show (if y = k then some v else mp r y) = none
    rw [if_neg h.1, mp_none r y h.2]
theorem mp_ext (l l' : List (Str × Value)) (h : ∀ k ∈ l.map (·.1) ++ l'.map (·.1), mp l k = mp l' k) : mp l = mp l' := by
  funext y
  by_cases q : y ∈ l.map (·.1) ++ l'.map (·.1)
  · exact h y q
  · simp only [List.mem_append, not_or] at q
    rw [mp_none l y q.1, mp_none l' y q.2]
/-- the locals that a loop's turn may change, ahead of the others -/
noncomputable def mo : List (Str × Option Value) → (Str → Option Value) → Str → Option Value
  | [], m, y => m y
  | (k, v) :: r, m, y => if y = k then v else mo r m y
noncomputable def mo1 (k : Str) (v : Option Value) (m : Str → Option Value) (y : Str) : Option Value := if y = k then v else m y
noncomputable def setP : List (Str × Value) → Str → Value → List (Str × Value)
  | [], k, v => [(k, v)]
  | (a, x) :: r, k, v => if a = k then (a, v) :: r else (a, x) :: setP r k v
noncomputable def setO : List (Str × Option Value) → Str → Option Value → List (Str × Option Value)
  | [], k, v => [(k, v)]
  | (a, x) :: r, k, v => if a = k then (a, v) :: r else (a, x) :: setO r k v
theorem mp_set : ∀ (l : List (Str × Value)) (k : Str) (v : Value) (y : Str), mp (setP l k v) y = if y = k then some v else mp l y
  | [], _, _, _ => rfl
  | (a, x) :: r, k, v, y => by
    unfold setP
    by_cases h : a = k
    · subst h
      rw [if_pos rfl]
      show (if y = a then some v else mp r y) = if y = a then some v else if y = a then some x else mp r y
      by_cases q : y = a
      · rw [if_pos q, if_pos q]
      · rw [if_neg q, if_neg q, if_neg q]
    · rw [if_neg h]
      show (if y = a then some x else mp (setP r k v) y) = if y = k then some v else if y = a then some x else mp r y
      rw [mp_set r k v y]
      by_cases q : y = a
      · rw [if_pos q, if_pos q, if_neg (fun e => h (q.symm.trans e))]
      · rw [if_neg q, if_neg q]
theorem mo_set : ∀ (l : List (Str × Option Value)) (m : Str → Option Value) (k : Str) (v : Option Value) (y : Str), mo (setO l k v) m y = if y = k then v else mo l m y
  | [], _, _, _, _ => rfl
  | (a, x) :: r, m, k, v, y => by
    unfold setO
    by_cases h : a = k
    · subst h
      rw [if_pos rfl]
      show (if y = a then v else mo r m y) = if y = a then v else if y = a then x else mo r m y
      by_cases q : y = a
      · rw [if_pos q, if_pos q]
      · rw [if_neg q, if_neg q, if_neg q]
    · rw [if_neg h]
      show (if y = a then x else mo (setO r k v) m y) = if y = k then v else if y = a then x else mo r m y
      rw [mo_set r m k v y]
      by_cases q : y = a
      · rw [if_pos q, if_pos q, if_neg (fun e => h (q.symm.trans e))]
      · rw [if_neg q, if_neg q]
theorem kp_step {k : Str} {v : Value} {f : Str → Option Value} {l : List (Str × Value)} {g : Str → Option Value} (hf : f = mp l) (h : mp (setP l k v) = g) : (fun y => if y = k then some v else f y) = g := by
  subst hf
  rw [← h]
  funext y
  exact (mp_set l k v y).symm
theorem ko_step {k : Str} {v : Option Value} {f : Str → Option Value} {l : List (Str × Option Value)} {m g : Str → Option Value} (hf : f = mo l m) (h : mo (setO l k v) m = g) : (fun y => if y = k then v else f y) = g := by
  subst hf
  rw [← h]
  funext y
  exact (mo_set l m k v y).symm
theorem lt3 : ∀ i : Nat, i < 3 → i = 0 ∨ i = 1 ∨ i = 2 := by decide
theorem lt6 : ∀ i : Nat, i < 6 → i = 0 ∨ i = 1 ∨ i = 2 ∨ i = 3 ∨ i = 4 ∨ i = 5 := by decide
theorem rm0 {x a C : Nat} (h : x + a < C) : x < C := Nat.lt_of_le_of_lt (Nat.le_add_right x a) h
theorem rm1 {x a b C : Nat} (h : x + a < C) (k : Nat.ble b a = true) : x + b < C := Nat.lt_of_le_of_lt (Nat.add_le_add_left (Nat.le_of_ble_eq_true k) x) h
theorem rm2 {x a b c C : Nat} (h : x + a < C) (k : Nat.ble (b + c) a = true) : x + b + c < C := Nat.lt_of_le_of_lt (Nat.add_assoc x b c ▸ Nat.add_le_add_left (Nat.le_of_ble_eq_true k) x) h
theorem rm3 {x a b c d C : Nat} (h : x + a < C) (k : Nat.ble (b + (c + d)) a = true) : x + b + c + d < C := by
  rw [Nat.add_assoc, Nat.add_assoc]; exact rm1 h k
theorem up_lt {x c C : Nat} (h : x < c) (k : Nat.ble c C = true) : x < C := Nat.lt_of_lt_of_le h (Nat.le_of_ble_eq_true k)
theorem up_le {x c C : Nat} (h : x ≤ c) (k : Nat.ble (c + 1) C = true) : x < C := Nat.lt_of_le_of_lt h (Nat.le_of_ble_eq_true k)
theorem up_les {x c C : Nat} (h : x ≤ c) (k : Nat.ble c C = true) : x ≤ C := Nat.le_trans h (Nat.le_of_ble_eq_true k)
theorem up_eq {x c C : Nat} (h : x = c) (k : Nat.ble (c + 1) C = true) : x < C := up_le (Nat.le_of_eq h) k
theorem up_eqs {x c C : Nat} (h : x = c) (k : Nat.ble c C = true) : x ≤ C := up_les (Nat.le_of_eq h) k
theorem ci_le {x c : Nat} {b C : Int} (h : x ≤ c) (k : decide (b ≤ 0 ∧ (c : Int) < C) = true) : b ≤ (x : Int) ∧ (x : Int) < C :=
  ⟨Int.le_trans (of_decide_eq_true k).1 (Int.natCast_nonneg x), Int.lt_of_le_of_lt (Int.ofNat_le.mpr h) (of_decide_eq_true k).2⟩
theorem ci_lt {x c : Nat} {b C : Int} (h : x ≤ c) (k : decide (b < 0 ∧ (c : Int) < C) = true) : b < (x : Int) ∧ (x : Int) < C :=
  ⟨Int.lt_of_lt_of_le (of_decide_eq_true k).1 (Int.natCast_nonneg x), Int.lt_of_le_of_lt (Int.ofNat_le.mpr h) (of_decide_eq_true k).2⟩
theorem zi (x : Nat) : 0 ≤ 0 + (x : Int) := by rw [Int.zero_add]; exact Int.natCast_nonneg x
theorem zi_lt {x c : Nat} {C : Int} (h : x < c) (k : decide ((c : Int) ≤ C) = true) : 0 + (x : Int) < C := by
  rw [Int.zero_add]; exact Int.lt_of_lt_of_le (Int.ofNat_lt.mpr h) (of_decide_eq_true k)
theorem zi_le {x c : Nat} {C : Int} (h : x < c) (k : decide ((c : Int) ≤ C) = true) : 0 + (x : Int) ≤ C := Int.le_of_lt (zi_lt h k)
theorem i_lt {x c : Nat} {C : Int} (h : x < c) (k : decide ((c : Int) ≤ C) = true) : (x : Int) < C := Int.lt_of_lt_of_le (Int.ofNat_lt.mpr h) (of_decide_eq_true k)
theorem i_le {x c : Nat} {C : Int} (h : x ≤ c) (k : decide ((c : Int) < C) = true) : (x : Int) < C := Int.lt_of_le_of_lt (Int.ofNat_le.mpr h) (of_decide_eq_true k)
theorem i_gt (x : Nat) {b : Int} (k : decide (b < 0) = true) : b < (x : Int) := Int.lt_of_lt_of_le (of_decide_eq_true k) (Int.natCast_nonneg x)
theorem ne_off (L a b : Nat) (h : Nat.beq a b = false) : L + a ≠ L + b := fun e => Nat.ne_of_beq_eq_false h (Nat.add_left_cancel e)
theorem fac {α : Type} {P : α → Prop} {a : α} {l : List α} (h : P a) (t : ∀ p ∈ l, P p) : ∀ p ∈ a :: l, P p := List.forall_mem_cons.mpr ⟨h, t⟩
theorem faa {α : Type} {P : α → Prop} {l m : List α} (h : ∀ p ∈ l, P p) (t : ∀ p ∈ m, P p) : ∀ p ∈ l ++ m, P p := List.forall_mem_append.mpr ⟨h, t⟩
theorem memB {α : Type} : ∀ (bs : List (List α)) (i : Nat) (p : α), p ∈ bs.getD i [] → p ∈ bs.flatten
  | [], _, _, h => nomatch h
  | b :: bs, 0, _, h => List.mem_append_left _ h
  | b :: bs, i + 1, p, h => List.mem_append_right _ (memB bs i p h)
/-- a ledger that is laid in blocks, its blocks taken in another order -/
theorem pickA {α : Type} {P : α → Prop} (bs : List (List α)) (is : List Nat) (h : ∀ p ∈ bs.flatten, P p) : ∀ p ∈ (is.map fun i => bs.getD i []).flatten, P p := fun p hp => by
  obtain ⟨l, hl, hp⟩ := List.mem_flatten.mp hp
  obtain ⟨i, _, rfl⟩ := List.mem_map.mp hl
  exact h p (memB bs i p hp)
theorem pickN {g h : Heap} {L : Addr} (bs : List (List (Addr × Obj))) (is : List Nat) (N : News g L h bs.flatten) : News g L h (is.map fun i => bs.getD i []).flatten := pickA bs is N
/-- what holds behind a walk, hidden behind a name: the walk's terms stay small -/
theorem hideQ {α : Type} {M : Model} {A : Around} {t : Sem α} {Q : α → Shared → Prop} {E : Value → Shared → Prop} {s : Shared} (h : ∀ Q9 : α → Shared → Prop, (∀ x s', Q x s' → Q9 x s') → wpAny M A t Q9 E s) : wpAny M A t Q E s := h Q fun _ _ x => x
theorem hideT {α β : Type} {M : Model} {A B : Around} {t : Sem α} {t2 : Sem β} {Q : β → Shared → Prop} {E E' : Value → Shared → Prop} {s : Shared} (h : ∀ Q9 : β → Shared → Prop, (∀ x s', Q x s' → Q9 x s') → wpAny M A t (fun _ s' => wpAny M B t2 Q9 E s') E' s) : wpAny M A t (fun _ s' => wpAny M B t2 Q E s') E' s := h Q fun _ _ x => x
theorem al_LLxxRxxxxR {T1 T2 T3 T4 T5 T6 : Type} {P : ((T1 × T2) × T3 × T4 × T5 × T6) → Prop} (h : ∀ x1 x2 x3 x4 x5 x6, P ((x1, x2), x3, x4, x5, x6)) : ∀ x, P x := fun ((x1, x2), x3, x4, x5, x6) => h x1 x2 x3 x4 x5 x6
theorem al_LLxxRxxxR {T1 T2 T3 T4 T5 : Type} {P : ((T1 × T2) × T3 × T4 × T5) → Prop} (h : ∀ x1 x2 x3 x4 x5, P ((x1, x2), x3, x4, x5)) : ∀ x, P x := fun ((x1, x2), x3, x4, x5) => h x1 x2 x3 x4 x5
theorem al_LxxxxR {T1 T2 T3 T4 : Type} {P : (T1 × T2 × T3 × T4) → Prop} (h : ∀ x1 x2 x3 x4, P (x1, x2, x3, x4)) : ∀ x, P x := fun (x1, x2, x3, x4) => h x1 x2 x3 x4
theorem al_LxxxR {T1 T2 T3 : Type} {P : (T1 × T2 × T3) → Prop} (h : ∀ x1 x2 x3, P (x1, x2, x3)) : ∀ x, P x := fun (x1, x2, x3) => h x1 x2 x3
theorem al_LxxxxxR {T1 T2 T3 T4 T5 : Type} {P : (T1 × T2 × T3 × T4 × T5) → Prop} (h : ∀ x1 x2 x3 x4 x5, P (x1, x2, x3, x4, x5)) : ∀ x, P x := fun (x1, x2, x3, x4, x5) => h x1 x2 x3 x4 x5
theorem al_LLLxxRLxxxxRRxxxR {T1 T2 T3 T4 T5 T6 T7 T8 T9 : Type} {P : (((T1 × T2) × (T3 × T4 × T5 × T6)) × T7 × T8 × T9) → Prop} (h : ∀ x1 x2 x3 x4 x5 x6 x7 x8 x9, P (((x1, x2), (x3, x4, x5, x6)), x7, x8, x9)) : ∀ x, P x := fun (((x1, x2), (x3, x4, x5, x6)), x7, x8, x9) => h x1 x2 x3 x4 x5 x6 x7 x8 x9
theorem frc {h₀ h : Heap} {L : Addr} {m m' : Str → Option Value} (F : Fr h₀ L h m) (e : m = m') : Fr h₀ L h m' := e ▸ F
noncomputable def listO (vs : List Value) : Obj := { cls := .type "list", data := .seq vs.toArray }
/-- a def's body, entered; news: the objects that the arguments tell of -/
theorem enterN {w : World} {mean : ExcName → Option Value} {mg mb : Str → Option Value} {B : Heap} {A : Around} {s : Shared} {Q : Value → Shared → Prop} {name qual : Str} {params : Arguments} {body : List Stmt} {scope : Scope} {cl : List (Str × Addr)} {dV kV doc pm cdv ct oc : Value} {an od : Option Addr} {osl : Array (Option Value)} {f : Addr} {args : Args} (binds : List (Str × Value))
    (W : Wd w mean mg mb B) (kB : Kp B s.heap) (news : List (Addr × Obj)) (hn : ∀ p ∈ news, s.heap.get? p.1 = some p.2 ∧ B.get? p.1 = none)
    (ho : (Mine.hd.heap_1 w.params).lookup f = some ⟨oc, od, .func (fnX name qual params body scope cl dV kV doc pm an cdv ct), osl⟩) (hcd : codeIn (Mine.hd.heap_1 w.params) cdv qual = true) (hroom : A.depth < recursionLimit)
    (hbind : BindsTo s (fnX name qual params body scope cl dV kV doc pm an cdv ct) args binds) (hloc : ∀ y ∈ binds, scope.names.lookup y.1 = some .local)
    (h : ∀ g L h₁, Fr g L h₁ (mp binds.reverse) → News g L h₁ news → Wd w mean mg mb g → (∀ b o, s.heap.get? b = some o → b ∉ news.map (·.1) → g.get? b = some o) → (∀ b o, s.heap.get? b = some o → b < L) →
      wpAny (model prg w) (A.deeper (envX qual scope L f cdv cl)) (execs body (envX qual scope L f cdv cl))
        (fun fl s' => Q (match fl with | .ret v => v | _ => .none) s') Fls
        { s with heap := h₁, toks := s.toks + binds.length })
    (hco : scope.isCoroutine = false) (hgen : scope.isGenerator = false) (hk : scope.kind = .function)
    (hcell : ∀ x ∈ scope.names, x.2 ≠ .cell) : codeAny (model prg w) A (.call (.ref f) args) (fun r s' => match r with | .ok (.ret v) => Q v s' | _ => False) s := by
  have W' := W.keeps kB
  refine codeAny_call_def (fd := fnX name qual params body scope cl dV kV doc pm an cdv ct) (body := body) (binds := binds) hroom (W'.X _ _ ho) rfl W'.nolimit (codeRec_of W'.X hcd) rfl hbind hcell hloc (fun h₁ hns hk₁ => ?_) hco hgen hk
  have kg : Kp B (hideAll s.heap (news.map (·.1))) := fun b o e => hideAll_get _ (kB b o e) fun q => by
    obtain ⟨p, hp, rfl⟩ := List.mem_map.mp q
    rw [(hn p hp).2] at e; cases e
  refine wpAny_mono (h (hideAll s.heap (news.map (·.1))) s.heap.objs.size h₁ ⟨?_, fun b o e => hk₁ b o (of_hideAll _ e), Nat.le_of_eq (hideAll_size _ _)⟩ (fun p hp => ⟨hk₁ _ _ (hn p hp).1, Nat.ne_of_lt (Heap.lt_size (hn p hp).1), hideAll_none _ (List.mem_map_of_mem hp)⟩) (W.keeps kg) (fun b o e hb => hideAll_get _ e hb) (fun b o e => Heap.lt_size e)) (fun fl s' hl => hl) fun _ _ y => y.elim
  rw [show mp binds.reverse = fun x => binds.reverse.lookup x from funext fun x => (mp_lookup _ _).symm]
  exact hns
theorem kp_end {sh g h' : Heap} {L : Addr} {m : Str → Option Value} {news news' : List (Addr × Obj)} (F : Fr g L h' m) (N : News g L h' news') (hk : ∀ b o, sh.get? b = some o → b ∉ news.map (·.1) → g.get? b = some o)
    (hn : ∀ p ∈ news, sh.get? p.1 = some p.2) (hs : ∀ p ∈ news, p ∈ news') : Kp sh h' := fun b o e => by
  by_cases hb : b ∈ news.map (·.1)
  · obtain ⟨p, hp, rfl⟩ := List.mem_map.mp hb
    have := hn p hp
    rw [this] at e; cases e
    exact (N p (hs p hp)).1
  · exact F.keep b o (hk b o e hb)
/-- any call's way into the walk -/
theorem call_of {M : Model} {A : Around} {f : Value} {pos : List Value} {kw : List (Str × Value)} {Q : Value → Shared → Prop} {E : Value → Shared → Prop} {s : Shared}
    (h : codeAny M A (.call f ⟨pos, kw⟩) (fun r s' => match r with | .ok (.ret v) => Q v s' | _ => False) s) : wpAny M A (call f pos kw) Q E s :=
  wpAny_call (codeAny_mono h fun r s' x => by
    cases r with
    | error e => exact x.elim
    | ok f => cases f <;> first | exact x | exact x.elim)
section
variable {prog : Program} {w : World} {A : Around} {Q : Flow → Shared → Prop} {s : Shared} {env : Env} {h₀ : Heap} {L : Addr}
/-- a while whose turns change some locals alone: a turn's end, and the way out -/
noncomputable def WTurn {σ : Type} (s : Shared) (h₀ : Heap) (L : Addr) (news : List (Addr × Obj)) (mm : σ → Str → Option Value) (P : σ → Prop) (μ : σ → Nat) (c : σ) (fl : Flow) (s₃ : Shared) : Prop :=
  fl = .next ∧ ∃ h' tk' c', s₃ = { s with heap := h', toks := tk' } ∧ Fr h₀ L h' (mm c') ∧ News h₀ L h' news ∧ P c' ∧ μ c' < μ c
noncomputable def WOut {σ : Type} (s : Shared) (h₀ : Heap) (L : Addr) (news : List (Addr × Obj)) (mm : σ → Str → Option Value) (X : σ → Prop) (s₃ : Shared) : Prop :=
  ∃ h' tk' c', s₃ = { s with heap := h', toks := tk' } ∧ Fr h₀ L h' (mm c') ∧ News h₀ L h' news ∧ X c'
theorem whileX {σ : Type} {test : Expr} {body : List Stmt} {pos : Pos} {news : List (Addr × Obj)} (mm : σ → Str → Option Value) (P : σ → Prop) (X : σ → Prop) (μ : σ → Nat) (c₀ : σ)
    (F : Fr h₀ L s.heap (mm c₀)) (N : News h₀ L s.heap news) (hp : P c₀)
    (turn : ∀ c h tk, P c → Fr h₀ L h (mm c) → News h₀ L h news →
      wpAny (model prog w) A (isTrue test env (eval test env)) (fun b s₂ =>
        if b = true then wpAny (model prog w) A (execs body env) (WTurn s h₀ L news mm P μ c) Fls s₂ else WOut s h₀ L news mm X s₂) Fls { s with heap := h, toks := tk })
    (out : ∀ c h tk, X c → Fr h₀ L h (mm c) → News h₀ L h news → Q .next { s with heap := h, toks := tk })
    (hE : PassesOwn (model prog w) A env Fls := by passes_own) :
    wpAny (model prog w) A (exec (.While test body [] pos) env) Q Fls s := by
  refine While_inv (fun n m nw => ∃ c, m = mm c ∧ nw = news ∧ P c ∧ μ c = n) F N ⟨c₀, rfl, rfl, hp, rfl⟩ ?_ hE
  rintro n m₁ nw h tk F₁ N₁ ⟨c, rfl, rfl, hP, rfl⟩
  refine wpAny_mono (turn c h tk hP F₁ N₁) (fun b s₂ x => ?_) fun _ _ x => x
  cases b with
  | false =>
    simp only [Bool.false_eq_true, if_false] at x ⊢
    obtain ⟨h', tk', c', rfl, F', N', hX⟩ := x
    exact out c' h' tk' hX F' N'
  | true =>
    simp only [if_true] at x ⊢
    refine wpAny_mono x (fun fl s₃ y => ?_) fun _ _ x => x
    obtain ⟨rfl, h', tk', c', rfl, F', N', hP', hlt⟩ := y
    exact ⟨rfl, h', tk', mm c', nw, μ c', rfl, F', N', hlt, c', rfl, rfl, hP', rfl⟩
end
end
local macro_rules | `(tactic| k_room) => `(tactic| first | omega | ((try simp only [depth_under_make, depth_under_kw, depth_in1, depth_deeper, depth_caller]); (try dsimp only); omega))
section
set_option maxHeartbeats 4000000
open PySem PySem.W PySem.Calls PyProof.Rows
theorem fillS1 : PySem.Challenge.rw_uc0030_01 = PySem.Challenge.rw_uc0030_01 ∧ Mine.hd.heap_1 = Mine.hd.heap_1 := by k_fill; exact ⟨rfl, rfl⟩
/-- a blanks, an x, b blanks -/
noncomputable def blkL (a b : Nat) : List Nat := List.replicate a 32 ++ 120 :: List.replicate b 32
noncomputable def blk (a b : Nat) : Str := ⟨(blkL a b).toArray⟩
theorem blk_len (a b : Nat) : (blk a b).length = a + 1 + b := by
  simp [blk, blkL, Str.length]; omega
theorem blk_get_lo {a b i : Nat} (h : i < a) : (blk a b).cps[i]? = some 32 := by
  simp [blk, blkL, List.getElem?_append_left, List.length_replicate, h]
theorem blk_get_x {a b : Nat} : (blk a b).cps[a]? = some 120 := by
  simp [blk, blkL]
theorem blk_get_hi {a b i : Nat} (h : a < i) (h2 : i < a + 1 + b) : (blk a b).cps[i]? = some 32 := by
  have e : i - a = (i - a - 1) + 1 := by omega
  simp only [blk, blkL, List.getElem?_toArray]
  rw [List.getElem?_append_right (by simp; omega)]
  simp only [List.length_replicate]
  rw [e, List.getElem?_cons_succ, List.getElem?_replicate]
  rw [if_pos (by omega)]
theorem seqIndex_nat {i n : Nat} (h : i < n) : seqIndex? (i : Int) n = some i := by
  unfold seqIndex?
  simp only [Int.natCast_nonneg, Int.not_lt.mpr, if_false, decide_false]
  first | (simp; omega) | (split <;> simp_all <;> omega)
theorem item_blk {a b i : Nat} (h : i < a + 1 + b) : (Txt.item (blk a b) (i : Int) == Str.ofString " ") = decide (i ≠ a) := by
  have hl := blk_len a b
  have e : Str.ofString " " = ⟨#[32]⟩ := by decide +kernel
  rw [e]
  unfold Txt.item Txt.charAt
  rw [hl, seqIndex_nat h]
  simp only [Option.bind_some]
  rcases Nat.lt_trichotomy i a with q | q | q
  · rw [blk_get_lo q, decide_eq_true (Nat.ne_of_lt q)]; rfl
  · subst q; rw [blk_get_x]; simp
  · rw [blk_get_hi q h, decide_eq_true (Nat.ne_of_gt q)]; rfl
theorem sl_len {a b i j : Nat} (h : i ≤ a) (h2 : j ≤ b) : ((((a + b - j : Nat) : Int) + 1) - (i : Int)).toNat = (a - i) + 1 + (b - j) := by
  obtain ⟨p, rfl⟩ := Nat.le.dest h
  obtain ⟨q, rfl⟩ := Nat.le.dest h2
  rw [Nat.add_sub_cancel_left, Nat.add_sub_cancel_left, show i + p + (j + q) - j = i + (p + q) by rw [← Nat.add_assoc, Nat.add_right_comm, Nat.add_sub_cancel, Nat.add_assoc], Int.natCast_add, Int.add_right_comm, Int.add_comm (i : Int), Int.add_assoc, Int.add_comm (i : Int), ← Int.add_assoc, Int.add_sub_cancel, Nat.add_right_comm, Int.add_comm 1]
  rfl
theorem pd {n : Nat} (h : (n : Int) ≠ 0) : (n : Int) - 1 = ((n - 1 : Nat) : Int) := by
  cases n with
  | zero => exact absurd rfl h
  | succ n => rw [Nat.succ_sub_one, Int.natCast_succ, Int.add_sub_cancel]
theorem sz {x y : Nat} (h : ((x - y : Nat) : Int) ≠ 0) : y < x := Nat.lt_of_sub_pos (Nat.pos_of_ne_zero fun e => h (by rw [e]; rfl))
theorem mina {j a k : Nat} (e : j = a) (h : j ≤ k) : j = min a k := by subst e; exact (Nat.min_eq_left h).symm
theorem mink {j a k : Nat} (h : j ≤ a) (hk : j ≤ k) (e : ((k - j : Nat) : Int) = 0) : j = min a k := by
  have z : k = j := Nat.le_antisymm (Nat.le_of_sub_eq_zero (Int.ofNat_eq_zero.mp e)) hk
  subst z; exact (Nat.min_eq_right h).symm
theorem ne_b {a b i : Nat} (h : a + b - i ≠ a) : i ≠ b := fun e => h (by rw [e, Nat.add_sub_cancel])
theorem eq_b {a b i : Nat} (hi : i ≤ b) (h : ¬ a + b - i ≠ a) : i = b := by
  have z := Decidable.not_not.mp h
  rw [Nat.add_sub_assoc hi] at z
  exact Nat.le_antisymm hi (Nat.le_of_sub_eq_zero (Nat.add_left_cancel (z.trans (Nat.add_zero a).symm)))
theorem ab_lt (a b i : Nat) : a + b - i < a + 1 + b := Nat.lt_of_le_of_lt (Nat.sub_le _ _) (by rw [Nat.add_right_comm]; exact Nat.lt_succ_self _)
theorem j_lt {a j : Nat} (b : Nat) (h : j ≤ a) : j < a + 1 + b := Nat.lt_of_lt_of_le (Nat.lt_succ_of_le h) (Nat.le_add_right _ _)
theorem ab_nz {a b i : Nat} (h : i < b) : ((a + b - i : Nat) : Int) ≠ 0 := fun e => Nat.ne_of_gt (Nat.sub_pos_of_lt (Nat.lt_of_lt_of_le h (Nat.le_add_left b a))) (Int.ofNat_eq_zero.mp e)
theorem slice_blk {a b i j : Nat} (h : i ≤ a) (h2 : j ≤ b) : Txt.slice (blk a b) (some (i : Int)) (some ((a + b - j : Nat) + 1 : Int)) = blk (a - i) (b - j) := by
  have hl := blk_len a b
  rw [beq_iff_eq.mp (slice_closesL (x := blk a b) (i := i) (j := (a + b - j : Nat) + 1) (by omega) (by omega) (by omega))]
  unfold blk blkL
  congr 1
  congr 1
  have e1 := sl_len h h2
  rw [e1]
  simp only [Int.toNat_natCast, List.toList_toArray]
  rw [List.drop_append_of_le_length (by simp; exact h), List.drop_replicate, List.take_append, List.take_replicate, List.length_replicate, Nat.min_eq_right (by omega)]
  congr 1
  rw [show a - i + 1 + (b - j) - (a - i) = (b - j) + 1 by omega, List.take_succ_cons, List.take_replicate, Nat.min_eq_left (by omega)]
local macro_rules | `(tactic| walk_at $k:str) => if ["exec While BoolOp cons nil"].contains k.getString then `(tactic| refine stop_of ?_) else Lean.Macro.throwUnsupported
local macro_rules | `(tactic| ktn_open) => `(tactic| (refine mp_ext _ _ ?_; (repeat' (refine List.forall_mem_cons.mpr ⟨rfl, ?_⟩)); (intro _ h; cases h)))
set_option pp.deepTerms false in
set_option pp.maxSteps 4000 in
theorem strip_call {w : World} {mean : ExcName → Option Value} {mg mb : Str → Option Value} {B : Heap} {dp un : Nat} {fr : Option (List Env)} {gd : Option (List Code)} {s : Shared} {Q : Value → Shared → Prop} (W : Wd w mean mg mb B) (kB : Kp B s.heap)
   (hd : dp + 1 < recursionLimit) (hu : un + 8 < cLine) (a b k : Nat) (t u : Tok) (ha : a + b < 1000)
   (hQ : ∀ h' tk' t', Kp s.heap h' → Q (.str (blk (a - min a k) (b - min b (k - min a k))) t') { s with heap := h', toks := tk' }) :
  codeAny (model prg w) (Ar dp fr gd un) (.call (.ref 45) ⟨[.str (blk a b) t, .int k u], []⟩) (fun r s' => match r with | .ok (.ret v) => Q v s' | _ => False) s := by
  have X0 := W.X
  refine' enterN [(Str.ofString "s", .str (blk a b) t), (Str.ofString "amount", .int k u)] W kB [] ?kn ?k6 ?k7 ?k8 ?k9 ?kB ?_ ?c2 ?c3 ?c4 ?c5
  case kn => intro p hp; cases hp
  case k6 => k_is
  case k7 => k_is
  case k8 => k_room
  case k9 => exact BindsTo.of_eq rfl
  case c5 => decide
  case kB => exact locs rfl
  case c2 => exact rfl
  case c3 => exact rfl
  case c4 => exact rfl
  intro g L h₁ F N Wg hk hL
  have X := Wg.X
  obtain ⟨p9, l9, T⟩ := Wg.T
  clear X0
  have hlen := blk_len a b
  replace F : Fr g L h₁ (mp [(Str.ofString "amount", .int k u), (Str.ofString "s", .str (blk a b) t)]) := F
  w_on
  k_steps
  refine Stop.go ?_
  rename Fr _ _ _ _ => F1
  rename News _ _ _ _ => N1
  obtain ⟨t0, F1⟩ : ∃ t0, Fr g L _ (mp [(Str.ofString "lpos", .int 0 t0), (Str.ofString "amount", .int k u), (Str.ofString "s", .str (blk a b) t)]) := ⟨_, F1⟩
  refine' whileX (σ := Nat × Tok × Tok) (mm := fun c => mp [(Str.ofString "lpos", .int (c.1 : Int) c.2.2), (Str.ofString "amount", .int ((k - c.1 : Nat) : Int) c.2.1), (Str.ofString "s", .str (blk a b) t)]) (P := fun c => c.1 ≤ a ∧ c.1 ≤ k) (X := fun c => c.1 = min a k) (μ := fun c => a - c.1) (0, u, t0) ?wF ?wN ?_ ?_ ?_ ?wE
  case wE => passes_own
  case wN => exact N1
  case wF => exact F1
  · exact ⟨Nat.zero_le _, Nat.zero_le _⟩
  · rintro ⟨j, ta, tl⟩ h tk ⟨hj, hjk⟩ F N
    clear F1 N1
    dsimp only at F hj hjk ⊢
    have hit := item_blk (a := a) (b := b) (i := j) (j_lt b hj)
    have hjl : (j : Int) < (blk a b).length := by rw [hlen]; exact Int.ofNat_lt.mpr (j_lt b hj)
    k_steps
    · rename Fr _ _ _ _ => F'
      rename News _ _ _ _ => N'
      have hja : j ≠ a := by rename (_ = true) => e; rw [hit] at e; exact of_decide_eq_true e
      obtain ⟨t1, t2, F'⟩ : ∃ t1 t2, Fr g L _ (mp [(Str.ofString "amount", .int (((k - j : Nat) : Int) - 1) t1), (Str.ofString "lpos", .int ((j : Int) + 1) t2), (Str.ofString "lpos", .int (j : Int) tl), (Str.ofString "amount", .int ((k - j : Nat) : Int) ta), (Str.ofString "s", .str (blk a b) t)]) := ⟨_, _, F'⟩
      have hnz : ((k - j : Nat) : Int) ≠ 0 := by assumption
      have hlt := Nat.lt_of_le_of_ne hj hja
      refine ⟨rfl, _, _, (j + 1, t1, t2), rfl, frc F' ?_, N', ⟨hlt, sz hnz⟩, Nat.sub_succ_lt_self _ _ hlt⟩
      rw [pd hnz, Nat.sub_sub]
      ktn_open
    · have hja : j = a := by rename (_ = false) => e; rw [hit] at e; simpa using e
      exact ⟨_, _, (j, ta, tl), rfl, F, N, mina hja hjk⟩
    · exact ⟨_, _, (j, ta, tl), rfl, F, N, mink hj hjk (by assumption)⟩
  · clear F1 N1
    rintro ⟨j, ta, tl⟩ h tk hj F N
    dsimp only at F hj ⊢
    k_steps
    refine Stop.go ?_
    rename Fr _ _ _ _ => F
    rename News _ _ _ _ => N
    rw [show ((blk a b).length : Int) - 1 = ((a + b - 0 : Nat) : Int) by omega] at F
    obtain ⟨t3, F⟩ : ∃ t3, Fr g L _ (mp [(Str.ofString "rpos", .int ((a + b - 0 : Nat) : Int) t3), (Str.ofString "lpos", .int (j : Int) tl), (Str.ofString "amount", .int ((k - j : Nat) : Int) ta), (Str.ofString "s", .str (blk a b) t)]) := ⟨_, F⟩
    refine' whileX (σ := Nat × Tok × Tok) (mm := fun c => mp [(Str.ofString "rpos", .int ((a + b - c.1 : Nat) : Int) c.2.2), (Str.ofString "lpos", .int (j : Int) tl), (Str.ofString "amount", .int ((k - j - c.1 : Nat) : Int) c.2.1), (Str.ofString "s", .str (blk a b) t)]) (P := fun c => c.1 ≤ b ∧ c.1 ≤ k - j) (X := fun c => c.1 = min b (k - j)) (μ := fun c => b - c.1) (0, ta, t3) ?wF ?wN ?_ ?_ ?_ ?wE
    case wE => passes_own
    case wN => exact N
    case wF => exact F
    · exact ⟨Nat.zero_le _, Nat.zero_le _⟩
    · clear F N
      rintro ⟨i, ta, t3⟩ h tk ⟨hi, hik⟩ F N
      dsimp only at F hi hik ⊢
      have hit := item_blk (a := a) (b := b) (i := a + b - i) (ab_lt a b i)
      have hjl : ((a + b - i : Nat) : Int) < (blk a b).length := by rw [hlen]; exact Int.ofNat_lt.mpr (ab_lt a b i)
      k_steps
      · rename Fr _ _ _ _ => F'
        rename News _ _ _ _ => N'
        have hja : i ≠ b := by rename (_ = true) => e; rw [hit] at e; exact ne_b (of_decide_eq_true e)
        obtain ⟨t1, t2, F'⟩ : ∃ t1 t2, Fr g L _ (mp [(Str.ofString "amount", .int (((k - j - i : Nat) : Int) - 1) t1), (Str.ofString "rpos", .int (((a + b - i : Nat) : Int) - 1) t2), (Str.ofString "rpos", .int ((a + b - i : Nat) : Int) t3), (Str.ofString "lpos", .int (j : Int) tl), (Str.ofString "amount", .int ((k - j - i : Nat) : Int) ta), (Str.ofString "s", .str (blk a b) t)]) := ⟨_, _, F'⟩
        have hnz : ((k - j - i : Nat) : Int) ≠ 0 := by assumption
        have hlt := Nat.lt_of_le_of_ne hi hja
        refine ⟨rfl, _, _, (i + 1, t1, t2), rfl, frc F' ?_, N', ⟨hlt, sz hnz⟩, Nat.sub_succ_lt_self _ _ hlt⟩
        rw [pd hnz, pd (ab_nz hlt), Nat.sub_sub (k - j), Nat.sub_sub (a + b)]
        ktn_open
      · have hja : i = b := by rename (_ = false) => e; rw [hit] at e; exact eq_b hi (of_decide_eq_false e)
        exact ⟨_, _, (i, ta, t3), rfl, F, N, mina hja hik⟩
      · exact ⟨_, _, (i, ta, t3), rfl, F, N, mink hi hik (by assumption)⟩
    · clear F N
      rintro ⟨i, ta, t3⟩ h tk hi F N
      dsimp only at F hi ⊢
      k_steps
      rename Fr _ _ _ _ => F'
      rename News _ _ _ _ => N'
      show Q _ _
      rw [slice_blk (hj ▸ Nat.min_le_left a k) (hi ▸ Nat.min_le_left b (k - j))]
      rw [show a - j = a - min a k by rw [hj], show b - i = b - min b (k - min a k) by rw [hi, hj]]
      exact hQ _ _ _ (kp_end F' N' hk (fun _ h => (nomatch h)) (fun _ h => (nomatch h)))
end
local macro_rules | `(tactic| omega) => `(tactic| first | decide | (with_reducible first | exact rm0 (by with_reducible assumption) | exact rm1 (by with_reducible assumption) (by decide) | exact rm2 (by with_reducible assumption) (by decide) | exact rm3 (by with_reducible assumption) (by decide) | exact up_lt (by with_reducible assumption) (by decide) | exact up_le (by with_reducible assumption) (by decide) | exact up_les (by with_reducible assumption) (by decide) | exact up_eq (by with_reducible assumption) (by decide) | exact up_eqs (by with_reducible assumption) (by decide) | exact zi _ | exact Int.natCast_nonneg _ | exact lt3 _ (by with_reducible assumption) | exact ci_le (by with_reducible assumption) (by decide) | exact ci_lt (by with_reducible assumption) (by decide) | exact zi_lt (by with_reducible assumption) (by decide) | exact zi_le (by with_reducible assumption) (by decide) | exact i_lt (by with_reducible assumption) (by decide) | exact i_le (by with_reducible assumption) (by decide) | exact i_gt _ (by decide)) | omega (config := {}))
section
set_option maxHeartbeats 4000000
open PySem PySem.W PySem.Calls PyProof.Rows
noncomputable def spc (n : Nat) : Str := ⟨(List.replicate n 32).toArray⟩
theorem spc_len (n : Nat) : (spc n).length = n := by simp [spc, Str.length]
theorem s_blank : Str.ofString " " = ⟨#[32]⟩ := by decide +kernel
theorem s_x : Str.ofString "x" = ⟨#[120]⟩ := by decide +kernel
theorem foldl_rep : ∀ (n : Nat) (acc : Array Nat), (List.replicate n (#[32] : Array Nat)).foldl (· ++ ·) acc = acc ++ (List.replicate n 32).toArray
  | 0, acc => by simp
  | n + 1, acc => by
    rw [List.replicate_succ, List.foldl_cons, foldl_rep n]
    apply Array.toList_inj.mp
    simp [List.replicate_succ]
theorem mul_spc (n : Nat) : Txt.mul (Str.ofString " ") (n : Int) = spc n := by
  rw [s_blank]
  unfold Txt.mul
  by_cases h0 : n = 0
  · subst h0; rfl
  · rw [if_neg (by omega)]
    by_cases h1 : n = 1
    · subst h1; rfl
    · rw [if_neg (by simp [Str.length]; omega)]
      unfold spc
      rw [Int.toNat_natCast, foldl_rep]
      simp
theorem spc_x (a : Nat) : spc a ++ Str.ofString "x" = blk a 0 := by
  rw [s_x]
  apply Str.ext'
  rw [Str.cps_append]
  apply Array.toList_inj.mp
  unfold spc blk blkL
  simp
theorem blk_spc (a b : Nat) : blk a 0 ++ spc b = blk a b := by
  apply Str.ext'
  rw [Str.cps_append]
  unfold spc blk blkL
  simp
theorem blk_x : blk 0 0 = Str.ofString "x" := by rw [s_x]; rfl
open PySem.Builtin PySem.Builtin.Str in
theorem at_blk {a b i : Nat} : StrLaws.At (blk a b) (Str.ofString "x") (blk a b).length i ↔ i = a := by
  unfold StrLaws.At subAt
  rw [s_x, blk_len]
  show i + 1 ≤ a + 1 + b ∧ ((blk a b).cps.extract i (i + 1) == #[120]) = true ↔ i = a
  have key : ∀ i, i < a + 1 + b → (blk a b).cps.extract i (i + 1) = #[(blk a b).cps.getD i 0] := fun i hi => by
    have hs : (blk a b).cps.size = a + 1 + b := blk_len a b
    apply Array.ext_getElem?
    intro k
    rw [Array.getElem?_extract]
    by_cases hk : k = 0
    · subst hk
      rw [if_pos (by omega)]
      simp [Array.getD, hs, hi]
    · rw [if_neg (by omega)]
      simp [hk]
  constructor
  · rintro ⟨h1, h2⟩
    rw [key i (by omega)] at h2
    have h3 : (blk a b).cps.getD i 0 = 120 := by simpa using h2
    rw [Array.getD_eq_getD_getElem?] at h3
    rcases Nat.lt_trichotomy i a with q | q | q
    · rw [blk_get_lo q] at h3; cases h3
    · exact q
    · rw [blk_get_hi q (by omega)] at h3; cases h3
  · rintro rfl
    refine ⟨by omega, ?_⟩
    rw [key i (by omega), Array.getD_eq_getD_getElem?, blk_get_x]
    rfl
open PySem.Builtin PySem.Builtin.Str in
theorem occ_blk (a b : Nat) : ∃ r, occurrences (blk a b) (Str.ofString "x") 0 (blk a b).length 1 = a :: r := by
  rcases StrLaws.occ_head (blk a b) (Str.ofString "x") 1 (Nat.le_refl _) with ⟨_, h⟩ | ⟨i, r, h, hi, _⟩
  · exact absurd (at_blk.mpr rfl) (h a)
  · exact ⟨r, by rw [h, at_blk.mp hi]⟩
section
variable {prog : Program} {w : World} {A : Around} {E : Value → Shared → Prop} {s : Shared} {t u : Tok} {Q : Value → Shared → Prop}
theorem r_index {a b : Nat} (h : Q (.int (a : Int) s.toks) { s with toks := s.toks + 1 }) : wpAny (model prog w) A (call (.builtin "str.index") [.str (blk a b) t, .str (Str.ofString "x") u]) Q E s := by
  obtain ⟨r, e⟩ := occ_blk a b
  exact SC.index e h
theorem r_mul {n : Int} {k : Nat} (hn : n = (k : Int)) (hk : k < 100000) (h : ∀ t' j, Q (.str (spc k) t') { s with toks := j }) : wpAny (model prog w) A (binaryOp .Mult (.str (Str.ofString " ") t) (.int n u)) Q E s := by
  subst hn
  refine SB.mul ⟨?_, ?_, ?_⟩ (fun t' j => by rw [mul_spc]; exact h t' j)
  · simp only [Bool.or_eq_false_iff, decide_eq_false_iff_not]; omega
  · intro h1 _
    rw [s_blank]
    show ¬ ((1 : Nat) : Int) > (2 ^ 63 - 1) / (k : Int)
    have : (1 : Int) ≤ (2 ^ 63 - 1) / (k : Int) := by
      rw [Int.le_ediv_iff_mul_le (by omega)]
      omega
    omega
  · intro _ _
    rw [s_blank]
    show PySem.Builtin.Str.tooLong (1 * (k : Int).toNat) = false
    rw [Int.toNat_natCast, Nat.one_mul]
    unfold PySem.Builtin.Str.tooLong
    simp [sizeLine]
    omega
theorem size_small {n : Nat} (h : n < 100000) : n ≤ sizeLine := by unfold sizeLine; omega
theorem r_add {x y z : Str} (hz : x ++ y = z) (hs : x.length + y.length < 100000) (h : ∀ t' j, Q (.str z t') { s with toks := j }) : wpAny (model prog w) A (binaryOp .Add (.str x t) (.str y u)) Q E s := by
  subst hz
  exact SB.add h (size_small hs)
theorem r_len {x : Str} {n : Nat} (hx : x.length = n) (hs : n < 100000) (h : Q (.int (n : Int) (s.toks + 1)) { s with toks := s.toks + 1 + 1 }) : wpAny (model prog w) A (call (.builtin "len") [.str x t]) Q E s := by
  subst hx
  exact len_str (by omega) h
end
end
section
open PySem PySem.W PySem.Calls PyProof.Rows
theorem re_plain : PySem.PlainAttrs "re.Pattern" :=
  ⟨⟨"object.__getattribute__", by rw [typeLookup_type, builtinLookup_eq_fast]; kernel_rfl, by decide +kernel⟩, by rw [typeLookup_type, builtinLookup_eq_fast]; kernel_rfl⟩
theorem re_slot : PySem.Slot "re.Pattern" "search" "re.Pattern.search" :=
  .of (owner := "re.Pattern") (n := "search") (by rw [typeLookup_type, builtinLookup_eq_fast]; kernel_rfl) (by decide +kernel) (by decide +kernel) (by decide +kernel)
    (by first | exact .inl (by decide +kernel) | exact .inr (by decide +kernel)) (by rw [isSubtype_type]; kernel_rfl)
theorem re_type : typeOf (.builtin "re.Pattern.search") = pure (.type "method_descriptor") := by show builtinType _ = _; rw [builtinType_eq_fast]; kernel_rfl
theorem re_entry : entryFor table "re.Pattern.search" = some Builtin.«re.Pattern.search» := entryFor_of_tree (by kernel_rfl)
theorem re_args (a b : Value) : argsOk "re.Pattern.search" ⟨[a, b], []⟩ := by unfold argsOk; kernel_rfl
end
section
open PySem PySem.W PySem.Calls PyProof.Rows
/-- no set of the pattern's admits the sign -/
noncomputable def ReNo (code : Array Nat) (c : Nat) : Prop := ∀ seen, (match PySem.Sre.inSet code c code.size 5 true seen with | .ok (b, _) => !b | .error _ => false) = true
theorem ReNo.ex {code : Array Nat} {c : Nat} (h : ReNo code c) (seen : PySem.Sre.Seen) : ∃ s', PySem.Sre.inSet code c code.size 5 true seen = .ok (false, s') := by
  have := h seen
  split at this
  · rename_i b s' e
    cases b
    · exact ⟨s', e⟩
    · cases this
  · cases this
open PySem.Sre PySem.Sre.M in
theorem re_adm (m : PySem.Sre.M) (h : ∀ i, i < m.lim → ReNo m.code (m.text.getD i 0)) : ∀ fuel s seen, ∃ s', admitted m fuel s seen = .ok (none, s')
  | 0, s, sn => ⟨sn, rfl⟩
  | fuel + 1, s, sn => by
    unfold admitted
    by_cases hs : s ≥ m.lim
    · rw [if_pos hs]; exact ⟨sn, rfl⟩
    · rw [if_neg hs]
      obtain ⟨s', e⟩ := (h s (Nat.lt_of_not_le hs)).ex sn
      rw [e]
      exact re_adm m h fuel (s + 1) s'
open PySem.Sre PySem.Sre.M in
theorem re_from (m : PySem.Sre.M) (h : ∀ i, i < m.lim → ReNo m.code (m.text.getD i 0)) (hf : m.hasFirstSet = true) (s : Nat) (b : Bool) : ∃ s', m.attemptFrom s b = { m with seen := s', answer := some false } := by
  unfold attemptFrom
  rw [hf]
  obtain ⟨s', e⟩ := re_adm m h (m.lim + 1 - s) s m.seen
  refine ⟨s', ?_⟩
  rw [e]
  rfl
open PySem.Sre PySem.Sre.M in
theorem re_stop (m : PySem.Sre.M) (h1 : m.outcome = none) (h2 : m.answer = some false) (h3 : m.frames = []) : (m.runFor 4).outcome = some .failed := by
  have e : PySem.Sre.M.step m = { m with outcome := some .failed } := by
    unfold PySem.Sre.M.step
    rw [h1, h2, h3]
    rfl
  show (if m.outcome.isSome then m else runFor 3 (PySem.Sre.M.step m)).outcome = _
  rw [h1, e]
  rfl
open PySem.Sre PySem.Sre.M in
theorem re_search (code text : Array Nat) (h : ∀ c ∈ text, ReNo code c) (hf : ∀ m : PySem.Sre.M, m.code = code → m.hasFirstSet = true) (hh : (header code).1 = 1) : ((forSearch code text 0 0 text.size false).runFor 4).outcome = some .failed := by
  unfold forSearch
  dsimp only
  rw [hh]
  by_cases h0 : text.size = 0
  · rw [if_pos (by simp [h0])]
    exact re_stop _ rfl rfl rfl
  · rw [if_neg (by rw [Bool.or_eq_true, decide_eq_true_eq, decide_eq_true_eq]; omega)]
    generalize hm : (PySem.Sre.M.mk _ _ _ _ _ _ _ _ _ _ _ _ _ _ _ _ _ _ _ _ _) = m
    have e1 : m.code = code := by rw [← hm]; rfl
    have e2 : m.text = text := by rw [← hm]; rfl
    have e3 : m.lim = text.size := by rw [← hm]; rfl
    obtain ⟨s', e⟩ := re_from m (by
      rw [e1, e2, e3]
      intro i hi
      rw [Array.getD_eq_getD_getElem?, Array.getElem?_eq_getElem hi]
      exact h _ (Array.getElem_mem hi)) (hf m e1) 0 true
    rw [e]
    exact re_stop _ (by rw [← hm]; rfl) rfl (by rw [← hm]; rfl)
theorem re_no {code : Array Nat} {c : Nat} (h : ∀ seen, (match PySem.Sre.inSet code c code.size 5 true seen with | .ok (b, _) => !b | .error _ => false) = true) : ReNo code c := h
section
variable {prog : Program} {w : World} {A : Around} {E : Value → Shared → Prop} {s : Shared}
theorem re_drive {n : Nat} {m : PySem.Sre.M} {Q : PySem.Sre.M → Shared → Prop} (h : (m.runFor 4).outcome = some .failed) (hQ : Q (m.runFor 4) s) : wpAny (model prog w) A (Builtin.Re.reDrive (n + 1) m) Q E s := by
  show wpAny _ _ (if (m.runFor Builtin.Re.reTurnSteps).outcome.isSome then pure (m.runFor Builtin.Re.reTurnSteps) else _) _ _ _
  have e : (m.runFor Builtin.Re.reTurnSteps).outcome = some .failed := h
  rw [e]
  exact wpAny_pure hQ
theorem re_end {m : PySem.Sre.M} {Q : Option PySem.Sre.M → Shared → Prop} (h : (m.runFor 4).outcome = some .failed) (hQ : Q none s) : wpAny (model prog w) A (Builtin.Re.reRunToEnd m) Q E s := by
  unfold Builtin.Re.reRunToEnd
  rw [show (2 ^ 64 : Nat) = 18446744073709551615 + 1 from rfl]
  refine wpAny_bind (re_drive h ?_)
  refine wpAny_bind (wpAny_forIn_list _ (fun _ _ s' => s' = s) (fun _ s' => s' = s) ?turn (fun _ _ e => e) _ _ rfl |> fun x => wpAny_mono x (fun _ s' e => ?fin) fun _ _ e => e)
  case turn =>
    rintro x rest b s' rfl
    split
    · exact wpAny_bind (wpAny_rule (wpAny_pure rfl))
    · exact wpAny_pure rfl
  case fin =>
    subst e
    rw [h]
    exact wpAny_pure hQ
theorem re_call {P T : Addr} {x : Str} {t : Tok} {vs its : Array Value} {n : Nat} {od : Option Addr} {sl : Array (Option Value)} {oT : Obj} {Q : Value → Shared → Prop} (ho : s.heap.get? P = some ⟨.type "re.Pattern", od, .fields vs, sl⟩) (hT : s.heap.get? T = some oT) (hd : oT.data = .seq its n)
    (h5 : vs.getD 5 .none = .ref T) (h6 : Builtin.Re.reRawNat (vs.getD 6 .none) = 0) (h2 : Builtin.Re.reRawNat (vs.getD 2 .none) = 0) (hsz : x.cps.size < 2 ^ 60)
    (hf : (((its.map Builtin.Re.reRawOf).map (·.toNat))).getD 0 0 = 14 ∧ ((its.map Builtin.Re.reRawOf).map (·.toNat)).getD 2 0 = 4 ∧ ((its.map Builtin.Re.reRawOf).map (·.toNat)).getD 3 0 = 1)
    (hc : ∀ c ∈ x.cps, ReNo ((its.map Builtin.Re.reRawOf).map (·.toNat)) c) (h : Q .none s) : wpAny (model prog w) A (call (.builtin "re.Pattern.search") [.ref P, .str x t]) Q E s := by
  refine wpAny_call_entry re_slot ⟨_, ho, rfl⟩ re_entry ?_ (re_args _ _)
  unfold Builtin.«re.Pattern.search»
  refine wpAny_bind ?_
  unfold Builtin.Re.reTarget
  refine wpAny_bind (m := Builtin.Re.reNamed _ _ _ _ _ _) (wpAny_of_eq (a := [some (.str x t), none, none]) (by rfl) ?_)
  dsimp only
  refine wpAny_bind (wpAny_pure (wpAny_bind (wpAny_pure (wpAny_bind (wpAny_fieldsOf ho rfl ?_)))))
  refine wpAny_bind (m := Builtin.Re.reTextOf _) (wpAny_of_eq (a := (x.cps, 0)) (by rfl) ?_)
  dsimp only
  rw [h6, h5]
  rw [if_neg (by decide), if_neg (by decide)]
  refine wpAny_bind (m := Builtin.Re.reNoCollectionInside _ _) (wpAny_of_eq (a := ()) (by rfl) ?_)
  refine wpAny_bind (m := Builtin.Re.reRawItems _) (wpAny_bind (wpAny_seqItems hT hd (wpAny_pure ?_)))
  refine wpAny_pure ?_
  dsimp only
  have hl : min (Int.toNat (2 ^ 63 - 1)) x.cps.size = x.cps.size := by
    rw [show Int.toNat (2 ^ 63 - 1) = 2 ^ 63 - 1 by decide]
    exact Nat.min_eq_right (by omega)
  have hz : min (Int.toNat 0) x.cps.size = 0 := Nat.zero_min _
  rw [h2, hz, hl]
  have key := re_search ((its.map Builtin.Re.reRawOf).map (·.toNat)) x.cps hc (fun m e => by
    unfold PySem.Sre.M.hasFirstSet
    rw [e, hf.1, hf.2.1]
    rfl) (by
    unfold PySem.Sre.header
    rw [hf.1]
    exact hf.2.2)
  unfold Builtin.Re.reAnswer
  exact wpAny_bind (re_end key (wpAny_pure ⟨_, rfl, h⟩))
theorem re_call' {P T : Addr} {x : Str} {t : Tok} {vs its : Array Value} {n : Nat} {od : Option Addr} {sl : Array (Option Value)} {oT : Obj} {Q : Value → Shared → Prop} {code : Array Nat} (ho : s.heap.get? P = some ⟨.type "re.Pattern", od, .fields vs, sl⟩) (hT : s.heap.get? T = some oT) (hd : oT.data = .seq its n)
    (h5 : vs.getD 5 .none = .ref T) (h6 : Builtin.Re.reRawNat (vs.getD 6 .none) = 0) (h2 : Builtin.Re.reRawNat (vs.getD 2 .none) = 0) (hsz : x.cps.size < 2 ^ 60) (he : ((its.map Builtin.Re.reRawOf).map (·.toNat)) = code)
    (hf : code.getD 0 0 = 14 ∧ code.getD 2 0 = 4 ∧ code.getD 3 0 = 1)
    (hc : ∀ c ∈ x.cps, ReNo code c) (h : Q .none s) : wpAny (model prog w) A (call (.builtin "re.Pattern.search") [.ref P, .str x t]) Q E s := by
  subst he
  exact re_call ho hT hd h5 h6 h2 hsz hf hc h
theorem re_getm {P : Addr} {vs : Array Value} {sl : Array (Option Value)} {pl : Sem Bool} {Q : Value × List Value → Shared → Prop} (ho : s.heap.get? P = some ⟨.type "re.Pattern", none, .fields vs, sl⟩) (h : Q (.builtin "re.Pattern.search", [.ref P]) s) : wpAny (model prog w) A (getMethod (.ref P) "search" pl) Q E s :=
  getMethod_builtin ⟨_, ho, rfl⟩ re_plain re_slot re_type (fun a e => by cases e; exact ⟨_, ho, rfl⟩) h
end
end
section
open PySem PySem.W PySem.Calls PyProof.Rows
section
variable {prog : Program} {w : World} {dp un : Nat} {fr : Option (List Env)} {gd : Option (List Code)} {Q : Flow → Shared → Prop} {s : Shared} {env : Env} {h₀ : Heap} {x : Str} {body : List Stmt}
/-- a turn's end of a loop over a range -/
noncomputable def RTurn {σ : Type} (s : Shared) (h₀ : Heap) (L I : Addr) (it : Obj) (news : List (Addr × Obj)) (x : Str) (mm : σ → Str → Option Value) (P : σ → Prop) (fl : Flow) (s₃ : Shared) : Prop :=
  fl = .next ∧ ∃ h' tk' c' vx, s₃ = { s with heap := h', toks := tk' } ∧ Fr h₀ L h' (fun y => if y = x then vx else mm c' y) ∧ News h₀ L h' ((I, it) :: news) ∧ P c'
theorem rangeRest_inv {σ : Type} {E : Value → Shared → Prop} {A : Around} {news : List (Addr × Obj)} {I : Addr} {a : Int} {n : Nat} (hI : ∀ p ∈ news, p.1 ≠ I) (mm : σ → Str → Option Value) (P : Nat → σ → Prop)
    (turn : ∀ i c h tk t, i < n → P i c → Fr h₀ env.locals h (fun y => if y = x then some (.int (a + (i : Int)) t) else mm c y) → News h₀ env.locals h ((I, itR (a + ((i + 1 : Nat) : Int)) ((n : Int) - ((i + 1 : Nat) : Int))) :: news) →
      wpAny (model prog w) A (execs body env) (RTurn s h₀ env.locals I (itR (a + ((i + 1 : Nat) : Int)) ((n : Int) - ((i + 1 : Nat) : Int))) news x mm (P (i + 1))) E { s with heap := h, toks := tk })
    (out : ∀ c h tk vx, P n c → Fr h₀ env.locals h (fun y => if y = x then vx else mm c y) → News h₀ env.locals h news → Q .next { s with heap := h, toks := tk }) :
    ∀ k i c m, i + k = n → P i c → (∀ y, y ≠ x → m y = mm c y) → RangeRest prog w A E h₀ env x body Q s I a n k i m news
  | 0, i, c, m, hk, hP, hm => RangeRest.zero fun h tk F N => by
    have : i = n := by omega
    subst this
    refine out c h tk (m x) hP (frc F (funext fun y => ?_)) N
    by_cases q : y = x
    · rw [if_pos q, q]
    · rw [if_neg q, hm y q]
  | k + 1, i, c, m, hk, hP, hm => RangeRest.succ fun t h tk F N => by
    have F' : Fr h₀ env.locals h (fun y => if y = x then some (.int (a + (i : Int)) t) else mm c y) := frc F (funext fun y => by
      by_cases q : y = x
      · rw [if_pos q, if_pos q]
      · rw [if_neg q, if_neg q, hm y q])
    refine wpAny_mono (turn i c h tk t (by omega) hP F' N) (fun fl s₃ y => ?_) fun _ _ e => e
    obtain ⟨rfl, h', tk', c', vx, rfl, F₃, N₃, hP'⟩ := y
    exact ⟨h', tk', _, news, rfl, F₃, N₃, hI, rangeRest_inv hI mm P turn out k (i + 1) c' _ (by omega) hP' fun y q => if_neg q⟩
/-- for x in range(..): the turns change some locals alone; one body for all turns -/
theorem forRangeS {σ : Type} {A : Around} {L r : Addr} {a₀ b₀ : Int} {t₀ u₀ v₀ : Tok} {news : List (Addr × Obj)} {m₀ : Str → Option Value} (n : Nat) (mm : σ → Str → Option Value) (P : Nat → σ → Prop) (c₀ : σ) (hA : A.handled = none) (hL : env.locals = L)
    (hr : IsRange s.heap r a₀ b₀ 1 t₀ u₀ v₀) (hsmall : Builtin.Range.small a₀ b₀ 1 = true) (hn : Builtin.Range.rangeSize a₀ b₀ 1 = (n : Int)) (F : Fr h₀ L s.heap m₀) (N : News h₀ L s.heap news)
    (hm : ∀ y, y ≠ x → m₀ y = mm c₀ y) (hP : P 0 c₀)
    (turn : ∀ I i c h tk t, (∀ p ∈ news, p.1 < I) → i < n → P i c → Fr h₀ L h (fun y => if y = x then some (.int (a₀ + (i : Int)) t) else mm c y) → News h₀ L h ((I, itR (a₀ + ((i + 1 : Nat) : Int)) ((n : Int) - ((i + 1 : Nat) : Int))) :: news) →
      wpAny (model prog w) A (execs body env) (RTurn s h₀ L I (itR (a₀ + ((i + 1 : Nat) : Int)) ((n : Int) - ((i + 1 : Nat) : Int))) news x mm (P (i + 1))) Fls { s with heap := h, toks := tk })
    (out : ∀ c h tk vx, P n c → Fr h₀ L h (fun y => if y = x then vx else mm c y) → News h₀ L h news → Q .next { s with heap := h, toks := tk }) :
    wpAny (model prog w) A (pyIter (.ref r)) (fun it s₂ => LoopAtV prog w A h₀ env x body Q Fls it s₂) Fls s := by
  subst hL
  exact iter_rangeUnr hA hr hsmall hn F N fun I hI => rangeRest_inv (fun p hp => Nat.ne_of_lt (hI p hp)) mm P (fun i c h tk t => turn I i c h tk t hI) out n 0 c₀ m₀ (Nat.zero_add n) hP hm
end
theorem ar_of {A : Around} (h : A.handled = none) : A = Ar A.depth A.frames A.guards A.units := by
  obtain ⟨a, b, c, d, e⟩ := A
  cases h
  rfl
end
section
open PySem PySem.W PySem.Calls PyProof.Rows PySem.Spec
/-- a def's body, entered, where some names are cells -/
theorem enterC {w : World} {mean : ExcName → Option Value} {mg mb : Str → Option Value} {B : Heap} {A : Around} {s : Shared} {Q : Value → Shared → Prop} {name qual : Str} {params : Arguments} {body : List Stmt} {scope : Scope} {dV kV doc pm cdv ct oc : Value} {an od : Option Addr} {osl : Array (Option Value)} {f : Addr} {args : Args} (binds : List (Str × Value))
    (W : Wd w mean mg mb B) (kB : Kp B s.heap) (news : List (Addr × Obj)) (hn : ∀ p ∈ news, s.heap.get? p.1 = some p.2 ∧ B.get? p.1 = none)
    (ho : (Mine.hd.heap_1 w.params).lookup f = some ⟨oc, od, .func (fnX name qual params body scope [] dV kV doc pm an cdv ct), osl⟩) (hcd : codeIn (Mine.hd.heap_1 w.params) cdv qual = true) (hroom : A.depth < recursionLimit)
    (hbind : BindsTo s (fnX name qual params body scope [] dV kV doc pm an cdv ct) args binds) (hkind : (binds.all fun y => scope.names.lookup y.1 == some .local || scope.names.lookup y.1 == some .cell) = true)
    (hnd : ((cellsFrom 0 scope.names []).map (·.1)).Nodup)
    (h : ∀ g L h₁ tk cells, Fr g L h₁ (bindL (envOfC qual scope L f cdv).kindOf binds fun _ => none) → News g L h₁ (cells ++ news) → CellsAre (bindC (envOfC qual scope L f cdv).kindOf binds fun _ => none) (cellsFrom (L + 1) scope.names []) cells → Wd w mean mg mb g → (∀ b o, s.heap.get? b = some o → b ∉ news.map (·.1) → g.get? b = some o) → (∀ b o, s.heap.get? b = some o → b < L) →
      wpAny (model prg w) (A.deeper (envOfC qual scope L f cdv)) (execs body (envOfC qual scope L f cdv))
        (fun fl s' => Q (match fl with | .ret v => v | _ => .none) s') Fls
        { s with heap := h₁, toks := tk })
    (hco : scope.isCoroutine = false) (hgen : scope.isGenerator = false) (hk : scope.kind = .function) : codeAny (model prg w) A (.call (.ref f) args) (fun r s' => match r with | .ok (.ret v) => Q v s' | _ => False) s := by
  have W' := W.keeps kB
  have kg : Kp B (hideAll s.heap (news.map (·.1))) := fun b o e => hideAll_get _ (kB b o e) fun q => by
    obtain ⟨p, hp, rfl⟩ := List.mem_map.mp q
    rw [(hn p hp).2] at e; cases e
  refine codeAny_call_function hroom (W'.X _ _ ho) rfl hco hgen rfl (codeRec_of W'.X hcd) (hbind _ _ _ _ ?_)
  refine wpAny_newFunctionEnv_cells hk (kindsX hkind _) fun env' he s' x => ?_
  subst he
  refine ⟨W'.nolimit.keeps x.toInCall.keep, codeAny_func ?_⟩
  obtain ⟨h₁, tk, rfl, _⟩ := x.done
  have hk₁ := x.toInCall.keep
  obtain ⟨cells, NC, Y⟩ := Cl.news (h₀ := s.heap) (Nat.le_refl _) fun n c hm => ⟨x.cell n c (lookup_of_mem_nodup (cellsFrom_names scope.names 0 (s.heap.objs.size + 1) [] [] rfl ▸ hnd) hm), x.above n c hm⟩
  refine wpAny_mono (h (hideAll s.heap (news.map (·.1))) s.heap.objs.size h₁ tk cells ⟨x.toInCall.ns, fun b o e => hk₁ b o (of_hideAll _ e), Nat.le_of_eq (hideAll_size _ _)⟩ (fun p hp => ?_) Y (W.keeps kg) (fun b o e hb => hideAll_get _ e hb) (fun b o e => Heap.lt_size e)) (fun fl s' hl => hl) fun _ _ y => y.elim
  rcases List.mem_append.mp hp with hp | hp
  · refine ⟨(NC p hp).1, (NC p hp).2.1, ?_⟩
    cases q : (hideAll s.heap (news.map (·.1))).get? p.1 with
    | none => rfl
    | some o => have := of_hideAll _ q; rw [(NC p hp).2.2] at this; cases this
  · exact ⟨hk₁ _ _ (hn p hp).1, Nat.ne_of_lt (Heap.lt_size (hn p hp).1), hideAll_none _ (List.mem_map_of_mem hp)⟩
theorem fresh_of {sh g h' : Heap} {L D : Addr} {o : Obj} {news news' : List (Addr × Obj)} (N : News g L h' news') (hm : (D, o) ∈ news') (hk : ∀ b o, sh.get? b = some o → b ∉ news.map (·.1) → g.get? b = some o) (hne : ∀ p ∈ news, p.1 ≠ D) : sh.get? D = none := by
  cases e : sh.get? D with
  | none => rfl
  | some o' =>
    have := hk D o' e fun q => by
      obtain ⟨p, hp, h⟩ := List.mem_map.mp q
      exact hne p hp h
    rw [(N _ hm).2.2] at this; cases this
theorem ints3 {ys : List Value} {a b c : Int} (h : IntsAre ys [a, b, c]) : ∃ t0 t1 t2, ys = [.int a t0, .int b t1, .int c t2] := by
  cases h with | cons _ t0 h => cases h with | cons _ t1 h => cases h with | cons _ t2 h => cases h; exact ⟨_, _, _, rfl⟩
theorem ints2 {ys : List Value} {a b : Int} (h : IntsAre ys [a, b]) : ∃ t0 t1, ys = [.int a t0, .int b t1] := by
  cases h with | cons _ t0 h => cases h with | cons _ t1 h => cases h; exact ⟨_, _, rfl⟩
/-- what a call hands to the caller's ledger -/
theorem ne_of_new {sh g : Heap} {L D : Addr} {news : List (Addr × Obj)} (N : News g L sh news) (hD : sh.get? D = none) : ∀ p ∈ news, p.1 ≠ D := fun p hp q => by
  have := (N p hp).1
  rw [q, hD] at this; cases this
theorem news_add {sh g h' : Heap} {L D : Addr} {o : Obj} {m : Str → Option Value} {news : List (Addr × Obj)} (F : Fr g L sh m) (N : News g L sh news) (k : Kp sh h') (hD : h'.get? D = some o) (hn : sh.get? D = none) : News g L h' ((D, o) :: news) := fun p hp => by
  rcases List.mem_cons.mp hp with rfl | hp
  · refine ⟨hD, fun q => ?_, ?_⟩
    · obtain ⟨oL, _, _, hL, _⟩ := F.ns
      have q' : D = L := q
      rw [q', hL] at hn; cases hn
    · cases e : g.get? D with
      | none => rfl
      | some o' => have := F.keep _ _ e; rw [hn] at this; cases this
  · exact (News.grown N k) p hp
end
section
open PySem PySem.W PySem.Calls PyProof.Rows
section
variable {prog : Program} {w : World} {Q : Flow → Shared → Prop} {s : Shared} {env : Env} {h₀ : Heap} {target : Expr} {body : List Stmt}
/-- a turn's end of a loop over a range, where objects of the ledger change too -/
noncomputable def TTurn {σ : Type} (s₁ : Shared) (h₀ : Heap) (L I : Addr) (it : Obj) (mm : σ → Str → Option Value) (nn : σ → List (Addr × Obj)) (P : σ → Prop) (fl : Flow) (s₃ : Shared) : Prop :=
  fl = .next ∧ ∃ h' tk' c', s₃ = { s₁ with heap := h', toks := tk' } ∧ Fr h₀ L h' (mm c') ∧ News h₀ L h' ((I, it) :: nn c') ∧ (∀ p ∈ nn c', @Ne Nat p.1 I) ∧ P c'
theorem forRangeT {σ : Type} {A : Around} {L r : Addr} {a₀ b₀ : Int} {t₀ u₀ v₀ : Tok} (n : Nat) (mm : σ → Str → Option Value) (nn : σ → List (Addr × Obj)) (P : Nat → σ → Prop) (c₀ : σ) (hA : A.handled = none) (hL : env.locals = L)
    (hr : IsRange s.heap r a₀ b₀ 1 t₀ u₀ v₀) (hsmall : Builtin.Range.small a₀ b₀ 1 = true) (hn : Builtin.Range.rangeSize a₀ b₀ 1 = (n : Int)) (F : Fr h₀ L s.heap (mm c₀)) (N : News h₀ L s.heap (nn c₀)) (hP : P 0 c₀)
    (hgo : ∀ (I : Addr) (s' : Shared) v (Q' : Unit → Shared → Prop), Q' () s' → wpAny (model prog w) A (letOwnedTupleGo target (.ref I) v) Q' Fls s')
    (turn : ∀ I i c h tk t (s₁ : Shared), (∀ p ∈ nn c, @Ne Nat p.1 I) → i < n → P i c → Fr h₀ L h (mm c) → News h₀ L h ((I, itR (a₀ + ((i + 1 : Nat) : Int)) ((n : Int) - ((i + 1 : Nat) : Int))) :: nn c) →
      wpAny (model prog w) A (assign target env (.int (a₀ + (i : Int)) t)) (fun _ s₃ => wpAny (model prog w) A (execs body env) (TTurn s₁ h₀ L I (itR (a₀ + ((i + 1 : Nat) : Int)) ((n : Int) - ((i + 1 : Nat) : Int))) mm nn (P (i + 1))) Fls s₃) Fls { s₁ with heap := h, toks := tk })
    (out : ∀ c h tk, P n c → Fr h₀ L h (mm c) → News h₀ L h (nn c) → Q .next { s with heap := h, toks := tk }) :
    wpAny (model prog w) A (pyIter (.ref r)) (fun it s₂ => LoopAtT prog w A h₀ env target body Q Fls it s₂) Fls s := by
  subst hL
  refine wpAny_pyIter_range hr hsmall ?_
  have W : Walks prog w A s.heap.objs.size [s.heap.objs.size] [s.heap.objs.size] n (fun i v => i < n ∧ ∃ t, v = .int (a₀ + i * 1) t)
      (fun i h => IsRangeIter h s.heap.objs.size (a₀ + (i : Nat) * 1) ((n : Int) - (i : Nat)) 1) := (Walks.range hA _ a₀ 1 n).bound
  have hnew := next_is_new F
  have hlt : ∀ p ∈ nn c₀, p.1 < s.heap.objs.size := fun p hp => Heap.lt_size (N p hp).1
  have hoffc : ∀ c, (∀ p ∈ nn c, @Ne Nat p.1 s.heap.objs.size) → ∀ p ∈ nn c, p.1 ∉ [s.heap.objs.size] := fun c h p hp hI => h p hp (List.mem_singleton.mp hI)
  refine ⟨_, _, _, n, _, _, mm c₀, nn c₀, fun i m news => ∃ c, m = mm c ∧ news = nn c ∧ (∀ p ∈ nn c, @Ne Nat p.1 s.heap.objs.size) ∧ P i c, rfl, W, ?_, ?_, hoffc c₀ (fun p hp => Nat.ne_of_lt (hlt p hp)), (by show IsRangeIter _ _ _ _ _; rw [hn]; simpa using Heap.get?_push_size _ rfl), F.push _, (fun p hp => ⟨Heap.get?_push_of_some _ (N p hp).1, (N p hp).2⟩), fun i s' v Q' _ hq => hgo _ s' v Q' hq, ⟨c₀, rfl, rfl, fun p hp => Nat.ne_of_lt (hlt p hp), hP⟩, ?_, ?_⟩
  · intro hm
    exact absurd F.ns.lt ((List.mem_singleton.mp hm) ▸ Nat.lt_irrefl _)
  · intro b hb
    rw [List.mem_singleton.mp hb]
    exact hnew
  · rintro i v m₁ news₁ s₁ own hin ⟨_, t, rfl⟩ ⟨c, rfl, rfl, hne, hPc⟩ hoff hown hget hall hst F₁ N₁
    have hst' : s₁.heap.get? s.heap.objs.size = some (itR (a₀ + ((i + 1 : Nat) : Int)) ((n : Int) - ((i + 1 : Nat) : Int))) := by
      have q : IsRangeIter s₁.heap s.heap.objs.size (a₀ + ((i + 1 : Nat) : Int) * 1) ((n : Int) - ((i + 1 : Nat) : Int)) 1 := hst
      rw [Int.mul_one] at q
      exact q
    have hmem := hall s.heap.objs.size (List.mem_singleton.mpr rfl) hnew _ hst'
    have N₂ : News h₀ env.locals s₁.heap ((s.heap.objs.size, itR (a₀ + ((i + 1 : Nat) : Int)) ((n : Int) - ((i + 1 : Nat) : Int))) :: nn c) := fun p hp => by
      rcases List.mem_cons.mp hp with rfl | hp
      · exact N₁ _ (List.mem_append_left _ hmem)
      · exact N₁ _ (List.mem_append_right _ hp)
    have := turn s.heap.objs.size i c s₁.heap s₁.toks t s₁ hne hin hPc F₁ N₂
    rw [Int.mul_one]
    refine wpAny_mono this (fun _ s₃ y => wpAny_mono y (fun fl s₄ z => ?_) fun _ _ e => e) fun _ _ e => e
    obtain ⟨rfl, h', tk', c', rfl, F₃, N₃, hne', hP'⟩ := z
    refine ⟨rfl, h', tk', mm c', nn c', rfl, F₃, fun p hp => ?_, hoffc c' hne', c', rfl, rfl, hne', hP'⟩
    rcases List.mem_append.mp hp with hp | hp
    · have : p = (s.heap.objs.size, itR (a₀ + ((i + 1 : Nat) : Int)) ((n : Int) - ((i + 1 : Nat) : Int))) := by
        have e1 := List.mem_singleton.mp (hown p hp)
        have e2 := hget p hp
        rw [e1, hst'] at e2
        exact Prod.ext e1 (Option.some.inj e2).symm
      rw [this]
      exact N₃ _ (.head _)
    · exact N₃ p (.tail _ hp)
  · rintro h' tk m' news' F₃ N₃ - ⟨c, rfl, rfl, -, hPc⟩
    exact out c h' tk hPc F₃ N₃
end
end
section
open PySem PySem.W PySem.Calls PyProof.Rows PySem.Spec
section
variable {prog : Program} {w : World} {Q : Flow → Shared → Prop} {s : Shared} {env : Env} {h₀ : Heap} {target : Expr} {body : List Stmt}
theorem forListT {σ : Type} {A : Around} {L ax : Addr} {its : Array Value} (mm : σ → Str → Option Value) (nn : σ → List (Addr × Obj)) (P : Nat → σ → Prop) (c₀ : σ) (hA : A.handled = none) (hL : env.locals = L)
    (hl : s.heap.IsList ax its) (hsrc : h₀.IsList ax its ∨ ∃ o, ∀ c, (ax, o) ∈ nn c) (F : Fr h₀ L s.heap (mm c₀)) (N : News h₀ L s.heap (nn c₀)) (hP : P 0 c₀)
    (hgo : ∀ (I : Addr) (s' : Shared) v (Q' : Unit → Shared → Prop), Q' () s' → wpAny (model prog w) A (letOwnedTupleGo target (.ref I) v) Q' Fls s')
    (turn : ∀ I i c h tk v oI (s₁ : Shared), (∀ p ∈ nn c, @Ne Nat p.1 I) → i < its.size → its[i]? = some v → P i c → Fr h₀ L h (mm c) → News h₀ L h ((I, oI) :: nn c) →
      wpAny (model prog w) A (assign target env v) (fun _ s₃ => wpAny (model prog w) A (execs body env) (TTurn s₁ h₀ L I oI mm nn (P (i + 1))) Fls s₃) Fls { s₁ with heap := h, toks := tk })
    (out : ∀ c h tk, P its.size c → Fr h₀ L h (mm c) → News h₀ L h (nn c) → Q .next { s with heap := h, toks := tk }) :
    wpAny (model prog w) A (pyIter (.ref ax)) (fun it s₂ => LoopAtT prog w A h₀ env target body Q Fls it s₂) Fls s := by
  subst hL
  have hlt : ax < s.heap.objs.size := by obtain ⟨_, e, _⟩ := hl; exact Heap.lt_size e
  refine wpAny_pyIter_list hl ?_
  have up : ∀ b o, s.heap.get? b = some o → (s.heap.push { cls := .type "list_iterator", data := .fields #[.ref ax, .int 0 0] }).get? b = some o := fun b o e => Heap.get?_push_of_some _ e
  have hnew := next_is_new F
  have hlts : ∀ p ∈ nn c₀, p.1 < s.heap.objs.size := fun p hp => Heap.lt_size (N p hp).1
  have hoffc : ∀ c, (∀ p ∈ nn c, @Ne Nat p.1 s.heap.objs.size) → ∀ p ∈ nn c, p.1 ∉ [s.heap.objs.size] := fun c h p hp hI => h p hp (List.mem_singleton.mp hI)
  have W := Walks.list (prog := prog) (w := w) (A := A) hA s.heap.objs.size ax (Nat.ne_of_lt hlt) its
  refine ⟨_, _, _, _, _, _, mm c₀, nn c₀, fun i m news => ∃ c, m = mm c ∧ news = nn c ∧ (∀ p ∈ nn c, @Ne Nat p.1 s.heap.objs.size) ∧ P i c, rfl, W, ?_, ?_, hoffc c₀ (fun p hp => Nat.ne_of_lt (hlts p hp)), ⟨⟨_, Heap.get?_push_size _ rfl, rfl, rfl⟩, hl.push _⟩, F.push _, N.grown up, fun i s' v Q' _ hq => hgo _ s' v Q' hq, ⟨c₀, rfl, rfl, fun p hp => Nat.ne_of_lt (hlts p hp), hP⟩, ?_, ?_⟩
  · intro hm
    rcases List.mem_cons.mp hm with hm | hm
    · exact absurd F.ns.lt (hm ▸ Nat.lt_irrefl _)
    · have e := List.mem_singleton.mp hm
      rcases hsrc with ⟨o, ho, _⟩ | ⟨o, ho⟩
      · have z := F.above
        rw [e] at z
        exact absurd (Heap.lt_size ho) (Nat.not_lt.mpr z)
      · exact (N _ (ho c₀)).2.1 e.symm
  · intro b hb
    rw [List.mem_singleton.mp hb]
    exact hnew
  · rintro i v m₁ news₁ s₁ own hin hv ⟨c, rfl, rfl, hne, hPc⟩ hoff hown hget hall hst F₁ N₁
    obtain ⟨oI, heI, hoI⟩ := hst.1
    have hmem := hall s.heap.objs.size (List.mem_cons_self) hnew _ heI
    have N₂ : News h₀ env.locals s₁.heap ((s.heap.objs.size, oI) :: nn c) := fun p hp => by
      rcases List.mem_cons.mp hp with rfl | hp
      · exact N₁ _ (List.mem_append_left _ hmem)
      · exact N₁ _ (List.mem_append_right _ hp)
    refine wpAny_mono (turn s.heap.objs.size i c s₁.heap s₁.toks v oI s₁ hne hin hv hPc F₁ N₂) (fun _ s₃ y => wpAny_mono y (fun fl s₄ z => ?_) fun _ _ e => e) fun _ _ e => e
    obtain ⟨rfl, h', tk', c', rfl, F₃, N₃, hne', hP'⟩ := z
    refine ⟨rfl, h', tk', mm c', nn c', rfl, F₃, fun p hp => ?_, hoffc c' hne', c', rfl, rfl, hne', hP'⟩
    rcases List.mem_append.mp hp with hp | hp
    · rcases List.mem_cons.mp (hown p hp) with e1 | e1
      · have e2 := hget p hp
        rw [e1, heI] at e2
        have : p = (s.heap.objs.size, oI) := Prod.ext e1 (Option.some.inj e2).symm
        rw [this]
        exact N₃ _ (.head _)
      · have e1 := List.mem_singleton.mp e1
        have e2 := hget p hp
        rcases hsrc with ⟨o, ho, _⟩ | ⟨o, ho⟩
        · have z := (N₁ p (List.mem_append_left _ hp)).2.2
          rw [e1, ho] at z
          cases z
        · have z := (N₂ _ (.tail _ (ho c))).1
          rw [e1, z] at e2
          have : p = (ax, o) := Prod.ext e1 (Option.some.inj e2).symm
          rw [this]
          exact N₃ _ (.tail _ (ho c'))
    · exact N₃ p (.tail _ hp)
  · rintro h' tk m' news' F₃ N₃ - ⟨c, rfl, rfl, -, hPc⟩
    exact out c h' tk hPc F₃ N₃
end
section
variable {prog : Program} {w : World} {A : Around} {h₀ : Heap} {L : Addr} {m : Str → Option Value} {env : Env} {s : Shared}
/-- a comprehension's turns, by what holds between them -/
theorem rest_inv {σ : Type} {elt : Expr} {x : Str} {scope : Scope} {cl : List (Str × Addr)} {S : List (Addr × Obj) → Prop} {P : Nat → Value → Prop} {Fin : List Value → List (Addr × Obj) → Prop} {n : Nat} (nn : σ → List (Addr × Obj)) (J : Nat → List Value → σ → Prop)
    (turn : ∀ i ys c v I oI C oC D m₂ h tk (E' : Value → Shared → Prop), i < n → J i ys c → P i v → LCg.NsObj oC m₂ → m₂ x = some v → Fr h₀ L h m → News h₀ L h ((I, oI) :: (C, oC) :: (D, LCg.lst ys) :: nn c) → LCg.Off3 I C D (nn c) → ((@Ne Nat I C) ∧ (@Ne Nat I D) ∧ (@Ne Nat C D)) →
      wpAny (model prog w) A (eval elt (compEnvC scope cl C env)) (LCg.CompEnd h₀ L m { s with heap := h, toks := tk } I oI C oC D (LCg.lst ys) (fun _ => True) (fun y news' => ∃ c', (∀ p ∈ nn c', p ∈ news') ∧ S (nn c') ∧ J (i + 1) (ys ++ [y]) c')) E' { s with heap := h, toks := tk })
    (fin : ∀ ys c, J n ys c → Fin ys (nn c)) :
    ∀ k i ys c, i + k = n → J i ys c → LCg.CompRest prog w A h₀ L m env elt x scope cl s S P Fin k i ys (nn c)
  | 0, i, ys, c, hk, hJ => LCg.CompRest.zero (by
    have : i = n := by omega
    subst this
    exact fin ys c hJ)
  | k + 1, i, ys, c, hk, hJ => LCg.CompRest.succ fun v I oI C oC D m₂ h tk E' hv hC hx F N off ne => by
    refine wpAny_mono (turn i ys c v I oI C oC D m₂ h tk E' (by omega) hJ hv hC hx F N off ne) (fun y s₂ z => ?_) fun _ _ e => e
    obtain ⟨h', tk', news', rfl, F', N', off', -, c', hsub, hS, hJ'⟩ := z
    refine ⟨h', tk', nn c', rfl, F', fun p hp => N' p ?_, LCg.Off3.of fun p hp => off'.mem p (hsub p hp), hS, rest_inv nn J turn fin k (i + 1) _ c' (by omega) hJ'⟩
    rcases List.mem_cons.mp hp with rfl | hp
    · exact .head _
    · rcases List.mem_cons.mp hp with rfl | hp
      · exact .tail _ (.head _)
      · rcases List.mem_cons.mp hp with rfl | hp
        · exact .tail _ (.tail _ (.head _))
        · exact .tail _ (.tail _ (.tail _ (hsub p hp)))
theorem restT_inv {σ : Type} {ct elt : Expr} {x : Str} {scope : Scope} {cl : List (Str × Addr)} {S : List (Addr × Obj) → Prop} {P : Nat → Value → Prop} {Fin : List Value → List (Addr × Obj) → Prop} {n : Nat} (nn : σ → List (Addr × Obj)) (J : Nat → List Value → σ → Prop)
    (turn : ∀ i ys c v I oI C oC D m₂ h tk (E' : Value → Shared → Prop), i < n → J i ys c → P i v → LCg.NsObj oC m₂ → m₂ x = some v → Fr h₀ L h m → News h₀ L h ((I, oI) :: (C, oC) :: (D, LCg.lst ys) :: nn c) → LCg.Off3 I C D (nn c) → ((@Ne Nat I C) ∧ (@Ne Nat I D) ∧ (@Ne Nat C D)) →
      wpAny (model prog w) A (isTrue ct (compEnvC scope cl C env) (eval ct (compEnvC scope cl C env))) (fun ok s' => if ok = true then
        wpAny (model prog w) A (eval elt (compEnvC scope cl C env)) (LCg.CompEnd h₀ L m { s with heap := h, toks := tk } I oI C oC D (LCg.lst ys) (fun _ => True) (fun y news' => ∃ c', (∀ p ∈ nn c', p ∈ news') ∧ S (nn c') ∧ J (i + 1) (ys ++ [y]) c')) E' s'
        else LCg.CompEnd h₀ L m { s with heap := h, toks := tk } I oI C oC D (LCg.lst ys) (fun _ => True) (fun _ news' => ∃ c', (∀ p ∈ nn c', p ∈ news') ∧ S (nn c') ∧ J (i + 1) ys c') Value.none s') E' { s with heap := h, toks := tk })
    (fin : ∀ ys c, J n ys c → Fin ys (nn c)) :
    ∀ k i ys c, i + k = n → J i ys c → LCt.CompRestT prog w A h₀ L m env ct elt x scope cl s S P Fin k i ys (nn c)
  | 0, i, ys, c, hk, hJ => LCt.CompRestT.zero (by
    have : i = n := by omega
    subst this
    exact fin ys c hJ)
  | k + 1, i, ys, c, hk, hJ => LCt.CompRestT.succ fun v I oI C oC D m₂ h tk E' hv hC hx F N off ne => by
    have key : ∀ ys' y s₂, LCg.CompEnd h₀ L m { s with heap := h, toks := tk } I oI C oC D (LCg.lst ys) (fun _ => True) (fun _ news' => ∃ c', (∀ p ∈ nn c', p ∈ news') ∧ S (nn c') ∧ J (i + 1) ys' c') y s₂ →
        LCg.CompEnd h₀ L m { s with heap := h, toks := tk } I oI C oC D (LCg.lst ys) S (fun _ news' => LCt.CompRestT prog w A h₀ L m env ct elt x scope cl s S P Fin k (i + 1) ys' news') y s₂ := by
      intro ys' y s₂ z
      obtain ⟨h', tk', news', rfl, F', N', off', -, c', hsub, hS, hJ'⟩ := z
      refine ⟨h', tk', nn c', rfl, F', fun p hp => N' p ?_, LCg.Off3.of fun p hp => off'.mem p (hsub p hp), hS, restT_inv nn J turn fin k (i + 1) _ c' (by omega) hJ'⟩
      rcases List.mem_cons.mp hp with rfl | hp
      · exact .head _
      · rcases List.mem_cons.mp hp with rfl | hp
        · exact .tail _ (.head _)
        · rcases List.mem_cons.mp hp with rfl | hp
          · exact .tail _ (.tail _ (.head _))
          · exact .tail _ (.tail _ (.tail _ (hsub p hp)))
    refine wpAny_mono (turn i ys c v I oI C oC D m₂ h tk E' (by omega) hJ hv hC hx F N off ne) (fun ok s₂ z => ?_) fun _ _ e => e
    cases ok with
    | true =>
      simp only [if_true] at z ⊢
      exact wpAny_mono z (fun y s₃ q => key _ y s₃ q) fun _ _ e => e
    | false =>
      simp only [Bool.false_eq_true, if_false] at z ⊢
      exact key _ _ _ z
end
end
section
open PySem PySem.W PySem.Calls PyProof.Rows PySem.Spec
/-- a lambda of one plain parameter, entered -/
theorem enterLam0 {w : World} {mean : ExcName → Option Value} {mg mb : Str → Option Value} {B : Heap} {A : Around} {s : Shared} {Q : Value → Shared → Prop} {name qual : Str} {params : Arguments} {body : Expr} {scope : Scope} {pm cdv ct oc : Value} {od : Option Addr} {sl : Array (Option Value)} {f : Addr} (x : Str) (v : Value)
    (W : Wd w mean mg mb B) (kB : Kp B s.heap) (news : List (Addr × Obj)) (hn : ∀ p ∈ news, s.heap.get? p.1 = some p.2 ∧ B.get? p.1 = none)
    (ho : s.heap.get? f = some ⟨oc, od, .func (kla_fn name qual params body scope [] pm cdv ct), sl⟩) (hcd : s.heap.CodeRec cdv qual) (hroom : A.depth < recursionLimit)
    (hbind : bindArgs (kla_fn name qual params body scope [] pm cdv ct) ⟨[v], []⟩ = pure [(x, v)]) (hloc : scope.names.lookup x = some .local)
    (h : ∀ g L h₁ tk, Fr g L h₁ (mp [(x, v)]) → News g L h₁ news → Wd w mean mg mb g → (∀ b o, s.heap.get? b = some o → b ∉ news.map (·.1) → g.get? b = some o) → (∀ b o, s.heap.get? b = some o → b < L) →
      wpAny (model prg w) (A.deeper (envX qual scope L f cdv [])) (eval body (envX qual scope L f cdv [])) Q Fls { s with heap := h₁, toks := tk })
    (hcell : ∀ x ∈ scope.names, x.2 ≠ .cell) (hco : scope.isCoroutine = false) (hgen : scope.isGenerator = false) (hk : scope.kind = .function) :
    codeAny (model prg w) A (.call (.ref f) ⟨[v], []⟩) (fun r s' => match r with | .ok (.ret v) => Q v s' | _ => False) s := by
  refine kla_callFunE hroom ho rfl hco hgen rfl hcd ?_
  rw [hbind]
  refine wpAny_pure (wpAny_newFunctionEnv hcell (fun y hy => by rw [List.mem_singleton.mp hy]; exact hloc) (fun h₁ hns hsb => ⟨(W.keeps kB).nolimit.fresh _ hsb, ?_⟩) hk)
  have kk : Kp s.heap h₁ := fun b o e => hsb.extBut b o (Nat.ne_of_lt (Heap.lt_size e)) (Heap.get?_push_of_some _ e)
  have kg : Kp B (hideAll s.heap (news.map (·.1))) := fun b o e => hideAll_get _ (kB b o e) fun q => by
    obtain ⟨p, hp, rfl⟩ := List.mem_map.mp q
    rw [(hn p hp).2] at e; cases e
  refine kla_codeExpr (wpAny_mono (h (hideAll s.heap (news.map (·.1))) s.heap.objs.size h₁ _ ⟨?_, fun b o e => kk b o (of_hideAll _ e), Nat.le_of_eq (hideAll_size _ _)⟩ (fun p hp => ⟨kk _ _ (hn p hp).1, Nat.ne_of_lt (Heap.lt_size (hn p hp).1), hideAll_none _ (List.mem_map_of_mem hp)⟩) (W.keeps kg) (fun b o e hb => hideAll_get _ e hb) (fun b o e => Heap.lt_size e)) (fun _ _ y => y) fun _ _ y => y.elim)
  rw [show mp [(x, v)] = fun y => ([(x, v)] : List (Str × Value)).reverse.lookup y from funext fun y => (mp_lookup [(x, v)] y).symm]
  exact hns
/-- a lambda of one parameter that is a cell, with a closure, entered -/
theorem enterLam1 {w : World} {mean : ExcName → Option Value} {mg mb : Str → Option Value} {B : Heap} {A : Around} {s : Shared} {Q : Value → Shared → Prop} {name qual : Str} {params : Arguments} {body : Expr} {scope : Scope} {cl : List (Str × Addr)} {pm cdv ct oc : Value} {od : Option Addr} {sl : Array (Option Value)} {f : Addr} (x : Str) (v : Value)
    (W : Wd w mean mg mb B) (kB : Kp B s.heap) (news : List (Addr × Obj)) (hn : ∀ p ∈ news, s.heap.get? p.1 = some p.2 ∧ B.get? p.1 = none)
    (ho : s.heap.get? f = some ⟨oc, od, .func (kla_fn name qual params body scope cl pm cdv ct), sl⟩) (hcd : s.heap.CodeRec cdv qual) (hroom : A.depth < recursionLimit)
    (hbind : bindArgs (kla_fn name qual params body scope cl pm cdv ct) ⟨[v], []⟩ = pure [(x, v)]) (hx : scope.names.lookup x = some .cell)
    (hcf : ∀ n acc, cellsFrom n scope.names acc = (x, n) :: acc) (hpc : ∀ h, pushCells h scope.names = h.push { cls := .type "cell", data := .cell none })
    (h : ∀ g L h₁ ob tk, Fr g L h₁ (mp []) → News g L h₁ ((L + 1, ob) :: news) → ob.data = .cell (some v) → Wd w mean mg mb g → (∀ b o, s.heap.get? b = some o → b ∉ news.map (·.1) → g.get? b = some o) → (∀ b o, s.heap.get? b = some o → b < L) →
      wpAny (model prg w) (A.deeper (envX qual scope L f cdv ((x, L + 1) :: cl))) (eval body (envX qual scope L f cdv ((x, L + 1) :: cl))) Q Fls { s with heap := h₁, toks := tk })
    (hco : scope.isCoroutine = false) (hgen : scope.isGenerator = false) (hk : scope.kind = .function) :
    codeAny (model prg w) A (.call (.ref f) ⟨[v], []⟩) (fun r s' => match r with | .ok (.ret v) => Q v s' | _ => False) s := by
  refine kla_callFunE hroom ho rfl hco hgen rfl hcd ?_
  rw [hbind]
  refine wpAny_pure ?_
  show wpAny _ _ (newFunctionEnv scope mainGlobals cl [(x, v)] (qual ++ ".<locals>.") (some f) cdv none builtinsNs) _ _ _
  simp only [newFunctionEnv, Option.isSome_none, Bool.false_eq_true, if_false]
  refine wpAny_bind (wpAny_alloc ?_)
  refine wpAny_bind (wpAny_layCells _ (fun name kind cells => by cases hkc : kind == NameKind.cell <;> simp [hkc]) _ _ _ _ ?_)
  rw [hcf, hpc]
  rw [show ({ s with heap := s.heap.push { cls := .type "frame", data := .dict #[] } } : Shared).heap.objs.size = s.heap.objs.size + 1 from Heap.size_push ..]
  dsimp only
  generalize hH : (s.heap.push { cls := .type "frame", data := .dict #[] }).push { cls := .type "cell", data := .cell none } = H
  have hsz : (s.heap.push { cls := .type "frame", data := .dict #[] }).objs.size = s.heap.objs.size + 1 := Heap.size_push ..
  have hcg : H.IsCell (s.heap.objs.size + 1) none := by
    rw [← hH, ← hsz]
    exact ⟨_, Heap.get?_push_size _ rfl, rfl⟩
  have hns : H.Ns s.heap.objs.size (fun _ => none) := by
    rw [← hH]
    exact (Heap.Ns.new s.heap (.type "frame")).keeps fun b o e => Heap.get?_push_of_some _ e
  have hk0 : Kp s.heap H := fun b o e => by rw [← hH]; exact Heap.get?_push_of_some _ (Heap.get?_push_of_some _ e)
  refine wpAny_bind ?_
  rw [List.forIn_cons]
  refine wpAny_bind (wpAny_bind (wpAny_storeName_cell (c := s.heap.objs.size + 1) hk hx (by show (((x, s.heap.objs.size + 1) :: cl).lookup x) = _; simp [List.lookup]) hcg fun h' hv hs => ?_))
  refine wpAny_pure ?_
  dsimp only
  rw [List.forIn_nil]
  refine wpAny_pure (wpAny_pure ?_)
  have kk : Kp s.heap h' := fun b o e => (hs.2 b (Nat.ne_of_lt (Nat.lt_succ_of_lt (Heap.lt_size e)))).trans (hk0 b o e)
  have hns' : h'.Ns s.heap.objs.size (fun _ => none) := hns.sameBut hs (Nat.ne_of_lt (Nat.lt_succ_self _))
  refine ⟨(W.keeps kB).nolimit.keeps kk, ?_⟩
  obtain ⟨ob, hob, hd⟩ := hv
  have kg : Kp B (hideAll s.heap (news.map (·.1))) := fun b o e => hideAll_get _ (kB b o e) fun q => by
    obtain ⟨p, hp, rfl⟩ := List.mem_map.mp q
    rw [(hn p hp).2] at e; cases e
  refine kla_codeExpr (wpAny_mono (h (hideAll s.heap (news.map (·.1))) s.heap.objs.size h' ob _ ⟨hns', fun b o e => kk b o (of_hideAll _ e), Nat.le_of_eq (hideAll_size _ _)⟩ (fun p hp => ?_) hd (W.keeps kg) (fun b o e hb => hideAll_get _ e hb) (fun b o e => Heap.lt_size e)) (fun _ _ y => y) fun _ _ y => y.elim)
  rcases List.mem_cons.mp hp with rfl | hp
  · refine ⟨hob, Nat.ne_of_gt (Nat.lt_succ_self _), ?_⟩
    cases e : (hideAll s.heap (news.map (·.1))).get? (s.heap.objs.size + 1) with
    | none => rfl
    | some o => exact absurd (Heap.lt_size (of_hideAll _ e)) (Nat.not_lt.mpr (Nat.le_succ _))
  · exact ⟨kk _ _ (hn p hp).1, Nat.ne_of_lt (Heap.lt_size (hn p hp).1), hideAll_none _ (List.mem_map_of_mem hp)⟩
end
local macro_rules | `(tactic| ktn_open) => `(tactic| first | (exact kp_step rfl rfl) | (exact kp_step (kp_step rfl rfl) rfl) | (exact ko_step rfl rfl) | (exact ko_step (ko_step rfl rfl) rfl) | (exact ko_step (ko_step (ko_step rfl rfl) rfl) rfl) | (exact ko_step (ko_step (ko_step (ko_step rfl rfl) rfl) rfl) rfl) | (funext y; dsimp only [mp, mo, mo1]; repeat' (first | rfl | (split <;> (try subst_vars)))))
section
set_option maxHeartbeats 4000000
open PySem PySem.W PySem.Calls PyProof.Rows
theorem fillS2 : PySem.Challenge.rw_uc0030_01 = PySem.Challenge.rw_uc0030_01 ∧ Mine.hd.heap_1 = Mine.hd.heap_1 := by k_fill; exact ⟨rfl, rfl⟩
noncomputable def nmS (k : Nat) (g : Bool) : Str := if g then (if k = 0 then Str.ofString "A" else if k = 1 then Str.ofString "AB" else Str.ofString "B") else (if k = 0 then Str.ofString "a" else if k = 1 then Str.ofString "ab" else Str.ofString "b")
theorem name_call {w : World} {mean : ExcName → Option Value} {mg mb : Str → Option Value} {B : Heap} {dp un : Nat} {fr : Option (List Env)} {gd : Option (List Code)} {s : Shared} {Q : Value → Shared → Prop} (W : Wd w mean mg mb B) (kB : Kp B s.heap)
   (hd : dp + 1 < recursionLimit) (k : Int) (gr : Bool) (u : Tok) (h0 : 0 ≤ k) (h3 : k < 3)
   (hQ : ∀ h' tk' t', Kp s.heap h' → Q (.str (nmS k.toNat gr) t') { s with heap := h', toks := tk' }) :
  codeAny (model prg w) (Ar dp fr gd un) (.call (.ref 234) ⟨[.int k u, .bool gr], []⟩) (fun r s' => match r with | .ok (.ret v) => Q v s' | _ => False) s := by
  have X0 := W.X
  refine' enterN [(Str.ofString "k", .int k u), (Str.ofString "great", .bool gr)] W kB [] ?kn ?k6 ?k7 ?k8 ?k9 ?kB ?_ ?c2 ?c3 ?c4 ?c5
  case kn => intro p hp; cases hp
  case k6 => k_is
  case k7 => k_is
  case k8 => k_room
  case k9 => exact BindsTo.of_eq rfl
  case c5 => decide
  case kB => exact locs rfl
  case c2 => exact rfl
  case c3 => exact rfl
  case c4 => exact rfl
  intro g L h₁ F N Wg hk hL
  have X := Wg.X
  obtain ⟨p9, l9, T⟩ := Wg.T
  clear X0
  replace F : Fr g L h₁ (mp [(Str.ofString "great", .bool gr), (Str.ofString "k", .int k u)]) := F
  w_on
  have hk3 : k = 0 ∨ k = 1 ∨ k = 2 := by omega
  rcases hk3 with rfl | rfl | rfl <;> cases gr <;> k_steps
  all_goals (rename Fr _ _ _ _ => F'; rename News _ _ _ _ => N'; exact hQ _ _ _ (kp_end F' N' hk (fun _ h => (nomatch h)) (fun _ h => (nomatch h))))
end
section
set_option maxHeartbeats 4000000
open PySem PySem.W PySem.Calls PyProof.Rows
theorem fillS3 : PySem.Challenge.rw_uc0030_01 = PySem.Challenge.rw_uc0030_01 ∧ Mine.hd.heap_1 = Mine.hd.heap_1 := by k_fill; exact ⟨rfl, rfl⟩
theorem strip_wp {w : World} {mean : ExcName → Option Value} {mg mb : Str → Option Value} {A : Around} {s : Shared} {Q : Value → Shared → Prop} {E : Value → Shared → Prop} {h₀ : Heap} {L : Addr} {m : Str → Option Value} {news : List (Addr × Obj)} {a b k : Nat} {x : Str} {n : Int} {t u : Tok}
   (hA : A.handled = none) (W : Wd w mean mg mb h₀) (F : Fr h₀ L s.heap m) (N : News h₀ L s.heap news) (hd : A.depth + 1 < recursionLimit) (hu : A.units + 8 < cLine) (hx : x = blk a b) (hn : n = (k : Int)) (ha : a + b < 1000)
   (hQ : ∀ h' tk' t', Fr h₀ L h' m → News h₀ L h' news → Q (.str (blk (a - min a k) (b - min b (k - min a k))) t') { s with heap := h', toks := tk' }) :
   wpAny (model prg w) A (call (.ref 45) [.str x t, .int n u]) Q E s := by
  subst hx hn
  rw [ar_of hA]
  exact call_of (strip_call W F.keep hd hu a b k t u ha fun h' tk' t' kp => hQ h' tk' t' (Fr.keeps F kp) (News.grown N kp))
theorem sub_min (a k : Nat) : a - min a k = a - k := by
  rcases Nat.le_total a k with h | h
  · rw [Nat.min_eq_left h, Nat.sub_self, Nat.sub_eq_zero_of_le h]
  · rw [Nat.min_eq_right h]
theorem strip0_wp {w : World} {mean : ExcName → Option Value} {mg mb : Str → Option Value} {A : Around} {s : Shared} {Q : Value → Shared → Prop} {E : Value → Shared → Prop} {h₀ : Heap} {L : Addr} {m : Str → Option Value} {news : List (Addr × Obj)} {a k : Nat} {x : Str} {n : Int} {t u : Tok}
   (hA : A.handled = none) (W : Wd w mean mg mb h₀) (F : Fr h₀ L s.heap m) (N : News h₀ L s.heap news) (hd : A.depth + 1 < recursionLimit) (hu : A.units + 8 < cLine) (hx : x = blk a 0) (hn : n = (k : Int)) (ha : a < 1000)
   (hQ : ∀ h' tk' t', Fr h₀ L h' m → News h₀ L h' news → Q (.str (blk (a - k) 0) t') { s with heap := h', toks := tk' }) :
   wpAny (model prg w) A (call (.ref 45) [.str x t, .int n u]) Q E s := by
  refine strip_wp hA W F N hd hu hx hn (by omega) fun h' tk' t' F' N' => ?_
  rw [sub_min, Nat.zero_sub]
  exact hQ h' tk' t' F' N'
theorem x_len : (Str.ofString "x").length = 1 := by rw [s_x]; rfl
local macro_rules | `(tactic| walk_at "binaryOp Mult str int") => `(tactic| (refine' r_mul ?hn ?hk ?_; (case hn => rfl); (case hk => omega); intro t' j'))
local macro_rules | `(tactic| walk_at "binaryOp Add str str") => `(tactic| (refine' r_add ?hz ?hs ?_; (case hz => first | exact spc_x _ | exact blk_spc _ _); (case hs => ((simp only [spc_len, blk_len, x_len]); omega)); intro t' j'))
local macro_rules | `(tactic| walk_at "call builtin:str.index") => `(tactic| (refine' r_index ?_))
local macro_rules | `(tactic| walk_at "call builtin:len") => `(tactic| (refine' r_len (spc_len _) ?hs ?_; (case hs => omega)))
local macro_rules | `(tactic| walk_at "call ref") => `(tactic| (with_unfolding_all refine' strip0_wp ?hA ?W ?F ?N ?hd ?hu ?hx ?hn ?ha ?_; (case hA => rfl); (case W => assumption); (case F => k_asm); (case N => k_asm); (case hd => k_room); (case hu => first | omega | ((try simp only [units_in1, units_deeper, Around.mark_units]); (try dsimp only); omega)); (case hx => rfl); (case hn => rfl); (case ha => omega); intro h' tk' t' F' N'; (try k_sweep)))
noncomputable def pk3 (a b c : Nat) (i : Nat) : Nat := if i = 0 then a else if i = 1 then b else c
noncomputable def lft (e : Nat) (cs : Nat → Nat) (some : Int) : Nat → Nat
  | 0 => e
  | i + 1 => if (some.fdiv (2 ^ i)).fmod 2 = 0 then lft e cs some i - cs i else lft e cs some i
theorem lft_pos {e : Nat} {cs : Nat → Nat} {some : Int} {i : Nat} (h : (some.fdiv (2 ^ i)).fmod 2 = 0) : lft e cs some (i + 1) = lft e cs some i - cs i := by
  conv => lhs; unfold lft
  rw [if_pos h]
theorem lft_neg {e : Nat} {cs : Nat → Nat} {some : Int} {i : Nat} (h : (some.fdiv (2 ^ i)).fmod 2 ≠ 0) : lft e cs some (i + 1) = lft e cs some i := by
  conv => lhs; unfold lft
  rw [if_neg h]
theorem lft_le (e : Nat) (cs : Nat → Nat) (some : Int) : ∀ i, lft e cs some i ≤ e
  | 0 => Nat.le_refl _
  | i + 1 => by
    unfold lft
    have := lft_le e cs some i
    split <;> omega
local macro_rules | `(tactic| walk_at $k:str) => if ["pyIter ref"].contains k.getString then `(tactic| refine stop_of ?_) else Lean.Macro.throwUnsupported
theorem left_call {w : World} {mean : ExcName → Option Value} {mg mb : Str → Option Value} {B : Heap} {dp un : Nat} {fr : Option (List Env)} {gd : Option (List Code)} {s : Shared} {Q : Value → Shared → Prop} (W : Wd w mean mg mb B) (kB : Kp B s.heap)
   (hd : dp + 4 < recursionLimit) (hu : un + 20 < cLine) (e : Nat) (sm : Int) (l : Addr) (c0 c1 c2 : Nat) (t0 t1 t2 u1 u2 : Tok) (n : Nat) (he : e < 500) (hc0 : c0 < 500) (hc1 : c1 < 500) (hc2 : c2 < 500)  (h0 : 0 ≤ sm) (h3 : sm < 8)
   (hl : s.heap.get? l = some (listOf #[.str (spc c0) t0, .str (spc c1) t1, .str (spc c2) t2] n)) (hlB : B.get? l = none)
   (hQ : ∀ h' tk' t', Kp s.heap h' → Q (.int (lft e (pk3 c0 c1 c2) sm 3 : Nat) t') { s with heap := h', toks := tk' }) :
  codeAny (model prg w) (Ar dp fr gd un) (.call (.ref 248) ⟨[.int e u1, .ref l, .int sm u2], []⟩) (fun r s' => match r with | .ok (.ret v) => Q v s' | _ => False) s := by
  have X0 := W.X
  refine' enterN [(Str.ofString "estate", .int e u1), (Str.ofString "texts", .ref l), (Str.ofString "some", .int sm u2)] W kB [(l, listOf #[.str (spc c0) t0, .str (spc c1) t1, .str (spc c2) t2] n)] ?kn ?k6 ?k7 ?k8 ?k9 ?kB ?_ ?c2 ?c3 ?c4 ?c5
  case kn => exact List.forall_mem_cons.mpr ⟨⟨hl, hlB⟩, fun _ h => nomatch h⟩
  case k6 => k_is
  case k7 => k_is
  case k8 => k_room
  case k9 => exact BindsTo.of_eq rfl
  case c5 => decide
  case kB => exact locs rfl
  case c2 => exact rfl
  case c3 => exact rfl
  case c4 => exact rfl
  intro g L h₁ F N Wg hk hL
  have X := Wg.X
  obtain ⟨p9, l9, T⟩ := Wg.T
  clear X0
  replace F : Fr g L h₁ (mp [(Str.ofString "some", .int sm u2), (Str.ofString "texts", .ref l), (Str.ofString "estate", .int e u1)]) := F
  w_on
  k_steps
  refine Stop.go ?_
  rename IsRange _ _ _ _ _ _ _ _ => hr
  rename Fr _ _ _ _ => F1
  rename News _ _ _ _ => N1
  with_unfolding_all refine' forRangeS (σ := Nat × Tok) 3 (fun c => mp [(Str.ofString "line", .str (blk c.1 0) c.2), (Str.ofString "some", .int sm u2), (Str.ofString "texts", .ref l), (Str.ofString "estate", .int e u1)]) (fun i c => c.1 = lft e (pk3 c0 c1 c2) sm i) (_, _) ?hA ?hL hr ?hs ?hn F1 N1 ?hm ?hP ?turn ?out
  case hA => rfl
  case hL => rfl
  case hs => decide
  case hn => decide
  case hm => intro y hy; rfl
  case hP => rfl
  case turn => 
    clear F1 N1 hr
    rintro I i ⟨e', tl⟩ h tk tx hI hi hP F N
    have hle := lft_le e (pk3 c0 c1 c2) sm i
    dsimp only at hP F N ⊢
    rw [← hP] at hle
    have hi3 : i = 0 ∨ i = 1 ∨ i = 2 := by omega
    rcases hi3 with rfl | rfl | rfl
    · k_steps
      · rename Fr _ _ _ _ => F'
        rename News _ _ _ _ => N'
        rename (_ = 0) => hb
        exact ⟨rfl, _, _, (e' - c0, _), some (.int _ _), rfl, frc F' (by ktn_open), N', by rw [hP]; exact (lft_pos (i := 0) hb).symm⟩
      · rename (_ ≠ 0) => hb
        exact ⟨rfl, _, _, (e', tl), some (.int _ _), rfl, F, N, by rw [hP]; exact (lft_neg (i := 0) hb).symm⟩
    · k_steps
      · rename Fr _ _ _ _ => F'
        rename News _ _ _ _ => N'
        rename (_ = 0) => hb
        exact ⟨rfl, _, _, (e' - c1, _), some (.int _ _), rfl, frc F' (by ktn_open), N', by rw [hP]; exact (lft_pos (i := 1) hb).symm⟩
      · rename (_ ≠ 0) => hb
        exact ⟨rfl, _, _, (e', tl), some (.int _ _), rfl, F, N, by rw [hP]; exact (lft_neg (i := 1) hb).symm⟩
    · k_steps
      · rename Fr _ _ _ _ => F'
        rename News _ _ _ _ => N'
        rename (_ = 0) => hb
        exact ⟨rfl, _, _, (e' - c2, _), some (.int _ _), rfl, frc F' (by ktn_open), N', by rw [hP]; exact (lft_pos (i := 2) hb).symm⟩
      · rename (_ ≠ 0) => hb
        exact ⟨rfl, _, _, (e', tl), some (.int _ _), rfl, F, N, by rw [hP]; exact (lft_neg (i := 2) hb).symm⟩
  case out => 
    rintro ⟨e', tl⟩ h tk tx hP F N
    dsimp only at hP F ⊢
    k_steps
    rw [hP]
    exact hQ _ _ _ (kp_end F N hk (List.forall_mem_cons.mpr ⟨hl, fun _ h => nomatch h⟩) (fun _ h => h))
end
local macro_rules | `(tactic| news_mem) => `(tactic| k_mem)
section
set_option maxHeartbeats 4000000
open PySem PySem.W PySem.Calls PyProof.Rows
theorem fillS4 : PySem.Challenge.rw_uc0030_01 = PySem.Challenge.rw_uc0030_01 ∧ Mine.hd.heap_1 = Mine.hd.heap_1 := by k_fill; exact ⟨rfl, rfl⟩
noncomputable def half1 (c lv : Int) : Int := if lv < c.fdiv 2 then lv else c.fdiv 2
noncomputable def shF (T e c lv : Int) : Int := if T < 2 * e then c - half1 c lv else half1 c lv
theorem shares_call {w : World} {mean : ExcName → Option Value} {mg mb : Str → Option Value} {B : Heap} {dp un : Nat} {fr : Option (List Env)} {gd : Option (List Code)} {s : Shared} {Q : Value → Shared → Prop} (W : Wd w mean mg mb B) (kB : Kp B s.heap)
   (hd : dp + 4 < recursionLimit) (hu : un + 20 < cLine) (l : Addr) (c0 c1 c2 e lv : Int) (t0 t1 t2 u1 u2 : Tok) (n : Nat) (hc0 : 0 ≤ c0 ∧ c0 < 1000) (hc1 : 0 ≤ c1 ∧ c1 < 1000) (hc2 : 0 ≤ c2 ∧ c2 < 1000) (he : 0 ≤ e ∧ e < 1000) (hv : 0 ≤ lv ∧ lv < 1000) 
   (hl : s.heap.get? l = some (listOf #[.int c0 t0, .int c1 t1, .int c2 t2] n)) (hlB : B.get? l = none)
   (hQ : ∀ h' tk' D v0 v1 v2 n', Kp s.heap h' → h'.get? D = some (listOf #[.int (shF (c0 + c1 + c2) e c0 lv) v0, .int (shF (c0 + c1 + c2) e c1 lv) v1, .int (shF (c0 + c1 + c2) e c2 lv) v2] n') → s.heap.get? D = none → Q (.ref D) { s with heap := h', toks := tk' }) :
  codeAny (model prg w) (Ar dp fr gd un) (.call (.ref 260) ⟨[.ref l, .int e u1, .int lv u2], []⟩) (fun r s' => match r with | .ok (.ret v) => Q v s' | _ => False) s := by
  have X0 := W.X
  refine' enterC [(Str.ofString "claims", .ref l), (Str.ofString "estate", .int e u1), (Str.ofString "level", .int lv u2)] W kB [(l, listOf #[.int c0 t0, .int c1 t1, .int c2 t2] n)] ?kn ?k6 ?k7 ?k8 ?k9 ?kB ?kD ?_ ?c2 ?c3 ?c4
  case kn => exact (fac (⟨hl, hlB⟩) (fun _ h => nomatch h))
  case k6 => k_is
  case k7 => k_is
  case k8 => k_room
  case k9 => exact BindsTo.of_eq rfl
  case kD => decide +kernel
  case kB => exact rfl
  case c2 => exact rfl
  case c3 => exact rfl
  case c4 => exact rfl
  intro g L h₁ tk cells F N Y Wg hk hL
  have X := Wg.X
  obtain ⟨p9, l9, T⟩ := Wg.T
  clear X0
  k_cells Y
  rename_i o1 o2 o3 d1 d2 d3
  replace F : Fr g L h₁ (mp [(Str.ofString "estate", .int e u1)]) := frc F (by funext y; rfl)
  replace d1 : o1.data = .cell none := d1
  replace d2 : o2.data = .cell (some (.int lv u2)) := d2
  replace d3 : o3.data = .cell (some (.ref l)) := d3
  have hlL := hL l _ hl
  replace N : News g L h₁ [(L + 1 + 1 + 1, o1), (L + 1 + 1, o2), (L + 1, o3), (l, listOf #[.int c0 t0, .int c1 t1, .int c2 t2] n)] := N
  w_on
  k_steps
  · rename Fr _ _ _ _ => F'
    rename News _ _ _ _ => N'
    rename LCg.Off1 _ _ => o1'
    rename (IntsAre _ _) => hI
    rename (_ < _) => hlt
    have hc : c0 + c1 + c2 < 2 * e := by omega
    obtain ⟨v0, v1, v2, rfl⟩ := ints3 hI
    simp only [LCg.Off1, List.cons_append, List.nil_append] at o1'
    have hm : ∀ c, shF (c0 + c1 + c2) e c lv = c - half1 c lv := fun c => if_pos hc
    refine hQ _ _ _ v0 v1 v2 3 (kp_end F' N' hk ((fac hl (fun _ h => nomatch h))) ((fac (by k_mem) (fun _ h => nomatch h)))) ?_ (fresh_of N' (by k_mem) hk ((fac o1'.2.2.2.2.1 (fun _ h => nomatch h))))
    rw [hm, hm, hm]
    exact (N' _ (List.Mem.head _)).1
  · dsimp only
    rename Fr _ _ _ _ => F'
    rename News _ _ _ _ => N'
    rename (_ ∧ _) => o1'
    rename (IntsAre _ _) => hI
    rename (¬ _) => hlt
    have hc : ¬ c0 + c1 + c2 < 2 * e := by omega
    obtain ⟨v0, v1, v2, rfl⟩ := ints3 hI
    have hm : ∀ c, shF (c0 + c1 + c2) e c lv = half1 c lv := fun c => if_neg hc
    refine hQ _ _ _ v0 v1 v2 3 (kp_end F' N' hk ((fac hl (fun _ h => nomatch h))) ((fac (by k_mem) (fun _ h => nomatch h)))) ?_ (fresh_of N' (by k_mem) hk ((fac o1'.2.2.2 (fun _ h => nomatch h))))
    rw [hm, hm, hm]
    exact (N' _ (List.Mem.head _)).1
end
local macro_rules | `(tactic| walk_at "callWith ref") => `(tactic| (k_dflt (refine' callWith_F ?k1 ?_; (case k1 => exact FnAt.of (by k_asm) (by k_mem)))))
section
set_option maxHeartbeats 4000000
open PySem PySem.W PySem.Calls PyProof.Rows
theorem fillS5 : PySem.Challenge.rw_uc0030_01 = PySem.Challenge.rw_uc0030_01 ∧ Mine.hd.heap_1 = Mine.hd.heap_1 := by k_fill; exact ⟨rfl, rfl⟩
theorem my_item {prog : Program} {w : World} {A : Around} {E : Value → Shared → Prop} {s : Shared} {value slice : PySem.Expr} {l : Addr} {vs : List Value} {k : Int} {u : Tok} {v : Value} {Q : Value → Shared → Prop}
    (hl : s.heap.IsList l vs.toArray) (h0 : 0 ≤ k) (hhi : k < 2 ^ 63) (hx : vs[k.toNat]? = some v) (h : Q v s)
    (hs : subscripted slice false (.ref l) (.int k u) = operate [.ref l, .int k u] (getItem (.ref l) (.int k u)) := by with_unfolding_all rfl) :
    wpAny (model prog w) A (subscriptTail value slice (.ref l) (.int k u)) Q E s :=
  tail_any hl.typeIs slot_list_getitem.lookup (wpAny_getItem_list hl h0 hhi (by simpa using hx) h) hs
theorem r_lenl {prog : Program} {w : World} {A : Around} {E : Value → Shared → Prop} {s : Shared} {Q : Value → Shared → Prop} {l : Addr} {vs : List Value} (hl : s.heap.IsList l vs.toArray) (hs : vs.length < 100000) (h : Q (.int (vs.length : Int) (s.toks + 1)) { s with toks := s.toks + 1 + 1 }) :
    wpAny (model prog w) A (call (.builtin "len") [.ref l]) Q E s := by
  have e : vs.toArray.size = vs.length := by rw [List.size_toArray]
  refine len_list hl (by rw [e]; omega) ?_
  rw [e]; exact h
/-- the def that stands at an address -/
noncomputable def fdAt (K : Frag) (a : Addr) : FuncData := match K.lookup a with | some ⟨_, _, .func fd, _⟩ => fd | _ => default
/-- what a key function says of the items of a list, as long as the heap k stands -/
noncomputable def KeyOk (w : World) (k : Heap) (f : Addr) (vs : List Value) (κ : Nat → Int) (d u : Nat) : Prop :=
  ∀ (i : Nat) (v : Value), vs[i]? = some v → ∀ (A : Around) (s : Shared) (Q E : Value → Shared → Prop), A.handled = none → A.depth + d < recursionLimit → A.units + u < cLine → Kp k s.heap →
    (∀ h' tk' t', Kp s.heap h' → Q (.int (κ i) t') { s with heap := h', toks := tk' }) → wpAny (model prg w) A (call (.ref f) [v]) Q E s
local macro_rules | `(tactic| walk_at "subscriptTail") => `(tactic| (with_reducible show wpAny _ _ (subscriptTail _ _ (Value.ref _) (Value.int _ _)) _ _ _; refine stop_of ?_))
local macro_rules | `(tactic| walk_at $k:str) => if ["call ref"].contains k.getString then `(tactic| refine stop_of ?_) else Lean.Macro.throwUnsupported
local macro_rules | `(tactic| walk_at "call builtin:len") => `(tactic| (refine' r_lenl ?hl ?hs ?_; (case hl => is_list); (case hs => omega)))
local macro_rules | `(tactic| walk_at $k:str) => if ["exec While Compare cons nil"].contains k.getString then `(tactic| refine stop_of ?_) else Lean.Macro.throwUnsupported
theorem bisl_call {w : World} {mean : ExcName → Option Value} {mg mb : Str → Option Value} {B : Heap} {dp un : Nat} {fr : Option (List Env)} {gd : Option (List Code)} {s : Shared} {Q : Value → Shared → Prop} (W : Wd w mean mg mb B) (kB : Kp B s.heap)
   (a f : Addr) (vs : List Value) (n : Nat) (x : Int) (u : Tok) (κ : Nat → Int) (d u' : Nat) (hd : dp + d + 2 < recursionLimit) (hu : un + u' + 20 < cLine) (hlen : vs.length < 1000) (hκ : ∀ i, -1000 < κ i ∧ κ i < 1000)
   (hl : s.heap.get? a = some (listOf vs.toArray n)) (hlB : B.get? a = none) (oc : Value) (od : Option Addr) (fd : FuncData) (sl : Array (Option Value)) (hf : s.heap.get? f = some ⟨oc, od, .func fd, sl⟩) (hfB : B.get? f = none) (hkey : KeyOk w s.heap f vs κ d u') (hmono : ∀ i j, i ≤ j → j < vs.length → κ i ≤ κ j)
   (hQ : ∀ h' tk' t' r, Kp s.heap h' → r ≤ vs.length → (∀ i, i < r → κ i < x) → (∀ i, r ≤ i → i < vs.length → x ≤ κ i) → Q (.int (r : Nat) t') { s with heap := h', toks := tk' }) :
  codeAny (model prg w) (Ar dp fr gd un) (.call (.ref 72) ⟨[.ref a, .int x u], [(Str.ofString "key", .ref f)]⟩) (fun r s' => match r with | .ok (.ret v) => Q v s' | _ => False) s := by
  have X0 := W.X
  have XS : (Mine.hd.heap_1 w.params).In s.heap := X0.keeps kB
  refine' enterN [(Str.ofString "a", .ref a), (Str.ofString "x", .int x u), (Str.ofString "lo", .int 0 330), (Str.ofString "hi", .none), (Str.ofString "key", .ref f)] W kB [(a, listOf vs.toArray n), (f, (⟨oc, od, .func fd, sl⟩ : Obj))] ?kn ?k6 ?k7 ?k8 ?k9 ?kB ?_ ?c2 ?c3 ?c4 ?c5
  case kn => exact List.forall_mem_cons.mpr ⟨⟨hl, hlB⟩, List.forall_mem_cons.mpr ⟨⟨hf, hfB⟩, fun _ h => nomatch h⟩⟩
  case k6 => k_is
  case k7 => k_is
  case k8 => k_room
  case k9 => exact kp_binds XS fun S => by kernel_rfl
  case c5 => decide
  case kB => exact locs rfl
  case c2 => exact rfl
  case c3 => exact rfl
  case c4 => exact rfl
  intro g L h₁ F N Wg hk hL
  have X := Wg.X
  obtain ⟨p9, l9, T⟩ := Wg.T
  clear X0 XS
  replace F : Fr g L h₁ (mp [(Str.ofString "key", .ref f), (Str.ofString "hi", .none), (Str.ofString "lo", .int 0 330), (Str.ofString "x", .int x u), (Str.ofString "a", .ref a)]) := F
  w_on
  k_steps
  refine Stop.go ?_
  rename Fr _ _ _ _ => F1
  rename News _ _ _ _ => N1
  obtain ⟨t0, F1⟩ : ∃ t0, Fr g L _ (mp [(Str.ofString "hi", .int (vs.length : Int) t0), (Str.ofString "key", .ref f), (Str.ofString "hi", .none), (Str.ofString "lo", .int 0 330), (Str.ofString "x", .int x u), (Str.ofString "a", .ref a)]) := ⟨_, F1⟩
  refine' whileX (σ := Nat × Nat × Tok × Tok × Option Value) (mm := fun c => (fun y => if y = Str.ofString "mid" then c.2.2.2.2 else mp [(Str.ofString "hi", .int (c.2.1 : Int) c.2.2.1), (Str.ofString "lo", .int (c.1 : Int) c.2.2.2.1), (Str.ofString "key", .ref f), (Str.ofString "x", .int x u), (Str.ofString "a", .ref a)] y))
    (P := fun c => c.1 ≤ c.2.1 ∧ c.2.1 ≤ vs.length ∧ (∀ i, i < c.1 → κ i < x) ∧ (∀ i, c.2.1 ≤ i → i < vs.length → x ≤ κ i))
    (X := fun c => c.1 ≤ vs.length ∧ (∀ i, i < c.1 → κ i < x) ∧ (∀ i, c.1 ≤ i → i < vs.length → x ≤ κ i)) (μ := fun c => c.2.1 - c.1) (0, vs.length, t0, 330, none) ?wF ?wN ?_ ?_ ?_ ?wE
  case wE => passes_own
  case wN => exact N1
  case wF => exact frc F1 (by ktn_open)
  · exact ⟨Nat.zero_le _, Nat.le_refl _, fun i h => absurd h (Nat.not_lt_zero _), fun i h h2 => absurd h2 (Nat.not_lt.mpr h)⟩
  · clear F1 N1
    rintro ⟨lo, hi, th, tl, md⟩ h tk ⟨h1, h2, h3, h4⟩ F N
    dsimp only at F h1 h2 h3 h4 ⊢
    obtain ⟨m, hm⟩ : ∃ m, m = (lo + hi) / 2 := ⟨_, rfl⟩
    have hmI : ((lo : Int) + (hi : Int)).fdiv 2 = (m : Int) := by rw [Int.fdiv_eq_ediv_of_nonneg _ (by omega)]; omega
    k_steps
    · refine Stop.go ?_
      rw [hmI]
      have hlt : lo < hi := by omega
      have hml : m < vs.length := by omega
      have hv : vs[m]? = some vs[m] := List.getElem?_eq_getElem hml
      refine my_item (v := vs[m]) (by is_list) (by omega) (by omega) (by rw [Int.toNat_natCast]; exact hv) ?_
      k_steps
      refine Stop.go ?_
      rename Fr _ _ _ _ => F1
      rename News _ _ _ _ => N1
      have hKs : Kp s.heap _ := kp_end F1 N1 hk (List.forall_mem_cons.mpr ⟨hl, List.forall_mem_cons.mpr ⟨hf, fun _ h => nomatch h⟩⟩) (fun _ h => h)
      refine hkey m _ hv _ _ _ _ rfl (by k_room) (by (try simp only [units_in1, units_deeper, Around.mark_units]); (try dsimp only); omega) hKs fun h' tk' t' kp => ?_
      replace F1 := Fr.keeps F1 kp
      replace N1 := News.grown N1 kp
      k_steps
      · rename Fr _ _ _ _ => F'
        rename News _ _ _ _ => N'
        rename (_ < x) => hc
        rw [hmI, show ((m : Int) + 1) = ((m + 1 : Nat) : Int) from rfl] at F'
        refine ⟨rfl, _, _, (m + 1, hi, th, _, some (.int (m : Int) _)), rfl, frc F' (by ktn_open), N', ⟨by dsimp only; omega, h2, fun i hi' => ?_, h4⟩, by dsimp only; omega⟩
        have := hmono i m (by dsimp only at hi'; omega) hml
        show κ i < x
        omega
      · rename Fr _ _ _ _ => F'
        rename News _ _ _ _ => N'
        rename (¬ _) => hc
        rw [hmI] at F'
        refine ⟨rfl, _, _, (lo, m, _, tl, some (.int (m : Int) _)), rfl, frc F' (by ktn_open), N', ⟨by dsimp only; omega, by dsimp only; omega, h3, fun i hi' hi2 => ?_⟩, by dsimp only; omega⟩
        have := hmono m i hi' hi2
        show x ≤ κ i
        omega
    · exact ⟨_, _, (lo, hi, th, tl, md), rfl, F, N, by dsimp only; omega, h3, fun i hi' hi2 => h4 i (by dsimp only at hi'; omega) hi2⟩
  · clear F1 N1
    rintro ⟨lo, hi, th, tl, md⟩ h tk ⟨h1, h3, h4⟩ F N
    dsimp only at F h1 h3 h4 ⊢
    k_steps
    show Q _ _
    exact hQ _ _ _ lo (kp_end F N hk (List.forall_mem_cons.mpr ⟨hl, List.forall_mem_cons.mpr ⟨hf, fun _ h => nomatch h⟩⟩) (fun _ h => h)) h1 h3 h4
theorem bisr_call {w : World} {mean : ExcName → Option Value} {mg mb : Str → Option Value} {B : Heap} {dp un : Nat} {fr : Option (List Env)} {gd : Option (List Code)} {s : Shared} {Q : Value → Shared → Prop} (W : Wd w mean mg mb B) (kB : Kp B s.heap)
   (args : Args) (tlo : Tok) (a f : Addr) (vs : List Value) (n : Nat) (x : Int) (u : Tok) (κ : Nat → Int) (d u' : Nat) (hd : dp + d + 2 < recursionLimit) (hu : un + u' + 20 < cLine) (hlen : vs.length < 1000) (hκ : ∀ i, -1000 < κ i ∧ κ i < 1000)
   (hl : s.heap.get? a = some (listOf vs.toArray n)) (hlB : B.get? a = none) (oc : Value) (od : Option Addr) (fd : FuncData) (sl : Array (Option Value)) (hf : s.heap.get? f = some ⟨oc, od, .func fd, sl⟩) (hfB : B.get? f = none) (hkey : KeyOk w s.heap f vs κ d u') (hmono : ∀ i j, i ≤ j → j < vs.length → κ i ≤ κ j)
   (hb : ∀ S, peek (Mine.hd.heap_1 w.params) S (bindArgs (fdAt (Mine.hd.heap_1 w.params) 63) args) = some [(Str.ofString "a", .ref a), (Str.ofString "x", .int x u), (Str.ofString "lo", .int 0 tlo), (Str.ofString "hi", .none), (Str.ofString "key", .ref f)])
   (hQ : ∀ h' tk' t' r, Kp s.heap h' → r ≤ vs.length → (∀ i, i < r → κ i ≤ x) → (∀ i, r ≤ i → i < vs.length → x < κ i) → Q (.int (r : Nat) t') { s with heap := h', toks := tk' }) :
  codeAny (model prg w) (Ar dp fr gd un) (.call (.ref 63) args) (fun r s' => match r with | .ok (.ret v) => Q v s' | _ => False) s := by
  have X0 := W.X
  have XS : (Mine.hd.heap_1 w.params).In s.heap := X0.keeps kB
  refine' enterN [(Str.ofString "a", .ref a), (Str.ofString "x", .int x u), (Str.ofString "lo", .int 0 tlo), (Str.ofString "hi", .none), (Str.ofString "key", .ref f)] W kB [(a, listOf vs.toArray n), (f, (⟨oc, od, .func fd, sl⟩ : Obj))] ?kn ?k6 ?k7 ?k8 ?k9 ?kB ?_ ?c2 ?c3 ?c4 ?c5
  case kn => exact List.forall_mem_cons.mpr ⟨⟨hl, hlB⟩, List.forall_mem_cons.mpr ⟨⟨hf, hfB⟩, fun _ h => nomatch h⟩⟩
  case k6 => k_is
  case k7 => k_is
  case k8 => k_room
  case k9 => exact kp_binds XS hb
  case c5 => decide
  case kB => exact locs rfl
  case c2 => exact rfl
  case c3 => exact rfl
  case c4 => exact rfl
  intro g L h₁ F N Wg hk hL
  have X := Wg.X
  obtain ⟨p9, l9, T⟩ := Wg.T
  clear X0 XS
  replace F : Fr g L h₁ (mp [(Str.ofString "key", .ref f), (Str.ofString "hi", .none), (Str.ofString "lo", .int 0 tlo), (Str.ofString "x", .int x u), (Str.ofString "a", .ref a)]) := F
  w_on
  k_steps
  refine Stop.go ?_
  rename Fr _ _ _ _ => F1
  rename News _ _ _ _ => N1
  obtain ⟨t0, F1⟩ : ∃ t0, Fr g L _ (mp [(Str.ofString "hi", .int (vs.length : Int) t0), (Str.ofString "key", .ref f), (Str.ofString "hi", .none), (Str.ofString "lo", .int 0 tlo), (Str.ofString "x", .int x u), (Str.ofString "a", .ref a)]) := ⟨_, F1⟩
  refine' whileX (σ := Nat × Nat × Tok × Tok × Option Value) (mm := fun c => (fun y => if y = Str.ofString "mid" then c.2.2.2.2 else mp [(Str.ofString "hi", .int (c.2.1 : Int) c.2.2.1), (Str.ofString "lo", .int (c.1 : Int) c.2.2.2.1), (Str.ofString "key", .ref f), (Str.ofString "x", .int x u), (Str.ofString "a", .ref a)] y))
    (P := fun c => c.1 ≤ c.2.1 ∧ c.2.1 ≤ vs.length ∧ (∀ i, i < c.1 → κ i ≤ x) ∧ (∀ i, c.2.1 ≤ i → i < vs.length → x < κ i))
    (X := fun c => c.1 ≤ vs.length ∧ (∀ i, i < c.1 → κ i ≤ x) ∧ (∀ i, c.1 ≤ i → i < vs.length → x < κ i)) (μ := fun c => c.2.1 - c.1) (0, vs.length, t0, tlo, none) ?wF ?wN ?_ ?_ ?_ ?wE
  case wE => passes_own
  case wN => exact N1
  case wF => exact frc F1 (by ktn_open)
  · exact ⟨Nat.zero_le _, Nat.le_refl _, fun i h => absurd h (Nat.not_lt_zero _), fun i h h2 => absurd h2 (Nat.not_lt.mpr h)⟩
  · clear F1 N1
    rintro ⟨lo, hi, th, tl, md⟩ h tk ⟨h1, h2, h3, h4⟩ F N
    dsimp only at F h1 h2 h3 h4 ⊢
    obtain ⟨m, hm⟩ : ∃ m, m = (lo + hi) / 2 := ⟨_, rfl⟩
    have hmI : ((lo : Int) + (hi : Int)).fdiv 2 = (m : Int) := by rw [Int.fdiv_eq_ediv_of_nonneg _ (by omega)]; omega
    k_steps
    · refine Stop.go ?_
      rw [hmI]
      have hlt : lo < hi := by omega
      have hml : m < vs.length := by omega
      have hv : vs[m]? = some vs[m] := List.getElem?_eq_getElem hml
      refine my_item (v := vs[m]) (by is_list) (by omega) (by omega) (by rw [Int.toNat_natCast]; exact hv) ?_
      k_steps
      refine Stop.go ?_
      rename Fr _ _ _ _ => F1
      rename News _ _ _ _ => N1
      have hKs : Kp s.heap _ := kp_end F1 N1 hk (List.forall_mem_cons.mpr ⟨hl, List.forall_mem_cons.mpr ⟨hf, fun _ h => nomatch h⟩⟩) (fun _ h => h)
      refine hkey m _ hv _ _ _ _ rfl (by k_room) (by (try simp only [units_in1, units_deeper, Around.mark_units]); (try dsimp only); omega) hKs fun h' tk' t' kp => ?_
      replace F1 := Fr.keeps F1 kp
      replace N1 := News.grown N1 kp
      k_steps
      · rename Fr _ _ _ _ => F'
        rename News _ _ _ _ => N'
        rename (x < _) => hc
        rw [hmI] at F'
        refine ⟨rfl, _, _, (lo, m, _, tl, some (.int (m : Int) _)), rfl, frc F' (by ktn_open), N', ⟨by dsimp only; omega, by dsimp only; omega, h3, fun i hi' hi2 => ?_⟩, by dsimp only; omega⟩
        have := hmono m i hi' hi2
        show x < κ i
        omega
      · rename Fr _ _ _ _ => F'
        rename News _ _ _ _ => N'
        rename (¬ _) => hc
        rw [hmI, show ((m : Int) + 1) = ((m + 1 : Nat) : Int) from rfl] at F'
        refine ⟨rfl, _, _, (m + 1, hi, th, _, some (.int (m : Int) _)), rfl, frc F' (by ktn_open), N', ⟨by dsimp only; omega, h2, fun i hi' => ?_, h4⟩, by dsimp only; omega⟩
        have := hmono i m (by dsimp only at hi'; omega) hml
        show κ i ≤ x
        omega
    · exact ⟨_, _, (lo, hi, th, tl, md), rfl, F, N, by dsimp only; omega, h3, fun i hi' hi2 => h4 i (by dsimp only at hi'; omega) hi2⟩
  · clear F1 N1
    rintro ⟨lo, hi, th, tl, md⟩ h tk ⟨h1, h3, h4⟩ F N
    dsimp only at F h1 h3 h4 ⊢
    k_steps
    show Q _ _
    exact hQ _ _ _ lo (kp_end F N hk (List.forall_mem_cons.mpr ⟨hl, List.forall_mem_cons.mpr ⟨hf, fun _ h => nomatch h⟩⟩) (fun _ h => h)) h1 h3 h4
theorem KeyOk.mono {w : World} {k k' : Heap} {f : Addr} {vs : List Value} {κ : Nat → Int} {d u : Nat} (h : KeyOk w k f vs κ d u) (kk : Kp k k') : KeyOk w k' f vs κ d u :=
  fun i v hv A s Q E hA hd hu hk hQ => h i v hv A s Q E hA hd hu (kk.trans hk) hQ
theorem bisr_wp {w : World} {mean : ExcName → Option Value} {mg mb : Str → Option Value} {A : Around} {s : Shared} {Q : Value → Shared → Prop} {E : Value → Shared → Prop} {h₀ : Heap} {L : Addr} {m : Str → Option Value} {news : List (Addr × Obj)} (pos : List Value) (kw : List (Str × Value)) (tlo : Tok)
   (a f : Addr) (vs : List Value) (n : Nat) (x : Int) (u : Tok) (κ : Nat → Int) (d u' : Nat) (oc : Value) (od : Option Addr) (fd : FuncData) (sl : Array (Option Value))
   (hA : A.handled = none) (W : Wd w mean mg mb h₀) (F : Fr h₀ L s.heap m) (N : News h₀ L s.heap news) (hd : A.depth + d + 2 < recursionLimit) (hu : A.units + u' + 20 < cLine) (hlen : vs.length < 1000) (hκ : ∀ i, -1000 < κ i ∧ κ i < 1000)
   (hl : (a, listOf vs.toArray n) ∈ news) (hf : (f, (⟨oc, od, .func fd, sl⟩ : Obj)) ∈ news) (hkey : KeyOk w s.heap f vs κ d u') (hmono : ∀ i j, i ≤ j → j < vs.length → κ i ≤ κ j)
   (hb : ∀ S, peek (Mine.hd.heap_1 w.params) S (bindArgs (fdAt (Mine.hd.heap_1 w.params) 63) ⟨pos, kw⟩) = some [(Str.ofString "a", .ref a), (Str.ofString "x", .int x u), (Str.ofString "lo", .int 0 tlo), (Str.ofString "hi", .none), (Str.ofString "key", .ref f)])
   (hQ : ∀ h' tk' t' r, Fr h₀ L h' m → News h₀ L h' news → r ≤ vs.length → (∀ i, i < r → κ i ≤ x) → (∀ i, r ≤ i → i < vs.length → x < κ i) → Q (.int (r : Nat) t') { s with heap := h', toks := tk' }) :
   wpAny (model prg w) A (call (.ref 63) pos kw) Q E s := by
  rw [ar_of hA]
  exact call_of (bisr_call W F.keep ⟨pos, kw⟩ tlo a f vs n x u κ d u' hd hu hlen hκ (N _ hl).1 (N _ hl).2.2 oc od fd sl (N _ hf).1 (N _ hf).2.2 hkey hmono hb fun h' tk' t' r kp h1 h2 h3 => hQ h' tk' t' r (Fr.keeps F kp) (News.grown N kp) h1 h2 h3)
theorem bisl_wp {w : World} {mean : ExcName → Option Value} {mg mb : Str → Option Value} {A : Around} {s : Shared} {Q : Value → Shared → Prop} {E : Value → Shared → Prop} {h₀ : Heap} {L : Addr} {m : Str → Option Value} {news : List (Addr × Obj)}
   (a f : Addr) (vs : List Value) (n : Nat) (x : Int) (u : Tok) (κ : Nat → Int) (d u' : Nat) (oc : Value) (od : Option Addr) (fd : FuncData) (sl : Array (Option Value))
   (hA : A.handled = none) (W : Wd w mean mg mb h₀) (F : Fr h₀ L s.heap m) (N : News h₀ L s.heap news) (hd : A.depth + d + 2 < recursionLimit) (hu : A.units + u' + 20 < cLine) (hlen : vs.length < 1000) (hκ : ∀ i, -1000 < κ i ∧ κ i < 1000)
   (hl : (a, listOf vs.toArray n) ∈ news) (hf : (f, (⟨oc, od, .func fd, sl⟩ : Obj)) ∈ news) (hkey : KeyOk w s.heap f vs κ d u') (hmono : ∀ i j, i ≤ j → j < vs.length → κ i ≤ κ j)
   (hQ : ∀ h' tk' t' r, Fr h₀ L h' m → News h₀ L h' news → r ≤ vs.length → (∀ i, i < r → κ i < x) → (∀ i, r ≤ i → i < vs.length → x ≤ κ i) → Q (.int (r : Nat) t') { s with heap := h', toks := tk' }) :
   wpAny (model prg w) A (call (.ref 72) [.ref a, .int x u] [(Str.ofString "key", .ref f)]) Q E s := by
  rw [ar_of hA]
  exact call_of (bisl_call W F.keep a f vs n x u κ d u' hd hu hlen hκ (N _ hl).1 (N _ hl).2.2 oc od fd sl (N _ hf).1 (N _ hf).2.2 hkey hmono fun h' tk' t' r kp h1 h2 h3 => hQ h' tk' t' r (Fr.keeps F kp) (News.grown N kp) h1 h2 h3)
end
section
set_option maxHeartbeats 4000000
open PySem PySem.W PySem.Calls PyProof.Rows
theorem fillS6 : PySem.Challenge.rw_uc0030_01 = PySem.Challenge.rw_uc0030_01 ∧ Mine.hd.heap_1 = Mine.hd.heap_1 := by k_fill; exact ⟨rfl, rfl⟩
local macro_rules | `(tactic| walk_at $k:str) => if ["call ref"].contains k.getString then `(tactic| refine stop_of ?_) else Lean.Macro.throwUnsupported
theorem hb63 (w : World) (a f : Addr) (x : Int) (u tlo : Tok) : ∀ S, peek (Mine.hd.heap_1 w.params) S (bindArgs (fdAt (Mine.hd.heap_1 w.params) 63) ⟨[.ref a, .int x u, .int 0 tlo, .none], [(Str.ofString "key", .ref f)]⟩) = some [(Str.ofString "a", .ref a), (Str.ofString "x", .int x u), (Str.ofString "lo", .int 0 tlo), (Str.ofString "hi", .none), (Str.ofString "key", .ref f)] := by
  intro S; kernel_rfl
theorem hb63' (w : World) (a f : Addr) (x : Int) (u : Tok) : ∀ S, peek (Mine.hd.heap_1 w.params) S (bindArgs (fdAt (Mine.hd.heap_1 w.params) 63) ⟨[.ref a, .int x u], [(Str.ofString "key", .ref f)]⟩) = some [(Str.ofString "a", .ref a), (Str.ofString "x", .int x u), (Str.ofString "lo", .int 0 316), (Str.ofString "hi", .none), (Str.ofString "key", .ref f)] := by
  intro S; kernel_rfl
theorem insort_call {w : World} {mean : ExcName → Option Value} {mg mb : Str → Option Value} {B : Heap} {dp un : Nat} {fr : Option (List Env)} {gd : Option (List Code)} {s : Shared} {Q : Value → Shared → Prop} (W : Wd w mean mg mb B) (kB : Kp B s.heap)
   (a f p : Addr) (vs : List Value) (n : Nat) (κ : Nat → Int) (κx : Int) (d u' : Nat) (hd : dp + d + 5 < recursionLimit) (hu : un + u' + 40 < cLine) (hlen : vs.length < 900) (hκ : ∀ i, -1000 < κ i ∧ κ i < 1000) (hκx : -1000 < κx ∧ κx < 1000)
   (hl : s.heap.get? a = some (listOf vs.toArray n)) (hlB : B.get? a = none) (oc : Value) (od : Option Addr) (fd : FuncData) (sl : Array (Option Value)) (hf : s.heap.get? f = some ⟨oc, od, .func fd, sl⟩) (hfB : B.get? f = none)
   (hkey : KeyOk w s.heap f vs κ d u') (hkeyx : KeyOk w s.heap f [.ref p] (fun _ => κx) d u') (hmono : ∀ i j, i ≤ j → j < vs.length → κ i ≤ κ j)
   (hQ : ∀ h' tk' r n', (∀ b o, b ≠ a → s.heap.get? b = some o → h'.get? b = some o) → h'.get? a = some (listOf (vs.take r ++ .ref p :: vs.drop r).toArray n') → r ≤ vs.length → (∀ i, i < r → κ i ≤ κx) → (∀ i, r ≤ i → i < vs.length → κx < κ i) → Q .none { s with heap := h', toks := tk' }) :
  codeAny (model prg w) (Ar dp fr gd un) (.call (.ref 54) ⟨[.ref a, .ref p], [(Str.ofString "key", .ref f)]⟩) (fun r s' => match r with | .ok (.ret v) => Q v s' | _ => False) s := by
  have X0 := W.X
  have XS : (Mine.hd.heap_1 w.params).In s.heap := X0.keeps kB
  refine' enterN [(Str.ofString "a", .ref a), (Str.ofString "x", .ref p), (Str.ofString "lo", .int 0 303), (Str.ofString "hi", .none), (Str.ofString "key", .ref f)] W kB [(a, listOf vs.toArray n), (f, (⟨oc, od, .func fd, sl⟩ : Obj))] ?kn ?k6 ?k7 ?k8 ?k9 ?kB ?_ ?c2 ?c3 ?c4 ?c5
  case kn => exact List.forall_mem_cons.mpr ⟨⟨hl, hlB⟩, List.forall_mem_cons.mpr ⟨⟨hf, hfB⟩, fun _ h => nomatch h⟩⟩
  case k6 => k_is
  case k7 => k_is
  case k8 => k_room
  case k9 => exact kp_binds XS fun S => by kernel_rfl
  case c5 => decide
  case kB => exact locs rfl
  case c2 => exact rfl
  case c3 => exact rfl
  case c4 => exact rfl
  intro g L h₁ F N Wg hk hL
  have X := Wg.X
  obtain ⟨p9, l9, T⟩ := Wg.T
  clear X0 XS
  replace F : Fr g L h₁ (mp [(Str.ofString "key", .ref f), (Str.ofString "hi", .none), (Str.ofString "lo", .int 0 303), (Str.ofString "x", .ref p), (Str.ofString "a", .ref a)]) := F
  w_on
  k_steps
  refine Stop.go ?_
  have hKs : Kp s.heap _ := kp_end F N hk (List.forall_mem_cons.mpr ⟨hl, List.forall_mem_cons.mpr ⟨hf, fun _ h => nomatch h⟩⟩) (fun _ h => h)
  refine hkeyx 0 _ rfl _ _ _ _ rfl (by k_room) (by (try simp only [units_in1, units_deeper, Around.mark_units]); (try dsimp only); omega) hKs fun h' tk' t' kp => ?_
  replace F := Fr.keeps F kp
  replace N := News.grown N kp
  k_steps
  refine Stop.go ?_
  show wpAny _ _ (call (.ref 63) [.ref a, .int κx t', .int 0 303, .none] [(Str.ofString "key", .ref f)]) _ _ _
  refine bisr_wp _ _ 303 a f vs n κx t' κ d u' oc od fd sl rfl Wg F N (by k_room) (by (try simp only [units_in1, units_deeper, Around.mark_units]); (try dsimp only); omega) (by omega) hκ (by k_mem) (by k_mem) (hkey.mono (hKs.trans kp)) hmono (hb63 w _ _ _ _ _) fun h' tk' t' r F1 N1 h1 h2 h3 => ?_
  clear F N
  have haf : f ≠ a := fun q => by rw [q, hl] at hf; cases hf
  k_steps
  rename Fr _ _ _ _ => F2
  rename News _ _ _ _ => N2
  refine kl_insert F2 N2 (its := vs.toArray) (by unfold PySem.Builtin.List.listFitsIndex; simp; omega) (l := vs.take r ++ .ref p :: vs.drop r) ?_ (.head (List.forall_mem_cons.mpr ⟨haf, fun _ h => nomatch h⟩)) (size_small (by simpa using (by omega : vs.length < 100000))) fun h9 F9 N9 => ?_
  · unfold kl_ins
    rw [if_neg (by omega)]
    have : min (Int.toNat (r : Int)) vs.length = r := by rw [Int.toNat_natCast]; omega
    simp only [List.toList_toArray]
    rw [this]
  clear F2 N2
  k_steps
  exact hQ _ _ r (n + 1) (fun b o hb e => by
    by_cases hbf : b = f
    · subst hbf
      rw [hf] at e; cases e
      exact (N9 _ (.tail _ (.head _))).1
    · refine F9.keep b o (hk b o e ?_)
      simp only [List.map_cons, List.map_nil, List.mem_cons, List.not_mem_nil, or_false, not_or]
      exact ⟨hb, hbf⟩) (N9 _ (List.Mem.head _)).1 h1 h2 h3
end
section
set_option maxHeartbeats 4000000
open PySem PySem.W PySem.Calls PyProof.Rows
theorem fillS8 : PySem.Challenge.rw_uc0030_01 = PySem.Challenge.rw_uc0030_01 ∧ Mine.hd.heap_1 = Mine.hd.heap_1 := by k_fill; exact ⟨rfl, rfl⟩
local macro_rules | `(tactic| walk_at "subscriptTail") => `(tactic| (with_reducible show wpAny _ _ (subscriptTail _ _ (Value.ref _) (Value.int _ _)) _ _ _; k_dflt (refine my_item (by is_list) (by omega) (by omega) (by rw [Int.toNat_natCast]; assumption) ?_)))
local macro_rules | `(tactic| walk_at "binaryOp Add str str") => `(tactic| (refine' r_add ?hz ?hs ?_; (case hz => first | exact spc_x _ | exact blk_spc _ _ | exact spc_spc _ _); (case hs => ((simp only [spc_len, blk_len, x_len]); first | with_reducible exact it_sz (by with_reducible assumption) (by with_reducible assumption) | omega)); intro t' j'))
local macro_rules | `(tactic| walk_at "call builtin:str.index") => `(tactic| (refine' r_index ?_))
local macro_rules | `(tactic| walk_at "call builtin:len") => `(tactic| (refine' r_len (by first | exact spc_len _ | exact blk_len _ _) ?hs ?_; (case hs => omega)))
local macro_rules | `(tactic| walk_at "call ref") => `(tactic| (with_unfolding_all refine' strip_wp ?hA ?W ?F ?N ?hd ?hu ?hx ?hn ?ha ?_; (case hA => rfl); (case W => assumption); (case F => k_asm); (case N => k_asm); (case hd => k_room); (case hu => first | omega | ((try simp only [units_in1, units_deeper, Around.mark_units]); (try dsimp only); omega)); (case hx => rfl); (case hn => rfl); (case ha => omega); intro h' tk' t' F' N'; (try k_sweep)))
theorem spc_spc (a b : Nat) : spc a ++ spc b = spc (a + b) := by
  apply Str.ext'
  rw [Str.cps_append]
  unfold spc
  simp
theorem it_sz {a b m n : Nat} (ha : a < 200) (hb : b < 200) : a - m + 1 + (b - n) < 100000 := Nat.lt_of_le_of_lt (Nat.add_le_add (Nat.add_le_add_right (Nat.le_trans (Nat.sub_le a m) (Nat.le_of_lt ha)) 1) (Nat.le_trans (Nat.sub_le b n) (Nat.le_of_lt hb))) (by decide)
theorem it_a {a m : Nat} (h : m ≤ a) : (a : Int) - ((a - m : Nat) : Int) = (m : Nat) := by omega
theorem it_b {b p q : Nat} (h : q ≤ b) : (b : Int) - ((p + 1 + (b - q) : Nat) : Int) + ((p : Nat) : Int) + 1 = (q : Nat) := by omega
theorem inturn_call {w : World} {mean : ExcName → Option Value} {mg mb : Str → Option Value} {B : Heap} {dp un : Nat} {fr : Option (List Env)} {gd : Option (List Code)} {s : Shared} {Q : Value → Shared → Prop} (W : Wd w mean mg mb B) (kB : Kp B s.heap)
   (hd : dp + 4 < recursionLimit) (hu : un + 20 < cLine) (l : Addr) (vs : List Value) (n : Nat) (i j a b k : Nat) (ta tb u1 u2 u3 : Tok) (hi : i < 3) (hj : j < 3) (hia : vs[i]? = some (.str (spc a) ta)) (hjb : vs[j]? = some (.str (spc b) tb)) (ha : a < 200) (hb : b < 200)
   (hl : s.heap.get? l = some (listOf vs.toArray n)) (hlB : B.get? l = none)
   (hQ : ∀ h' tk' D v0 v1 n', Kp s.heap h' → h'.get? D = some (listOf #[.int (min a k : Nat) v0, .int (min b (k - min a k) : Nat) v1] n') → s.heap.get? D = none → Q (.ref D) { s with heap := h', toks := tk' }) :
  codeAny (model prg w) (Ar dp fr gd un) (.call (.ref 267) ⟨[.ref l, .int i u1, .int j u2, .int k u3], []⟩) (fun r s' => match r with | .ok (.ret v) => Q v s' | _ => False) s := by
  have X0 := W.X
  refine' enterN [(Str.ofString "texts", .ref l), (Str.ofString "one", .int i u1), (Str.ofString "two", .int j u2), (Str.ofString "both", .int k u3)] W kB [(l, listOf vs.toArray n)] ?kn ?k6 ?k7 ?k8 ?k9 ?kB ?_ ?c2 ?c3 ?c4 ?c5
  case kn => exact List.forall_mem_cons.mpr ⟨⟨hl, hlB⟩, fun _ h => nomatch h⟩
  case k6 => k_is
  case k7 => k_is
  case k8 => k_room
  case k9 => exact BindsTo.of_eq rfl
  case c5 => decide
  case kB => exact locs rfl
  case c2 => exact rfl
  case c3 => exact rfl
  case c4 => exact rfl
  intro g L h₁ F N Wg hk hL
  have X := Wg.X
  obtain ⟨p9, l9, T⟩ := Wg.T
  clear X0
  replace F : Fr g L h₁ (mp [(Str.ofString "both", .int k u3), (Str.ofString "two", .int j u2), (Str.ofString "one", .int i u1), (Str.ofString "texts", .ref l)]) := F
  w_on
  have hlL : @LT.lt Nat instLTNat l L := hL l _ hl
  k_steps
  rename Fr _ _ _ _ => F'
  rename News _ _ _ _ => N'
  rename (_ < _) => l1
  rw [it_a (Nat.min_le_left a k), it_b (Nat.min_le_left b (k - min a k))] at N'
  exact hQ _ _ _ _ _ _ (kp_end F' N' hk (List.forall_mem_cons.mpr ⟨hl, fun _ h => nomatch h⟩) (List.forall_mem_cons.mpr ⟨by k_mem, fun _ h => nomatch h⟩)) (N' _ (.head _)).1 (fresh_of N' (.head _) hk (List.forall_mem_cons.mpr ⟨Nat.ne_of_lt l1, fun _ h => nomatch h⟩))
end
section
set_option maxHeartbeats 4000000
open PySem PySem.W PySem.Calls PyProof.Rows
theorem fillS7 : PySem.Challenge.rw_uc0030_01 = PySem.Challenge.rw_uc0030_01 ∧ Mine.hd.heap_1 = Mine.hd.heap_1 := by k_fill; exact ⟨rfl, rfl⟩
local macro_rules | `(tactic| walk_at $k:str) => if ["call ref", "eval Lambda"].contains k.getString then `(tactic| refine stop_of ?_) else Lean.Macro.throwUnsupported
theorem intsAt : ∀ {vs : List Value} {ks : List Int}, IntsAre vs ks → ∀ {i : Nat} {v : Value}, vs[i]? = some v → ∃ k t, ks[i]? = some k ∧ v = .int k t
  | _, _, .nil, _, _, e => by simp at e
  | _, _, .cons k t h, 0, v, e => by simp at e; exact ⟨k, t, rfl, e.symm⟩
  | _, _, .cons k t h, i + 1, v, e => by simp at e; simpa using intsAt h e
theorem rangeAt {a : Int} {n i : Nat} {k : Int} (h : (rangeKs a n)[i]? = some k) : k = a + i ∧ i < n := by
  unfold rangeKs at h
  rw [List.getElem?_map] at h
  cases e : (List.range n)[i]? with
  | none => rw [e] at h; cases h
  | some j =>
    rw [e] at h
    have hi : i < n := by have := (List.getElem?_eq_some_iff.mp e).1; simpa using this
    rw [List.getElem?_range hi] at e
    cases e
    cases h
    exact ⟨rfl, hi⟩
theorem keep_news {C : Heap → Prop} {G : Prop} {g h : Heap} {L : Addr} {m : Str → Option Value} {nw : List (Addr × Obj)} (F : Fr g L h m) (N : News g L h nw) (hC : ∀ H, Kp g H → (∀ p ∈ nw, H.get? p.1 = some p.2 ∧ g.get? p.1 = none) → C H)
   (hG : (∀ H m', Fr g L H m' → News g L H nw → C H) → G) : G := hG fun _ _ F' N' => hC _ F'.keep fun p hp => ⟨(N' p hp).1, (N' p hp).2.2⟩
noncomputable def kap (c0 c1 c2 : Int) (i : Nat) : Int := half1 c0 i + (half1 c1 i + (half1 c2 i + 0))
theorem half1_le (c : Int) (i j : Nat) (h : i ≤ j) : half1 c i ≤ half1 c j := by unfold half1; split <;> split <;> omega
theorem half1_b (c : Int) (i : Nat) (h : 0 ≤ c ∧ c < 200) : 0 ≤ half1 c i ∧ half1 c i ≤ 100 := by
  have : c.fdiv 2 = c / 2 := Int.fdiv_eq_ediv_of_nonneg _ (by omega)
  unfold half1; rw [this]; split <;> omega
theorem kap_le (c0 c1 c2 : Int) (i j : Nat) (h : i ≤ j) : kap c0 c1 c2 i ≤ kap c0 c1 c2 j := by
  have a := half1_le c0 i j h
  have b := half1_le c1 i j h
  have c := half1_le c2 i j h
  unfold kap; omega
theorem levels_call {w : World} {mean : ExcName → Option Value} {mg mb : Str → Option Value} {B : Heap} {dp un : Nat} {fr : Option (List Env)} {gd : Option (List Code)} {s : Shared} {Q : Value → Shared → Prop} (W : Wd w mean mg mb B) (kB : Kp B s.heap)
   (hd : dp + 12 < recursionLimit) (hu : un + 80 < cLine) (l : Addr) (c0 c1 c2 low : Int) (t0 t1 t2 u2 : Tok) (n : Nat) (hc0 : 0 ≤ c0 ∧ c0 < 200) (hc1 : 0 ≤ c1 ∧ c1 < 200) (hc2 : 0 ≤ c2 ∧ c2 < 200) (he : 0 ≤ low ∧ low < 600)
   (hl : s.heap.get? l = some (listOf #[.int c0 t0, .int c1 t1, .int c2 t2] n)) (hlB : B.get? l = none) (ht : s.heap.get? 250 = some (tabObj #[])) (htB : B.get? 250 = none)
   (hQ : ∀ h' tk' D v0 v1 n' tab (lv ab : Nat), (∀ b o, b ≠ 250 → s.heap.get? b = some o → h'.get? b = some o) → h'.get? 250 = some (tabObj tab) → h'.get? D = some (listOf #[.int lv v0, .int ab v1] n') → s.heap.get? D = none →
     (lv : Int) ≤ c0 + c1 + c2 + 1 → (∀ i : Nat, i < lv → kap c0 c1 c2 i < low) → (∀ i : Nat, lv ≤ i → (i : Int) < c0 + c1 + c2 + 1 → low ≤ kap c0 c1 c2 i) →
     (ab : Int) ≤ c0 + c1 + c2 + 1 → (∀ i : Nat, i < ab → kap c0 c1 c2 i ≤ low) → (∀ i : Nat, ab ≤ i → (i : Int) < c0 + c1 + c2 + 1 → low < kap c0 c1 c2 i) → Q (.ref D) { s with heap := h', toks := tk' }) :
  codeAny (model prg w) (Ar dp fr gd un) (.call (.ref 255) ⟨[.ref l, .int low u2], []⟩) (fun r s' => match r with | .ok (.ret v) => Q v s' | _ => False) s := by
  have X0 := W.X
  refine' enterC [(Str.ofString "claims", .ref l), (Str.ofString "low", .int low u2)] W kB [(l, listOf #[.int c0 t0, .int c1 t1, .int c2 t2] n), (250, tabObj #[])] ?kn ?k6 ?k7 ?k8 ?k9 ?kB ?kD ?_ ?c2 ?c3 ?c4
  case kn => exact List.forall_mem_cons.mpr ⟨⟨hl, hlB⟩, List.forall_mem_cons.mpr ⟨⟨ht, htB⟩, fun _ h => nomatch h⟩⟩
  case k6 => k_is
  case k7 => k_is
  case k8 => k_room
  case k9 => exact BindsTo.of_eq rfl
  case kD => decide +kernel
  case kB => exact rfl
  case c2 => exact rfl
  case c3 => exact rfl
  case c4 => exact rfl
  intro g L h₁ tk cells F N Y Wg hk hL
  have X := Wg.X
  obtain ⟨p9, l9, T⟩ := Wg.T
  clear X0
  k_cells Y
  rename_i o1 d1
  replace F : Fr g L h₁ (mp [(Str.ofString "low", .int low u2)]) := frc F (by funext y; rfl)
  replace d1 : o1.data = .cell (some (.ref l)) := d1
  have hlL : @LT.lt Nat instLTNat l L := hL l _ hl
  have h2L : @LT.lt Nat instLTNat 250 L := hL 250 _ ht
  have hne2 : @Ne Nat l 250 := fun q => by rw [show l = (250 : Addr) from q, ht] at hl; cases hl
  have hC : CodeHd g 254 250 := codeHd_of_K X (by kernel_rfl)
  replace N : News g L h₁ [(L + 1, o1), (l, listOf #[.int c0 t0, .int c1 t1, .int c2 t2] n), (250, tabObj #[])] := N
  w_on
  k_steps
  refine Stop.go ?_
  rename List Value => vs
  rename Fr _ _ _ _ => F1
  rename News _ _ _ _ => N1
  rename (IntsAre _ _) => hI
  k_dflt (refine' kla_eval ?d0 ?_; (case d0 => exact rfl)); (k_dflt (refine' kla_nest ?F ?N ?T ?C ?cd ?U ?t ?n ?cl ?_; (case F => k_asm); (case N => k_asm); (case T => k_asm); (case cd => exact rfl); (case C => assumption); (case U => k_updF); (case t => kn_triples); (case n => kn_among); (case cl => exact rfl); k_whole))
  intro f c' oc' vs' t' ct' h2 tk2 F2 N2 hd1 hd2 l1 l2
  (try dsimp only at N2); (try k_lt l1); (try k_lt2 l2)
  clear F1 N1
  k_steps
  rename Fr _ _ _ _ => F'
  rename News _ _ _ _ => N'
  refine Stop.go ?_
  have hIl := @intsAt _ _ hI
  refine keep_news (C := fun H => KeyOk w H f vs (kap c0 c1 c2) 4 30) F' N' ?_ fun hkey => ?_
  · intro H kH hN i v hv A s' Q' E' hA hd hu hk' hq
    rw [ar_of hA]
    obtain ⟨k, t, hk0, rfl⟩ := hIl hv
    obtain ⟨rfl, hi⟩ := rangeAt hk0
    refine call_of (enterLam1 (Str.ofString "level") _ Wg (kH.trans hk') [(L + 1, o1), (l, listOf #[.int c0 t0, .int c1 t1, .int c2 t2] n)] ?kn (hk' _ _ (hN _ (.head _)).1) ?kc (by k_room) ?kb rfl ?kf ?kp ?_ rfl rfl rfl)
    case kn => exact List.forall_mem_cons.mpr ⟨⟨hk' _ _ (hN _ (by k_mem)).1, (hN (L + 1, o1) (by k_mem)).2⟩, List.forall_mem_cons.mpr ⟨⟨hk' _ _ (hN _ (by k_mem)).1, (hN (l, _) (by k_mem)).2⟩, fun _ h => nomatch h⟩⟩
    case kc => exact ⟨c', oc', vs', t', rfl, hk' _ _ (hN (c', oc') (by k_mem)).1, hd1, hd2⟩
    case kb => exact rfl
    case kf => intro n acc; exact rfl
    case kp => intro h; exact rfl
    clear F' N' X T
    intro g2 L2 h₁ ob tk F2 N2 dob Wg2 hk2 hL2
    have X2 := Wg2.X
    obtain ⟨p8, l8, T2⟩ := Wg2.T
    w_on
    k_steps
    rename Fr _ _ _ _ => F3
    rename News _ _ _ _ => N3
    rw [Int.zero_add]
    refine hq _ _ _ (kp_end F3 N3 hk2 (List.forall_mem_cons.mpr ⟨hk' _ _ (hN _ (by k_mem)).1, List.forall_mem_cons.mpr ⟨hk' _ _ (hN _ (by k_mem)).1, fun _ h => nomatch h⟩⟩) (List.forall_mem_cons.mpr ⟨by k_mem, List.forall_mem_cons.mpr ⟨by k_mem, fun _ h => nomatch h⟩⟩))
  have hmono : ∀ i j, i ≤ j → j < vs.length → kap c0 c1 c2 i ≤ kap c0 c1 c2 j := fun i j h _ => kap_le c0 c1 c2 i j h
  have hκ : ∀ i, -1000 < kap c0 c1 c2 i ∧ kap c0 c1 c2 i < 1000 := fun i => by
    have a := half1_b c0 i hc0
    have b := half1_b c1 i hc1
    have c := half1_b c2 i hc2
    unfold kap; omega
  have hlen : (vs.length : Int) = c0 + c1 + c2 + 1 := by
    have := IntsAre.length hI
    rw [rangeKs_length] at this
    omega
  show wpAny _ _ (call (.ref 72) [.ref _, .int low u2] [(Str.ofString "key", .ref f)]) _ _ _
  refine bisl_wp _ f vs _ low u2 (kap c0 c1 c2) 4 30 _ _ _ _ rfl Wg F' N' (by k_room) (by (try simp only [units_in1, units_deeper, Around.mark_units]); (try dsimp only); omega) (by omega) hκ (by k_mem) (.head _) (hkey _ _ F' N') hmono fun h5 tk5 t5 lv F5 N5 a1 a2 a3 => ?_
  clear F' N'
  k_steps
  refine Stop.go ?_
  rename Fr _ _ _ _ => F'
  rename News _ _ _ _ => N'
  show wpAny _ _ (call (.ref 63) [.ref _, .int low u2] [(Str.ofString "key", .ref f)]) _ _ _
  refine bisr_wp _ _ 316 _ f vs _ low u2 (kap c0 c1 c2) 4 30 _ _ _ _ rfl Wg F' N' (by k_room) (by (try simp only [units_in1, units_deeper, Around.mark_units]); (try dsimp only); omega) (by omega) hκ (by k_mem) (.head _) (hkey _ _ F' N') hmono (hb63' w _ _ _ _) fun h6 tk6 t6 ab F6 N6 b1 b2 b3 => ?_
  clear F' N'
  k_steps
  rename Fr _ _ _ _ => F'
  rename News _ _ _ _ => N'
  refine hQ _ _ _ _ _ _ _ lv ab (fun b o hb e => ?_) (N' (250, _) (by k_mem)).1 (N' _ (.head _)).1 (fresh_of N' (.head _) hk ?_) (by omega) a2 (fun i h1 h2 => a3 i h1 (by omega)) (by omega) b2 (fun i h1 h2 => b3 i h1 (by omega))
  · by_cases hbl : b = l
    · subst hbl
      rw [hl] at e; cases e
      exact (N' (b, _) (by k_mem)).1
    · refine F'.keep b o (hk b o e ?_)
      simp only [List.map_cons, List.map_nil, List.mem_cons, List.not_mem_nil, or_false, not_or]
      exact ⟨hbl, hb⟩
  · rename (_ ∧ _ ∧ _ ∧ _ ∧ _ ∧ _) => l6
    exact List.forall_mem_cons.mpr ⟨Nat.ne_of_lt l6.2.2.2.2.1, List.forall_mem_cons.mpr ⟨Nat.ne_of_lt l6.2.2.2.2.2, fun _ h => nomatch h⟩⟩
end
section
set_option maxHeartbeats 4000000
open PySem PySem.W PySem.Calls PyProof.Rows
theorem fillS9 : PySem.Challenge.rw_uc0030_01 = PySem.Challenge.rw_uc0030_01 ∧ Mine.hd.heap_1 = Mine.hd.heap_1 := by k_fill; exact ⟨rfl, rfl⟩
local macro_rules | `(tactic| walk_at "subscriptTail") => `(tactic| (with_reducible show wpAny _ _ (subscriptTail _ _ (Value.ref _) (Value.int _ _)) _ _ _; k_dflt (refine my_item (by is_list) (by omega) (by omega) (by first | (rw [Int.toNat_natCast]; assumption) | (rw [Int.zero_add, Int.toNat_natCast]; assumption)) ?_)))
local macro_rules | `(tactic| walk_at "binaryOp Add str str") => `(tactic| (refine' r_add ?hz ?hs ?_; (case hz => first | with_reducible exact spc_x _ | with_reducible exact blk_spc _ _ | with_reducible exact spc_spc _ _); (case hs => ((simp only [spc_len, blk_len, x_len]); omega)); intro t' j'))
local macro_rules | `(tactic| walk_at "call builtin:len") => `(tactic| (refine' r_len (by first | with_reducible exact spc_len _ | with_reducible exact blk_len _ _) ?hs ?_; (case hs => omega)))
local macro_rules | `(tactic| walk_at $k:str) => if ["call ref", "pyIter ref"].contains k.getString then `(tactic| refine stop_of ?_) else Lean.Macro.throwUnsupported
theorem inturn_wp {w : World} {mean : ExcName → Option Value} {mg mb : Str → Option Value} {A : Around} {s : Shared} {Q : Value → Shared → Prop} {E : Value → Shared → Prop} {h₀ : Heap} {L : Addr} {m : Str → Option Value} {news : List (Addr × Obj)}
   (l : Addr) (vs : List Value) (n : Nat) (i j a b k : Nat) {i' j' k' : Int} (ta tb u1 u2 u3 : Tok) (hi' : i' = i) (hj' : j' = j) (hk' : k' = k)
   (hA : A.handled = none) (W : Wd w mean mg mb h₀) (F : Fr h₀ L s.heap m) (N : News h₀ L s.heap news) (hd : A.depth + 4 < recursionLimit) (hu : A.units + 20 < cLine)
   (hi : i < 3) (hj : j < 3) (hia : vs[i]? = some (.str (spc a) ta)) (hjb : vs[j]? = some (.str (spc b) tb)) (ha : a < 200) (hb : b < 200)
   (hl : (l, listOf vs.toArray n) ∈ news)
   (hQ : ∀ h' tk' D v0 v1 n', Fr h₀ L h' m → News h₀ L h' ((D, listOf #[.int (min a k : Nat) v0, .int (min b (k - min a k) : Nat) v1] n') :: news) → (∀ p ∈ news, @Ne Nat p.1 D) → Q (.ref D) { s with heap := h', toks := tk' }) :
   wpAny (model prg w) A (call (.ref 267) [.ref l, .int i' u1, .int j' u2, .int k' u3]) Q E s := by
  subst hi' hj' hk'
  rw [ar_of hA]
  exact call_of (inturn_call W F.keep hd hu l vs n i j a b k ta tb u1 u2 u3 hi hj hia hjb ha hb (N _ hl).1 (N _ hl).2.2 fun h' tk' D v0 v1 n' kp hD hf => hQ h' tk' D v0 v1 n' (Fr.keeps F kp) (news_add F N kp hD hf) (ne_of_new N hf))
local macro_rules | `(tactic| walk_at $k:str) => if ["compareOp NotEq ref ref"].contains k.getString then `(tactic| refine stop_of ?_) else Lean.Macro.throwUnsupported
theorem gz1 {a b : Nat} : a - min a (a + b + 1) = 0 := by rw [Nat.min_eq_left (Nat.le_trans (Nat.le_add_right a b) (Nat.le_succ _)), Nat.sub_self]
theorem gz2 {a b : Nat} : b - min b (a + b + 1 - min a (a + b + 1)) = 0 := by
  rw [Nat.min_eq_left (Nat.le_trans (Nat.le_add_right a b) (Nat.le_succ _)), Nat.add_assoc, Nat.add_sub_cancel_left, Nat.min_eq_left (Nat.le_succ b), Nat.sub_self]
theorem minIf (a b d : Nat) : ((min a (b + d) : Nat) : Int) = if (b : Int) + (d : Int) < (a : Int) then (b : Int) + (d : Int) else (a : Int) := by split <;> omega
theorem pair_eq {σi σj a b x y : Nat} (h1 : 2 * σi = a + b) (h2 : 2 * σj = x + y) : [2 * (σi : Int), 2 * (σj : Int)] = [(a : Int) + (b : Int), (x : Int) + (y : Int)] := List.cons_eq_cons.mpr ⟨by omega, List.cons_eq_cons.mpr ⟨by omega, rfl⟩⟩
theorem ne_ints_same {prog : Program} {w : World} {A : Around} {E : Value → Shared → Prop} {s : Shared} {a b : Addr} {xs ys : List Value} {ns ms : List Int} {Q : Value → Shared → Prop} (ha : s.heap.IsList a xs.toArray) (hb : s.heap.IsList b ys.toArray) (hi : IntsAre xs ns) (hj : IntsAre ys ms) (hu : A.units + 64 < cLine) (e : ns = ms) (h : ∀ tk', Q (.bool false) { heap := s.heap, gens := s.gens, drawn := s.drawn, toks := tk', os := s.os }) :
    wpAny (model prog w) A (compareOp .NotEq (.ref a) (.ref b)) Q E s := ke_ne_ints ha hb hi hj hu (by rw [decide_eq_true e]; exact h s.toks)
theorem garments_call {w : World} {mean : ExcName → Option Value} {mg mb : Str → Option Value} {B : Heap} {dp un : Nat} {fr : Option (List Env)} {gd : Option (List Code)} {s : Shared} {Q : Value → Shared → Prop} (W : Wd w mean mg mb B) (kB : Kp B s.heap)
   (hd : dp + 8 < recursionLimit) (hu : un + 120 < cLine) (l r : Addr) (vs ws : List Value) (n nr : Nat) (c σ : Nat → Nat) (hT : ∀ i, i < 3 → ∃ t, vs[i]? = some (.str (spc (c i)) t)) (hS : ∀ i, i < 3 → ∃ t, ws[i]? = some (.int (σ i : Nat) t)) (hc : ∀ i, c i < 200) (hσ : ∀ i, σ i < 200)
   (hg : ∀ i j, j < i → i < 3 → 2 * σ i = min (c i) (σ i + σ j) + min (c i) (σ i + σ j - min (c j) (σ i + σ j)) ∧ 2 * σ j = min (c j) (σ i + σ j - min (c i) (σ i + σ j)) + min (c j) (σ i + σ j))
   (hl : s.heap.get? l = some (listOf vs.toArray n)) (hlB : B.get? l = none) (hr : s.heap.get? r = some (listOf ws.toArray nr)) (hrB : B.get? r = none) (hlr : @Ne Nat l r)
   (hQ : ∀ h' tk', Kp s.heap h' → Q (.bool true) { s with heap := h', toks := tk' }) :
  codeAny (model prg w) (Ar dp fr gd un) (.call (.ref 274) ⟨[.ref l, .ref r], []⟩) (fun r s' => match r with | .ok (.ret v) => Q v s' | _ => False) s := by
  have X0 := W.X
  refine' enterN [(Str.ofString "texts", .ref l), (Str.ofString "shares", .ref r)] W kB [(l, listOf vs.toArray n), (r, listOf ws.toArray nr)] ?kn ?k6 ?k7 ?k8 ?k9 ?kB ?_ ?c2 ?c3 ?c4 ?c5
  case kn => exact List.forall_mem_cons.mpr ⟨⟨hl, hlB⟩, List.forall_mem_cons.mpr ⟨⟨hr, hrB⟩, fun _ h => nomatch h⟩⟩
  case k6 => k_is
  case k7 => k_is
  case k8 => k_room
  case k9 => exact BindsTo.of_eq rfl
  case c5 => decide
  case kB => exact locs rfl
  case c2 => exact rfl
  case c3 => exact rfl
  case c4 => exact rfl
  intro g L h₁ F N Wg hk hL
  have X := Wg.X
  obtain ⟨p9, l9, T⟩ := Wg.T
  clear X0
  replace F : Fr g L h₁ (mp [(Str.ofString "shares", .ref r), (Str.ofString "texts", .ref l)]) := F
  w_on
  have hlL : @LT.lt Nat instLTNat l L := hL l _ hl
  have hrL : @LT.lt Nat instLTNat r L := hL r _ hr
  k_steps
  refine Stop.go ?_
  rename IsRange _ _ _ _ _ _ _ _ => hrr
  rename Fr _ _ _ _ => F1
  rename News _ _ _ _ => N1
  with_unfolding_all refine' forRangeS (σ := Option Value × Option Value × Option Value × Option Value) 3 (fun c => mo [(Str.ofString "two", c.1), (Str.ofString "both", c.2.1), (Str.ofString "here", c.2.2.1), (Str.ofString "there", c.2.2.2)] (mp [(Str.ofString "shares", .ref r), (Str.ofString "texts", .ref l)])) (fun i c => True) (none, none, none, none) ?hA ?hL hrr ?hs ?hn F1 N1 ?hm ?hP ?turn ?out
  case hA => rfl
  case hL => rfl
  case hs => decide
  case hn => decide
  case hm => intro y hy; dsimp only [mo, mp]; repeat' (first | rfl | (split <;> (try subst_vars)))
  case hP => trivial
  case turn =>
    clear F1 N1 hrr
    intro I i
    refine al_LxxxxR ?_
    intro v1 v2 v3 v4 h tk tx hI hi hP9 F N
    first | refine hideT fun Q9 hq9 => ?_ | refine hideQ fun Q9 hq9 => ?_
    clear hP9
    dsimp only at F N ⊢
    have hI' := hI
    simp only [List.forall_mem_cons] at hI'
    k_steps
    refine Stop.go ?_
    rename IsRange _ _ _ _ _ _ _ _ => hrr
    rename Fr _ _ _ _ => F1
    rename News _ _ _ _ => N1
    have hi3 : i = 0 ∨ i = 1 ∨ i = 2 := by omega
    with_unfolding_all refine' forRangeS (σ := Option Value × Option Value × Option Value) i (fun c => mo [(Str.ofString "one", some (.int (0 + (i : Int)) tx)), (Str.ofString "both", c.1), (Str.ofString "here", c.2.1), (Str.ofString "there", c.2.2)] (mp [(Str.ofString "shares", .ref r), (Str.ofString "texts", .ref l)])) (fun i c => True) (v2, v3, v4) ?hA2 ?hL2 hrr ?hs2 ?hn2 F1 N1 ?hm2 ?hP2 ?turn2 ?out2
    case hA2 => rfl
    case hL2 => rfl
    case hs2 => rcases hi3 with rfl | rfl | rfl <;> decide
    case hn2 => rcases hi3 with rfl | rfl | rfl <;> decide
    case hm2 => intro y hy; dsimp only [mo, mp]; repeat' (first | rfl | contradiction | (split <;> (try subst_vars)))
    case hP2 => trivial
    case turn2 =>
      clear F1 N1 hrr
      intro J j
      refine al_LxxxR ?_
      intro v2 v3 v4 h tk ty hJ hj hP9 F N
      first | refine hideT fun Q9 hq9 => ?_ | refine hideQ fun Q9 hq9 => ?_
      clear hP9
      dsimp only at F N ⊢
      simp only [List.forall_mem_cons] at hJ
      obtain ⟨ta, hia⟩ := hT i hi
      obtain ⟨tb, hjb⟩ := hT j (by omega)
      obtain ⟨sa, hsa⟩ := hS i hi
      obtain ⟨sb, hsb⟩ := hS j (by omega)
      have c1 := hc i
      have c2 := hc j
      have c3 := hσ i
      have c4 := hσ j
      have gg := hg i j hj hi
      k_steps
      refine Stop.go ?_
      rename Fr _ _ _ _ => F1
      rename News _ _ _ _ => N1
      refine inturn_wp l vs n i j (c i) (c j) (σ i + σ j) ta tb _ _ _ (Int.zero_add _) (Int.zero_add _) (by omega) rfl Wg F1 N1 (by k_room) (by (try simp only [units_in1, units_deeper, Around.mark_units]); (try dsimp only); omega) hi (by omega) hia hjb c1 c2 (by k_mem) fun h5 tk5 D5 v5 w5 n5 F5 N5 e5 => ?_
      clear F1 N1
      simp only [List.forall_mem_cons] at e5
      k_steps
      refine Stop.go ?_
      rename Fr _ _ _ _ => F1
      rename News _ _ _ _ => N1
      refine inturn_wp l vs n j i (c j) (c i) (σ i + σ j) tb ta _ _ _ (Int.zero_add _) (Int.zero_add _) (by omega) rfl Wg F1 N1 (by k_room) (by (try simp only [units_in1, units_deeper, Around.mark_units]); (try dsimp only); omega) (by omega) hi hjb hia c2 c1 (by k_mem) fun h6 tk6 D6 v6 w6 n6 F6 N6 e6 => ?_
      clear F1 N1
      simp only [List.forall_mem_cons] at e6
      k_steps
      · rename (_ ≠ _) => hb
        clear gg
        exact absurd (minIf _ _ _) hb
      · rename (_ ≠ _) => hb
        clear gg
        exact absurd (minIf _ _ _) hb
      refine Stop.go ?_
      refine ne_ints_same (by is_list) (by is_list) (by l_ints) (by l_ints) (by (try simp only [units_in1, units_deeper, Around.mark_units]); (try dsimp only); omega) (by exact pair_eq gg.1 gg.2) fun tk9 => ?_
      clear gg
      dsimp only
      k_steps
      refine Stop.go ?_
      rename Fr _ _ _ _ => F1
      rename News _ _ _ _ => N1
      with_unfolding_all refine strip_wp (a := c i) (b := c j) (k := c i + c j + 1) rfl Wg F1 N1 (by k_room) (by (try simp only [units_in1, units_deeper, Around.mark_units]); (try dsimp only); omega) rfl (by omega) (by omega) fun h7 tk7 t7 F7 N7 => ?_
      clear F1 N1
      rw [gz1, gz2, blk_x]
      k_steps
      rename Fr _ _ _ _ => F1
      rename News _ _ _ _ => N1
      exact hq9 _ _ ⟨rfl, _, _, (some _, some _, some _), some (.int _ _), rfl, frc F1 (by ktn_open), fun p hp => N1 p (.tail _ (.tail _ (.tail _ (.tail _ hp)))), trivial⟩
    case out2 => 
      refine al_LxxxR ?_
      intro v2 v3 v4 h tk vx hP9 F N
      clear hP9
      k_steps
      exact hq9 _ _ ⟨rfl, _, _, (vx, v2, v3, v4), some (.int _ _), rfl, frc F (by ktn_open), N, trivial⟩
  case out =>
    refine al_LxxxxR ?_
    intro v1 v2 v3 v4 h tk vx hP9 F N
    clear hP9
    k_steps
    exact hQ _ _ (kp_end F N hk (List.forall_mem_cons.mpr ⟨hl, List.forall_mem_cons.mpr ⟨hr, fun _ h => nomatch h⟩⟩) fun _ h => h)
end
local macro_rules | `(tactic| k_ne) => `(tactic| (refine neN ?_; (try dsimp only); first | assumption | (refine Ne.symm ?_; assumption) | (refine Nat.ne_of_lt ?_; assumption) | (refine Nat.ne_of_gt ?_; assumption) | exact Nat.ne_of_gt (Nat.lt_succ_self _) | exact Nat.ne_of_lt (Nat.lt_succ_self _) | omega))
section
set_option maxHeartbeats 4000000
open PySem PySem.W PySem.Calls PyProof.Rows
theorem fillS10 : PySem.Challenge.rw_uc0030_01 = PySem.Challenge.rw_uc0030_01 ∧ Mine.hd.heap_1 = Mine.hd.heap_1 := by k_fill; exact ⟨rfl, rfl⟩
local macro_rules | `(tactic| walk_at $k:str) => if ["exec For"].contains k.getString then `(tactic| refine stop_of ?_) else Lean.Macro.throwUnsupported
local macro_rules | `(tactic| walk_at "subscriptTail") => `(tactic| (with_reducible show wpAny _ _ (subscriptTail _ _ (Value.ref _) (Value.int _ _)) _ _ _; k_dflt (refine my_item (by is_list) (by omega) (by omega) (by first | with_reducible assumption | exact at_cast (by with_reducible assumption) | exact rfl) ?_)))
local macro_rules | `(tactic| walk_at $k:str) => if ["pyIter ref", "CompRestT", "CompEnd", "call builtin:list.append"].contains k.getString then `(tactic| refine stop_of ?_) else Lean.Macro.throwUnsupported
local macro_rules | `(tactic| k_all) => `(tactic| with_unfolding_all assumption)
theorem at_cast {α : Type} {vs : List α} {k : Nat} {v : α} (h : vs[k]? = some v) : vs[((k : Nat) : Int).toNat]? = some v := h
theorem ite_b {b : Bool} {P R : Prop} {inst : Decidable (b = true)} (h1 : b = true → P) (h2 : b = false → R) : @ite Prop (b = true) inst P R := by
  cases b
  · rw [if_neg Bool.false_ne_true]; exact h2 rfl
  · rw [if_pos rfl]; exact h1 rfl
local macro_rules | `(tactic| walk_at "ite") => `(tactic| (with_reducible refine ite_b (fun hb => ?_) (fun hb => ?_)))
noncomputable def bt (S k : Nat) (v : Int) : Int := if S / 2 ^ k % 2 = 1 then v else 0
noncomputable def pick3 (s0 s1 s2 : Int) (k : Nat) : Int := if k = 0 then s0 else if k = 1 then s1 else s2
noncomputable def psum (σ : Nat → Int) (S : Nat) : Nat → Int
  | 0 => 0
  | k + 1 => psum σ S k + bt S k (σ k)
theorem bt_int (i k : Nat) : ((1 + (i : Int)).fdiv (2 ^ k)).fmod 2 = (((i + 1) / 2 ^ k % 2 : Nat) : Int) := by
  have h2 : (0 : Int) ≤ 2 ^ k := Int.pow_nonneg (by omega)
  rw [Int.fdiv_eq_ediv_of_nonneg _ h2, Int.fmod_eq_emod_of_nonneg _ (by omega)]
  rw [show (1 + (i : Int)) = ((i + 1 : Nat) : Int) by omega]
  norm_cast
noncomputable def Jc (σ : Nat → Int) (S j : Nat) (ys : List Value) : Prop := ∃ ns, IntsAre ys ns ∧ ns.sum = psum σ S j ∧ ns.length ≤ j ∧ ∀ x ∈ ns, -1000 < x ∧ x < 1000
theorem ints_snoc {n : Int} {t : Tok} : ∀ {vs : List Value} {ns : List Int}, IntsAre vs ns → IntsAre (vs ++ [.int n t]) (ns ++ [n])
  | _, _, .nil => .cons n t .nil
  | _, _, .cons k u h => .cons k u (ints_snoc h)
theorem Jc.t {σ : Nat → Int} {i j : Nat} {ys : List Value} {t : Tok} (h : Jc σ (i + 1) j ys) (hb : -1000 < σ j ∧ σ j < 1000) (hS : (((1 + (i : Int)).fdiv (2 ^ j)).fmod 2 == 1) = true) : Jc σ (i + 1) (j + 1) (ys ++ [.int (σ j) t]) := by
  obtain ⟨ns, h1, h2, h3, h4⟩ := h
  have e := beq_iff_eq.mp hS
  rw [bt_int] at e
  refine ⟨ns ++ [σ j], ints_snoc h1, ?_, by rw [List.length_append, List.length_singleton]; omega, fun x hx => ?_⟩
  · rw [List.sum_append, h2]
    show _ = psum σ (i + 1) j + bt (i + 1) j (σ j)
    unfold bt
    rw [if_pos (by omega)]
    simp
  · rcases List.mem_append.mp hx with hx | hx
    · exact h4 x hx
    · rw [List.mem_singleton.mp hx]; exact hb
theorem Jc.f {σ : Nat → Int} {i j : Nat} {ys : List Value} (h : Jc σ (i + 1) j ys) (hS : (((1 + (i : Int)).fdiv (2 ^ j)).fmod 2 == 1) = false) : Jc σ (i + 1) (j + 1) ys := by
  obtain ⟨ns, h1, h2, h3, h4⟩ := h
  have e := beq_eq_false_iff_ne.mp hS
  rw [bt_int] at e
  refine ⟨ns, h1, ?_, by omega, h4⟩
  rw [h2]
  show _ = psum σ (i + 1) j + bt (i + 1) j (σ j)
  unfold bt
  rw [if_neg (by omega), Int.add_zero]
noncomputable def tupO (a b : Value) : Obj := { cls := .type "tuple", data := .seq #[a, b] }
noncomputable def IsPair (f : Nat → Int) (j : Nat) (o : Obj) : Prop := ∃ t u, o = tupO (.int (f (j + 1)) t) (.int (1 + (j : Int)) u)
noncomputable def cmp1 (lf σ : Nat → Int) (S : Nat) : Int := lf S - psum σ S 3
theorem complaints_call {w : World} {mean : ExcName → Option Value} {mg mb : Str → Option Value} {B : Heap} {dp un : Nat} {fr : Option (List Env)} {gd : Option (List Code)} {s : Shared} {Q : Value → Shared → Prop} (W : Wd w mean mg mb B) (kB : Kp B s.heap)
   (hd : dp + 8 < recursionLimit) (hu : un + 120 < cLine) (l r : Addr) (vs : List Value) (n nr : Nat) (lf : Nat → Int) (hT : ∀ i, i < 7 → ∃ t, vs[i]? = some (.int (lf i) t)) (s0 s1 s2 : Int) (hb0 : -1000 < s0 ∧ s0 < 1000) (hb1 : -1000 < s1 ∧ s1 < 1000) (hb2 : -1000 < s2 ∧ s2 < 1000) (t0 t1 t2 : Tok) 
   (hl : s.heap.get? l = some (listOf vs.toArray n)) (hlB : B.get? l = none) (hr : s.heap.get? r = some (listOf #[.int s0 t0, .int s1 t1, .int s2 t2] nr)) (hrB : B.get? r = none) (hlr : @Ne Nat l r)
   (hQ : ∀ h' tk' D (cl : List (Addr × Obj)) n', Kp s.heap h' → cl.length = 6 → (∀ j p, cl[j]? = some p → IsPair (cmp1 lf (pick3 s0 s1 s2)) j p.2 ∧ h'.get? p.1 = some p.2 ∧ s.heap.get? p.1 = none) → h'.get? D = some (listOf (cl.map fun p => Value.ref p.1).toArray n') → s.heap.get? D = none → Q (.ref D) { s with heap := h', toks := tk' }) :
  codeAny (model prg w) (Ar dp fr gd un) (.call (.ref 286) ⟨[.ref l, .ref r], []⟩) (fun r s' => match r with | .ok (.ret v) => Q v s' | _ => False) s := by
  have X0 := W.X
  refine' enterC [(Str.ofString "left", .ref l), (Str.ofString "shares", .ref r)] W kB [(l, listOf vs.toArray n), (r, listOf #[.int s0 t0, .int s1 t1, .int s2 t2] nr)] ?kn ?k6 ?k7 ?k8 ?k9 ?kB ?kD ?_ ?c2 ?c3 ?c4
  case kn => exact List.forall_mem_cons.mpr ⟨⟨hl, hlB⟩, List.forall_mem_cons.mpr ⟨⟨hr, hrB⟩, fun _ h => nomatch h⟩⟩
  case k6 => k_is
  case k7 => k_is
  case k8 => k_room
  case k9 => exact BindsTo.of_eq rfl
  case kD => decide +kernel
  case kB => exact rfl
  case c2 => exact rfl
  case c3 => exact rfl
  case c4 => exact rfl
  intro g L h₁ tk cells F N Y Wg hk hL
  have X := Wg.X
  obtain ⟨p9, l9, T⟩ := Wg.T
  clear X0
  k_cells Y
  have hlL : @LT.lt Nat instLTNat l L := hL l _ hl
  have hrL : @LT.lt Nat instLTNat r L := hL r _ hr
  rename_i o1 o2 d1 d2
  replace F : Fr g L h₁ (mp [(Str.ofString "left", .ref l)]) := frc F (by funext y; rfl)
  replace d1 : o1.data = .cell none := d1
  replace d2 : o2.data = .cell (some (.ref r)) := d2
  replace N : News g L h₁ [(L + 1 + 1, o1), (L + 1, o2), (l, listOf vs.toArray n), (r, listOf #[.int s0 t0, .int s1 t1, .int s2 t2] nr)] := N
  w_on
  k_steps
  refine Stop.go ?_
  rename Fr _ _ _ _ => F1
  rename News _ _ _ _ => N1
  rename (_ ∧ _) => l1
  refine For_invTF F1 ?_ (fun x => rfl) (by passes_own)
  k_steps
  refine Stop.go ?_
  rename IsRange _ _ _ _ _ _ _ _ => hrr
  rename Fr _ _ _ _ => F1
  rename News _ _ _ _ => N1
  rename_i lp _ _ _ _ _ _ _ _ _ _
  with_unfolding_all refine forRangeT (σ := List (Addr × Obj) × Obj × Nat) 6 (fun c => mp [(Str.ofString "pairs", .ref lp), (Str.ofString "left", .ref l)]) (fun c => (lp, listOf (c.1.map fun p => Value.ref p.1).toArray c.2.2) :: (L + 1 + 1, c.2.1) :: (L + 1, o2) :: (l, listOf vs.toArray n) :: (r, listOf #[.int s0 t0, .int s1 t1, .int s2 t2] nr) :: c.1) (fun i c => c.1.length = i ∧ (∃ x, c.2.1.data = .cell x) ∧ (∀ p ∈ c.1, @LT.lt Nat instLTNat lp p.1 ∧ @LT.lt Nat instLTNat (L + 1 + 1) p.1) ∧ ∀ j p, c.1[j]? = some p → IsPair (cmp1 lf (pick3 s0 s1 s2)) j p.2) ([], o1, 0) rfl rfl hrr (by decide) (by decide) (frc F1 (by ktn_open)) N1 ⟨rfl, ⟨_, d1⟩, (fun p hp => nomatch hp), fun j p hp => nomatch hp⟩ ?_ ?_ ?_
  · intro I s' v Q' hq
    exact wpAny_pure hq
  · intro I i
    refine al_LxxxR ?_
    intro cl oc nl h tk t s₁ hne hi hP9 F N
    first | refine hideT fun Q9 hq9 => ?_ | refine hideQ fun Q9 hq9 => ?_
    obtain ⟨hcl, ⟨xc, hxc⟩, hab, hpr⟩ := hP9
    dsimp only at hcl hne hxc hab hpr F N
    have hlp := l1
    clear hrr F1 N1
    obtain ⟨t1', hv1⟩ := hT (i + 1) (by omega)
    have hv1' : vs[(1 + (i : Int)).toNat]? = some (.int (lf (i + 1)) t1') := by rw [show (1 + (i : Int)).toNat = i + 1 by omega]; exact hv1
    simp only [List.forall_mem_cons] at hne
    obtain ⟨ne1, ne2, ne3, ne4, ne5, ne6⟩ := hne
    have hA1 : ∀ p ∈ cl, p.1 ≠ lp := fun p hp => Nat.ne_of_gt (hab p hp).1
    have hA2 : ∀ p ∈ cl, p.1 ≠ L + 1 + 1 := fun p hp => Nat.ne_of_gt (hab p hp).2
    k_steps
    refine Stop.go ?_
    rename Fr _ _ _ _ => F1
    rename News _ _ _ _ => N1
    rename Obj => oc'
    rename (oc'.data = _) => dc'
    with_unfolding_all refine restT_inv (n := 3) (fun _ : Unit => _) (fun j ys _ => Jc (pick3 s0 s1 s2) (i + 1) j ys) ?turn ?fin 3 0 [] () rfl ⟨[], .nil, rfl, Nat.le_refl _, fun _ h => nomatch h⟩
    case turn =>
      rintro j ys _ v I2 oI C oC D m₂ h2 tk2 E' hj hJ ⟨tv, rfl⟩ hC hx F2 N2 off2 ne2
      clear F1 N1 F N
      have hj3 : j = 0 ∨ j = 1 ∨ j = 2 := by omega
      rcases hj3 with rfl | rfl | rfl
      · k_steps
        · exact LCg.CompEnd.intro F2 N2 _ (fun _ h => h) off2 trivial ⟨(), fun _ h => h, trivial, hJ.t (j := 0) hb0 (by assumption)⟩
        · exact LCg.CompEnd.intro F2 N2 _ (fun _ h => h) off2 trivial ⟨(), fun _ h => h, trivial, hJ.f (j := 0) (by assumption)⟩
      · k_steps
        · exact LCg.CompEnd.intro F2 N2 _ (fun _ h => h) off2 trivial ⟨(), fun _ h => h, trivial, hJ.t (j := 1) hb1 (by assumption)⟩
        · exact LCg.CompEnd.intro F2 N2 _ (fun _ h => h) off2 trivial ⟨(), fun _ h => h, trivial, hJ.f (j := 1) (by assumption)⟩
      · k_steps
        · exact LCg.CompEnd.intro F2 N2 _ (fun _ h => h) off2 trivial ⟨(), fun _ h => h, trivial, hJ.t (j := 2) hb2 (by assumption)⟩
        · exact LCg.CompEnd.intro F2 N2 _ (fun _ h => h) off2 trivial ⟨(), fun _ h => h, trivial, hJ.f (j := 2) (by assumption)⟩
    case fin =>
      rintro ys _ ⟨ns, hns, hsum, hlen, hbd⟩
      clear F1 N1 F N
      k_steps
      refine Stop.go ?_
      rename Fr _ _ _ _ => F1
      rename News _ _ _ _ => N1
      rename_i Dys _ _ o1' _ _ _ Dt _ l1'
      obtain ⟨q1, q2, q3, q4, q5, q6, q7, q8⟩ := l1'
      obtain ⟨w1, w2, w3, w4, w5, w6, w7⟩ := o1'
      obtain ⟨tq, N1⟩ : ∃ tq, News g L _ ((Dt, tupO (.int (lf (i + 1) - ns.sum) tq) (.int (1 + (i : Int)) t)) :: _) := ⟨_, N1⟩
      refine append_K F1 N1 (.tail (Nat.ne_of_gt q3) (.tail (Ne.symm w2) (.tail (Ne.symm ne1) (.head ?U)))) (fun h9 F9 N9 => ?_) (size_small (by simp; omega))
      · exact List.forall_mem_cons.mpr ⟨Nat.ne_of_lt hlp.1, List.forall_mem_cons.mpr ⟨Nat.ne_of_lt hlp.2.1, List.forall_mem_cons.mpr ⟨Nat.ne_of_lt hlp.2.2.1, List.forall_mem_cons.mpr ⟨Nat.ne_of_lt hlp.2.2.2, hA1⟩⟩⟩⟩
      clear F1 N1
      k_steps
      have epush : (List.map (fun p => Value.ref p.fst) cl).toArray.push (Value.ref Dt) = (List.map (fun p : Addr × Obj => Value.ref p.fst) (cl ++ [(Dt, tupO (.int (lf (i + 1) - ns.sum) tq) (.int (1 + (i : Int)) t))])).toArray := by rw [List.map_append, List.push_toArray]; rfl
      rw [epush] at N9
      refine hq9 _ _ ⟨rfl, h9, _, (cl ++ [(Dt, tupO (.int (lf (i + 1) - ns.sum) tq) (.int (1 + (i : Int)) t))], oc', nl + 1), rfl, F9, ?_, ?_, ?_, ⟨_, dc'⟩, ?_, ?_⟩
      · intro p hp
        refine N9 p ?_
        rcases List.mem_cons.mp hp with rfl | hp
        · k_mem
        rcases List.mem_cons.mp hp with rfl | hp
        · k_mem
        rcases List.mem_cons.mp hp with rfl | hp
        · k_mem
        rcases List.mem_cons.mp hp with rfl | hp
        · k_mem
        rcases List.mem_cons.mp hp with rfl | hp
        · k_mem
        rcases List.mem_cons.mp hp with rfl | hp
        · k_mem
        rcases List.mem_append.mp hp with hp | hp
        · exact .tail _ (.tail _ (.tail _ (.tail _ (.tail _ (.tail _ (.tail _ (.tail _ hp)))))))
        · rw [List.mem_singleton.mp hp]; exact .head _
      · exact List.forall_mem_cons.mpr ⟨ne1, List.forall_mem_cons.mpr ⟨ne2, List.forall_mem_cons.mpr ⟨ne3, List.forall_mem_cons.mpr ⟨ne4, List.forall_mem_cons.mpr ⟨ne5, List.forall_mem_append.mpr ⟨ne6, List.forall_mem_cons.mpr ⟨Nat.ne_of_gt q2, fun _ h => nomatch h⟩⟩⟩⟩⟩⟩⟩
      · show (cl ++ [_]).length = i + 1
        rw [List.length_append, List.length_singleton, hcl]
      · exact List.forall_mem_append.mpr ⟨hab, List.forall_mem_cons.mpr ⟨⟨q3, q4⟩, fun _ h => nomatch h⟩⟩
      · intro j p hj
        dsimp only at hj
        by_cases hjl : j < cl.length
        · rw [List.getElem?_append_left hjl] at hj
          exact hpr j p hj
        · rw [List.getElem?_append_right (Nat.not_lt.mp hjl)] at hj
          have e0 : j - cl.length = 0 := by
            cases e : j - cl.length with
            | zero => rfl
            | succ k => rw [e] at hj; cases hj
          rw [e0] at hj
          have e1 : p = _ := (Option.some.inj hj).symm
          have e2 : j = i := by omega
          subst e1 e2
          exact ⟨_, _, by rw [hsum]; rfl⟩
  · clear F1 N1
    refine al_LxxxR ?_
    intro cl oc nl h tk hP9 F N
    obtain ⟨hcl, ⟨xc, hxc⟩, hab, hpr⟩ := hP9
    dsimp only at hcl hxc hab hpr F N
    k_steps
    refine hQ _ _ lp cl nl (kp_end F N hk (List.forall_mem_cons.mpr ⟨hl, List.forall_mem_cons.mpr ⟨hr, fun _ h => nomatch h⟩⟩) (List.forall_mem_cons.mpr ⟨by k_mem, List.forall_mem_cons.mpr ⟨by k_mem, fun _ h => nomatch h⟩⟩)) hcl (fun j p hj => ?_) (N _ (.head _)).1 (fresh_of N (.head _) hk (List.forall_mem_cons.mpr ⟨Nat.ne_of_lt l1.2.2.1, List.forall_mem_cons.mpr ⟨Nat.ne_of_lt l1.2.2.2, fun _ h => nomatch h⟩⟩))
    have hm : p ∈ cl := List.mem_of_getElem? hj
    have hm' : p ∈ (lp, listOf (cl.map fun p => Value.ref p.1).toArray nl) :: (L + 1 + 1, oc) :: (L + 1, o2) :: (l, listOf vs.toArray n) :: (r, listOf #[.int s0 t0, .int s1 t1, .int s2 t2] nr) :: cl := .tail _ (.tail _ (.tail _ (.tail _ (.tail _ hm))))
    have hlt := (hab p hm).1
    refine ⟨hpr j p hj, (N p hm').1, fresh_of N (o := p.2) hm' hk (List.forall_mem_cons.mpr ⟨Nat.ne_of_lt (Nat.lt_trans l1.2.2.1 hlt), List.forall_mem_cons.mpr ⟨Nat.ne_of_lt (Nat.lt_trans l1.2.2.2 hlt), fun _ h => nomatch h⟩⟩)⟩
end
section
set_option maxHeartbeats 4000000
open PySem PySem.W PySem.Calls PyProof.Rows
theorem fillS14 : PySem.Challenge.rw_uc0030_01 = PySem.Challenge.rw_uc0030_01 ∧ Mine.hd.heap_1 = Mine.hd.heap_1 := by k_fill; exact ⟨rfl, rfl⟩
noncomputable def codeV : Array Nat := #[14, 14, 4, 1, 1, 9, 4294966783, 0, 0, 2147483648, 0, 0, 0, 0, 0, 13, 11, 9, 4294966783, 0, 0, 2147483648, 0, 0, 0, 0, 0, 1]
noncomputable def codeN : Array Nat := #[14, 10, 4, 1, 1, 22, 0, 31, 16, 127, 0, 13, 7, 22, 0, 31, 16, 127, 0, 1]
noncomputable def codeW (nm : Bool) : Array Nat := if nm then codeN else codeV
noncomputable def Clean (nm : Bool) (x : Str) : Prop := x.cps.size < 2 ^ 60 ∧ ∀ c ∈ x.cps, ReNo (codeW nm) c
theorem no_V32 : ReNo codeV 32 := by intro seen; kernel_rfl
theorem no_V120 : ReNo codeV 120 := by intro seen; kernel_rfl
theorem no_N97 : ReNo codeN 97 := by intro seen; kernel_rfl
theorem no_N98 : ReNo codeN 98 := by intro seen; kernel_rfl
theorem no_N65 : ReNo codeN 65 := by intro seen; kernel_rfl
theorem no_N66 : ReNo codeN 66 := by intro seen; kernel_rfl
theorem clean_spc {n : Nat} (h : n < 100000) : Clean false (spc n) := ⟨by show ((List.replicate n 32).toArray).size < _; simp; omega, fun c hc => by
  have : c = 32 := by
    have hc : c ∈ (List.replicate n 32).toArray := hc
    simp at hc
    exact hc.2
  rw [this]; exact no_V32⟩
theorem clean_blk {n : Nat} (h : n < 100000) : Clean false (blk n 0) := ⟨by show ((blkL n 0).toArray).size < _; unfold blkL; simp; omega, fun c hc => by
  have : c = 32 ∨ c = 120 := by
    have hc : c ∈ (blkL n 0).toArray := hc
    unfold blkL at hc
    simp at hc
    rcases hc with hc | hc
    · exact .inl hc.2
    · exact .inr hc
  rcases this with rfl | rfl
  · exact no_V32
  · exact no_V120⟩
theorem clean_nm {x : Str} (h : x = Str.ofString "a" ∨ x = Str.ofString "ab" ∨ x = Str.ofString "b" ∨ x = Str.ofString "A" ∨ x = Str.ofString "AB" ∨ x = Str.ofString "B") : Clean true x := by
  have key : ∀ l : List Nat, l.length < 5 → (∀ c ∈ l, c = 97 ∨ c = 98 ∨ c = 65 ∨ c = 66) → Clean true ⟨l.toArray⟩ := fun l hl hc => ⟨by show l.toArray.size < _; simp; omega, fun c hm => by
    have hm : c ∈ l := by simpa using hm
    rcases hc c hm with rfl | rfl | rfl | rfl
    · exact no_N97
    · exact no_N98
    · exact no_N65
    · exact no_N66⟩
  rcases h with rfl | rfl | rfl | rfl | rfl | rfl
  · rw [show Str.ofString "a" = ⟨[97].toArray⟩ by decide +kernel]; exact key _ (by decide) (by decide)
  · rw [show Str.ofString "ab" = ⟨[97, 98].toArray⟩ by decide +kernel]; exact key _ (by decide) (by decide)
  · rw [show Str.ofString "b" = ⟨[98].toArray⟩ by decide +kernel]; exact key _ (by decide) (by decide)
  · rw [show Str.ofString "A" = ⟨[65].toArray⟩ by decide +kernel]; exact key _ (by decide) (by decide)
  · rw [show Str.ofString "AB" = ⟨[65, 66].toArray⟩ by decide +kernel]; exact key _ (by decide) (by decide)
  · rw [show Str.ofString "B" = ⟨[66].toArray⟩ by decide +kernel]; exact key _ (by decide) (by decide)
local macro_rules | `(tactic| walk_at "getMethod ref") => `(tactic| (with_reducible show wpAny _ _ (getMethod (Value.ref _) (Str.ofString "search") _) _ _ _; refine stop_of ?_))
local macro_rules | `(tactic| walk_at $k:str) => if ["call builtin:re.Pattern.search"].contains k.getString then `(tactic| refine stop_of ?_) else Lean.Macro.throwUnsupported
theorem conv_call {w : World} {mean : ExcName → Option Value} {mg mb : Str → Option Value} {B : Heap} {dp un : Nat} {fr : Option (List Env)} {gd : Option (List Code)} {s : Shared} {Q : Value → Shared → Prop} (W : Wd w mean mg mb B) (kB : Kp B s.heap)
   (hd : dp + 4 < recursionLimit) (hu : un + 40 < cLine) (sv : Value) (x : Str) (t : Tok) (nm : Bool) (hc : Clean nm x)
   (hQ : ∀ h' tk', Kp s.heap h' → Q (.str x t) { s with heap := h', toks := tk' }) :
  codeAny (model prg w) (Ar dp fr gd un) (.call (.ref 117) ⟨[sv, .str x t], [(Str.ofString "name", .bool nm)]⟩) (fun r s' => match r with | .ok (.ret v) => Q v s' | _ => False) s := by
  have X0 := W.X
  refine' enterN [(Str.ofString "self", sv), (Str.ofString "value", .str x t), (Str.ofString "name", .bool nm)] W kB [] ?kn ?k6 ?k7 ?k8 ?k9 ?kB ?_ ?c2 ?c3 ?c4 ?c5
  case kn => exact fun _ h => nomatch h
  case k6 => k_is
  case k7 => k_is
  case k8 => k_room
  case k9 => exact BindsTo.of_eq rfl
  case c5 => decide
  case kB => exact locs rfl
  case c2 => exact rfl
  case c3 => exact rfl
  case c4 => exact rfl
  intro g L h₁ F N Wg hk hL
  have X := Wg.X
  obtain ⟨p9, l9, T⟩ := Wg.T
  clear X0
  replace F : Fr g L h₁ (mp [(Str.ofString "name", .bool nm), (Str.ofString "value", .str x t), (Str.ofString "self", sv)]) := F
  w_on
  cases nm
  · k_steps
    refine Stop.go ?_
    rename Fr _ _ _ _ => F0
    refine re_getm (F0.keep _ _ (X 87 _ (by k_is))) ?_
    k_steps
    refine Stop.go ?_
    rename Fr _ _ _ _ => F1
    rename News _ _ _ _ => N1
    refine re_call' (T := 86) (code := codeV) (F1.keep _ _ (X 87 _ (by k_is))) (F1.keep _ _ (X 86 _ (by k_is))) rfl rfl rfl rfl hc.1 (by decide +kernel) (by decide +kernel) hc.2 ?_
    k_steps
    rename Fr _ _ _ _ => F1
    rename News _ _ _ _ => N1
    exact hQ _ _ (kp_end F1 N1 hk (fun _ h => nomatch h) fun _ h => nomatch h)
  · k_steps
    refine Stop.go ?_
    rename Fr _ _ _ _ => F0
    refine re_getm (F0.keep _ _ (X 82 _ (by k_is))) ?_
    k_steps
    refine Stop.go ?_
    rename Fr _ _ _ _ => F1
    rename News _ _ _ _ => N1
    refine re_call' (T := 81) (code := codeN) (F1.keep _ _ (X 82 _ (by k_is))) (F1.keep _ _ (X 81 _ (by k_is))) rfl rfl rfl rfl hc.1 (by decide +kernel) (by decide +kernel) hc.2 ?_
    k_steps
    rename Fr _ _ _ _ => F1
    rename News _ _ _ _ => N1
    exact hQ _ _ (kp_end F1 N1 hk (fun _ h => nomatch h) fun _ h => nomatch h)
theorem conv_wp {w : World} {mean : ExcName → Option Value} {mg mb : Str → Option Value} {A : Around} {s : Shared} {Q : Value → Shared → Prop} {E : Value → Shared → Prop} {h₀ : Heap} {L : Addr} {m : Str → Option Value} {news : List (Addr × Obj)} {sv : Value} {x : Str} {t : Tok} {nm : Bool}
   (hA : A.handled = none) (W : Wd w mean mg mb h₀) (F : Fr h₀ L s.heap m) (N : News h₀ L s.heap news) (hd : A.depth + 4 < recursionLimit) (hu : A.units + 40 < cLine) (hc : Clean nm x)
   (hQ : ∀ h' tk', Fr h₀ L h' m → News h₀ L h' news → Q (.str x t) { s with heap := h', toks := tk' }) :
   wpAny (model prg w) A (call (.ref 117) [sv, .str x t] [(Str.ofString "name", .bool nm)]) Q E s := by
  rw [ar_of hA]
  exact call_of (conv_call W F.keep hd hu sv x t nm hc fun h' tk' kp => hQ h' tk' (Fr.keeps F kp) (News.grown N kp))
end
section
set_option maxHeartbeats 4000000
open PySem PySem.W PySem.Calls PyProof.Rows
theorem fillS11 : PySem.Challenge.rw_uc0030_01 = PySem.Challenge.rw_uc0030_01 ∧ Mine.hd.heap_1 = Mine.hd.heap_1 := by k_fill; exact ⟨rfl, rfl⟩
local macro_rules | `(tactic| walk_at $k:str) => if ["exec For", "call ref", "eval Lambda", "pyIter ref"].contains k.getString then `(tactic| refine stop_of ?_) else Lean.Macro.throwUnsupported
local macro_rules | `(tactic| k_all) => `(tactic| with_reducible assumption)
theorem allLt_mem {d : Nat} : ∀ {l : List (Addr × Obj)}, AllLt d l → ∀ p ∈ l, @LT.lt Nat instLTNat p.1 d
  | [], _, _, hq => nomatch hq
  | p :: r, h, q, hq => by
    have h : @LT.lt Nat _ p.1 d ∧ AllLt d r := h
    rcases List.mem_cons.mp hq with e | hq
    · rw [e]; exact h.1
    · exact allLt_mem h.2 q hq
noncomputable def ad (cl : List (Addr × Obj)) (j : Nat) : Addr := match cl[j]? with | some p => p.1 | none => 0
theorem ad_eq {cl : List (Addr × Obj)} {j : Nat} {p : Addr × Obj} (h : cl[j]? = some p) : ad cl j = p.1 := by unfold ad; rw [h]
noncomputable def LexLt (κ : Nat → Int) (a b : Nat) : Prop := κ a < κ b ∨ (κ a = κ b ∧ a < b)
theorem lex_mono {f : Nat → Int} {ord : List Nat} (h : ord.Pairwise (LexLt fun j => - f (j + 1))) {a b : Nat} (hab : a ≤ b) (hb : b < ord.length) : - f (ord.getD a 0 + 1) ≤ - f (ord.getD b 0 + 1) := by
  rcases Nat.eq_or_lt_of_le hab with rfl | hlt
  · exact Int.le_refl _
  · have := List.pairwise_iff_getElem.mp h a b (Nat.lt_trans hlt hb) hb hlt
    rw [List.getD_eq_getElem?_getD, List.getD_eq_getElem?_getD, List.getElem?_eq_getElem hb, List.getElem?_eq_getElem (Nat.lt_trans hlt hb)]
    show - f (ord[a] + 1) ≤ - f (ord[b] + 1)
    rcases this with h | ⟨h, _⟩
    · exact Int.le_of_lt h
    · exact Int.le_of_eq h
theorem lay_ins {κ : Nat → Int} {ord : List Nat} {i r : Nat} (hp : ord.Perm (List.range i)) (hw : ord.Pairwise (LexLt κ)) (h1 : ∀ j k, j < r → ord[j]? = some k → κ k ≤ κ i) (h2 : ∀ j k, r ≤ j → ord[j]? = some k → κ i < κ k) :
    (ord.take r ++ i :: ord.drop r).Perm (List.range (i + 1)) ∧ (ord.take r ++ i :: ord.drop r).Pairwise (LexLt κ) := by
  have hom : ∀ k ∈ ord, k < i := fun k hk => by have := hp.mem_iff.mp hk; simpa using this
  constructor
  · refine List.perm_middle.trans ?_
    rw [List.take_append_drop, List.range_succ]
    exact (hp.cons i).trans (List.perm_append_singleton i _).symm
  · have hw' := hw
    rw [← List.take_append_drop r ord] at hw'
    obtain ⟨a1, a2, a3⟩ := List.pairwise_append.mp hw'
    refine List.pairwise_append.mpr ⟨a1, List.pairwise_cons.mpr ⟨fun k hk => ?_, a2⟩, fun a ha b hb => ?_⟩
    · obtain ⟨j, hj⟩ := List.getElem?_of_mem hk
      rw [List.getElem?_drop] at hj
      exact .inl (h2 _ k (Nat.le_add_right _ _) hj)
    · rcases List.mem_cons.mp hb with rfl | hb
      · obtain ⟨j, hj⟩ := List.getElem?_of_mem ha
        rw [List.getElem?_take] at hj
        split at hj
        · rename_i hjr
          have h3 := h1 j a hjr hj
          rcases Int.lt_or_eq_of_le h3 with h | h
          · exact .inl h
          · exact .inr ⟨h, hom a (List.mem_of_mem_take ha)⟩
        · cases hj
      · exact a3 a ha b hb
theorem insort_wp {w : World} {mean : ExcName → Option Value} {mg mb : Str → Option Value} {A : Around} {s : Shared} {Q E : Value → Shared → Prop} {h₀ : Heap}
   (a f p : Addr) (vs : List Value) (n : Nat) (κ : Nat → Int) (κx : Int) (d u' : Nat) (hA : A.handled = none) (W : Wd w mean mg mb h₀) (kB : Kp h₀ s.heap) (hd : A.depth + d + 5 < recursionLimit) (hu : A.units + u' + 40 < cLine) (hlen : vs.length < 900) (hκ : ∀ i, -1000 < κ i ∧ κ i < 1000) (hκx : -1000 < κx ∧ κx < 1000)
   (hl : s.heap.get? a = some (listOf vs.toArray n)) (hlB : h₀.get? a = none) (oc : Value) (od : Option Addr) (fd : FuncData) (sl : Array (Option Value)) (hf : s.heap.get? f = some ⟨oc, od, .func fd, sl⟩) (hfB : h₀.get? f = none)
   (hkey : KeyOk w s.heap f vs κ d u') (hkeyx : KeyOk w s.heap f [.ref p] (fun _ => κx) d u') (hmono : ∀ i j, i ≤ j → j < vs.length → κ i ≤ κ j)
   (hQ : ∀ h' tk' r n', (∀ b o, b ≠ a → s.heap.get? b = some o → h'.get? b = some o) → h'.get? a = some (listOf (vs.take r ++ .ref p :: vs.drop r).toArray n') → r ≤ vs.length → (∀ i, i < r → κ i ≤ κx) → (∀ i, r ≤ i → i < vs.length → κx < κ i) → Q .none { s with heap := h', toks := tk' }) :
   wpAny (model prg w) A (call (.ref 54) [.ref a, .ref p] [(Str.ofString "key", .ref f)]) Q E s := by
  rw [ar_of hA]
  exact call_of (insort_call W kB a f p vs n κ κx d u' hd hu hlen hκ hκx hl hlB oc od fd sl hf hfB hkey hkeyx hmono hQ)
theorem laid_call {w : World} {mean : ExcName → Option Value} {mg mb : Str → Option Value} {B : Heap} {dp un : Nat} {fr : Option (List Env)} {gd : Option (List Code)} {s : Shared} {Q : Value → Shared → Prop} (W : Wd w mean mg mb B) (kB : Kp B s.heap)
   (hd : dp + 12 < recursionLimit) (hu : un + 120 < cLine) (l : Addr) (n : Nat) (cl : List (Addr × Obj)) (f : Nat → Int) (hf : ∀ j, -900 < f j ∧ f j < 900) (hlen : cl.length = 6) (hcl : ∀ j p, cl[j]? = some p → IsPair f j p.2) 
   (hcs : ∀ p ∈ cl, s.heap.get? p.1 = some p.2 ∧ B.get? p.1 = none)
   (hl : s.heap.get? l = some (listOf (cl.map fun p => Value.ref p.1).toArray n)) (hlB : B.get? l = none) (ht : s.heap.get? 288 = some (tabObj #[])) (htB : B.get? 288 = none)
   (hQ : ∀ h' tk' R ord n' tab, (∀ b o, b ≠ 288 → s.heap.get? b = some o → h'.get? b = some o) → h'.get? 288 = some (tabObj tab) → List.Perm ord (List.range 6) → ord.Pairwise (LexLt fun j => - f (j + 1)) → h'.get? R = some (listOf (ord.map fun j => Value.ref (ad cl j)).toArray n') → s.heap.get? R = none → Q (.ref R) { s with heap := h', toks := tk' }) :
  codeAny (model prg w) (Ar dp fr gd un) (.call (.ref 293) ⟨[.ref l], []⟩) (fun r s' => match r with | .ok (.ret v) => Q v s' | _ => False) s := by
  have X0 := W.X
  refine' enterN [(Str.ofString "pairs", .ref l)] W kB ((l, listOf (cl.map fun p => Value.ref p.1).toArray n) :: (288, tabObj #[]) :: cl) ?kn ?k6 ?k7 ?k8 ?k9 ?kB ?_ ?c2 ?c3 ?c4 ?c5
  case kn => exact List.forall_mem_cons.mpr ⟨⟨hl, hlB⟩, List.forall_mem_cons.mpr ⟨⟨ht, htB⟩, hcs⟩⟩
  case k6 => k_is
  case k7 => k_is
  case k8 => k_room
  case k9 => exact BindsTo.of_eq rfl
  case c5 => decide
  case kB => exact locs rfl
  case c2 => exact rfl
  case c3 => exact rfl
  case c4 => exact rfl
  intro g L h₁ F N Wg hk hL
  have X := Wg.X
  obtain ⟨p9, l9, T⟩ := Wg.T
  clear X0
  replace F : Fr g L h₁ (mp [(Str.ofString "pairs", .ref l)]) := F
  w_on
  have hlL : @LT.lt Nat instLTNat l L := hL l _ hl
  have h2L : @LT.lt Nat instLTNat 288 L := hL 288 _ ht
  have hne2 : @Ne Nat l 288 := fun q => by rw [show l = (288 : Addr) from q, ht] at hl; cases hl
  have hclL : ∀ p ∈ cl, @LT.lt Nat instLTNat p.1 L := fun p hp => hL _ _ (hcs p hp).1
  have hC : CodeHd g 292 288 := codeHd_of_K X (by kernel_rfl)
  k_steps
  refine Stop.go ?_
  rename Fr _ _ _ _ => F1
  rename News _ _ _ _ => N1
  rename_i R _ l1 _
  obtain ⟨m1, m2, m3⟩ := l1
  refine For_invTF F1 ?_ (fun x => rfl) (by passes_own)
  k_steps
  refine Stop.go ?_
  rename Fr _ _ _ _ => F1
  rename News _ _ _ _ => N1
  have hA2 : ∀ p ∈ cl, p.1 ≠ 288 := fun p hp q => by
    have z := (hcs p hp).1
    rw [q, ht] at z
    obtain ⟨j, hj⟩ := List.getElem?_of_mem hp
    obtain ⟨t, u, e⟩ := hcl j p hj
    rw [e] at z
    injection (Option.some.inj z) with z1 z2 z3
    cases z1
  have hRc : ∀ p ∈ cl, p.1 ≠ R := fun p hp => Nat.ne_of_lt (allLt_mem m3 p hp)
  with_unfolding_all refine forListT (ax := l) (its := (cl.map fun p => Value.ref p.1).toArray) (σ := List Nat × Nat × Option Value × Array Value × List (Addr × Obj)) (fun c => mo1 (Str.ofString "pair") c.2.2.1 (mp [(Str.ofString "row", .ref R), (Str.ofString "pairs", .ref l)])) (fun c => (R, listOf (c.1.map fun j => Value.ref (ad cl j)).toArray c.2.1) :: (l, listOf (cl.map fun p => Value.ref p.1).toArray n) :: (288, tabObj c.2.2.2.1) :: (c.2.2.2.2 ++ cl)) (fun i c => List.Perm c.1 (List.range i) ∧ c.1.Pairwise (LexLt fun j => - f (j + 1)) ∧ ((i = 0 ∧ c.2.2.2 = (#[], [])) ∨ ∃ c' oc vs t, c.2.2.2 = (#[rawInt 222, rawInt 36, .ref c'], [(c', oc)]) ∧ oc.data = .fields vs ∧ vs[1]? = some (.str (Str.ofString "_law_laid.<locals>.<lambda>") t) ∧ c' ≠ R)) ([], 0, none, #[], []) rfl rfl (by is_list) (.inr ⟨_, fun c => .tail _ (.head _)⟩) (frc F1 (by ktn_open)) N1 ⟨.nil, .nil, .inl ⟨rfl, rfl⟩⟩ ?_ ?_ ?_
  · intro I s' v Q' hq
    exact wpAny_pure hq
  · intro I i
    refine al_LxxxxxR ?_
    intro ord nl pv ps code h tk v oI s₁ hne hi hv hP9 F N
    first | refine hideT fun Q9 hq9 => ?_ | refine hideQ fun Q9 hq9 => ?_
    obtain ⟨hperm, hpw, hcode⟩ := hP9
    dsimp only at hperm hpw hcode hne F N
    clear F1 N1
    have hi6 : i < cl.length := by simpa using hi
    obtain ⟨pi, hpi⟩ : ∃ p, cl[i]? = some p := ⟨_, List.getElem?_eq_getElem hi6⟩
    have hvp : v = .ref pi.1 := by
      have : (cl.map fun p => Value.ref p.1)[i]? = some v := by simpa using hv
      rw [List.getElem?_map, hpi] at this
      exact (Option.some.inj this).symm
    subst hvp
    simp only [List.forall_mem_cons] at hne
    obtain ⟨ne1, ne2, ne3, ne4⟩ := hne
    rcases hcode with ⟨rfl, hc0⟩ | ⟨c', oc', vs', t', hc0, hd1, hd2, hcR⟩
    · cases hc0
      simp only [List.nil_append] at N ne4
      k_steps
      refine Stop.go ?_
      rename Fr _ _ _ _ => F1
      rename News _ _ _ _ => N1
      k_dflt (refine' kla_eval ?d0 ?_; (case d0 => exact rfl)); (k_dflt (refine' kla_nest ?F ?N ?T ?C ?cd ?U ?tq ?nq ?clq ?_; (case F => k_asm); (case N => k_asm); (case T => k_asm); (case cd => exact rfl); (case C => assumption); (case U => k_updF); (case tq => kn_triples); (case nq => kn_among); (case clq => exact rfl); k_whole))
      intro fa c' oc' vs' t' ct' h2 tk2 F2 N2 hd1 hd2 l1 l2
      dsimp only at N2
      clear F1 N1
      have hsub : ∀ p ∈ cl, h2.get? p.1 = some p.2 ∧ p.1 ≠ L ∧ g.get? p.1 = none := fun p hp => N2 p (.tail _ (.tail _ (.tail _ (.tail _ (.tail _ (.tail _ hp))))))
      have hcR : c' ≠ R := Nat.ne_of_gt (l1 (R, _) (by k_mem))
      have hcI : c' ≠ I := Nat.ne_of_gt (l1 (I, _) (by k_mem))
      have hfN := N2 _ (List.Mem.head _)
      have hkey : ∀ (vs : List Value) (κ : Nat → Int), (∀ j v, vs[j]? = some v → ∃ k, v = .ref (ad cl k) ∧ k < 6 ∧ κ j = - f (k + 1)) → KeyOk w h2 fa vs κ 4 30 := by
        intro vs κ hvs j v hj A s' Q' E' hA hd hu hk' hq
        obtain ⟨k, rfl, hk6, hκ⟩ := hvs j v hj
        obtain ⟨p, hp⟩ : ∃ p, cl[k]? = some p := ⟨_, List.getElem?_eq_getElem (by omega)⟩
        obtain ⟨t5, u5, e5⟩ := hcl k p hp
        have hpN := hsub p (List.mem_of_getElem? hp)
        rw [e5] at hpN
        rw [ad_eq hp, ar_of hA]
        refine call_of (enterLam0 (Str.ofString "one") _ Wg (Kp.trans F2.keep hk') [(p.1, tupO (.int (f (k + 1)) t5) (.int (1 + (k : Int)) u5))] ?kn (hk' _ _ hfN.1) ?kc (by k_room) ?kb rfl ?_ (by decide) rfl rfl rfl)
        case kn => exact List.forall_mem_cons.mpr ⟨⟨hk' _ _ hpN.1, hpN.2.2⟩, fun _ h => nomatch h⟩
        case kc => exact ⟨c', oc', vs', t', rfl, hk' _ _ (N2 (c', oc') (by k_mem)).1, hd1, hd2⟩
        case kb => exact rfl
        clear X T N2 F2
        intro g2 L2 h₁ tk F2 N2 Wg2 hk2 hL2
        have X := Wg2.X
        obtain ⟨p8, l8, T⟩ := Wg2.T
        w_on
        k_steps
        rename Fr _ _ _ _ => F3
        rename News _ _ _ _ => N3
        show Q' (.int (- f (k + 1)) _) _
        rw [← hκ]
        exact hq _ _ _ (kp_end F3 N3 hk2 (List.forall_mem_cons.mpr ⟨hk' _ _ hpN.1, fun _ h => nomatch h⟩) (List.forall_mem_cons.mpr ⟨by k_mem, fun _ h => nomatch h⟩))
      k_steps
      refine Stop.go ?_
      show wpAny _ _ (call (.ref 54) [.ref R, .ref pi.1] [(Str.ofString "key", .ref fa)]) _ _ _
      have hol : ord.length = 0 := by have := hperm.length_eq; simpa using this
      have hom : ∀ k ∈ ord, k < 0 := fun k hk => by have := hperm.mem_iff.mp hk; simpa using this
      refine insort_wp R fa pi.1 (ord.map fun j => Value.ref (ad cl j)) nl (fun j => - f (ord.getD j 0 + 1)) (- f (0 + 1)) 4 30 rfl Wg F2.keep (by k_room) (by (try simp only [units_in1, units_deeper, Around.mark_units]); (try dsimp only); omega) (by rw [List.length_map]; omega) (fun j => by have := hf (ord.getD j 0 + 1); omega) (by have := hf (0 + 1); omega) (N2 (R, _) (by k_mem)).1 (N2 (R, listOf (ord.map fun j => Value.ref (ad cl j)).toArray nl) (by k_mem)).2.2 _ _ _ _ hfN.1 hfN.2.2 (hkey _ _ ?hv1) (hkey _ _ ?hv2) ?hm fun h9 tk9 r n9 k9 hR9 hr9 ha9 hb9 => ?_
      case hv1 =>
        intro j v hj
        rw [List.getElem?_map] at hj
        cases ho : ord[j]? with
        | none => rw [ho] at hj; cases hj
        | some k =>
          rw [ho] at hj
          refine ⟨k, (Option.some.inj hj).symm, by have := hom k (List.mem_of_getElem? ho); omega, ?_⟩
          show - f (ord.getD j 0 + 1) = _
          rw [List.getD_eq_getElem?_getD, ho]; rfl
      case hv2 =>
        intro j v hj
        cases j with
        | zero => exact ⟨0, by rw [ad_eq hpi]; exact (Option.some.inj hj).symm, by omega, rfl⟩
        | succ j => cases hj
      case hm =>
        intro a b hab hb
        exact lex_mono hpw hab (by rw [List.length_map] at hb; exact hb)
      rw [List.length_map] at hr9 hb9
      obtain ⟨z1, z2⟩ := lay_ins (κ := fun j => - f (j + 1)) hperm hpw (r := r) (fun j k hj hk => by have := ha9 j hj; rw [List.getD_eq_getElem?_getD, hk] at this; exact this) (fun j k hj hk => by
        have := hb9 j hj (by have := (List.getElem?_eq_some_iff.mp hk).1; exact this)
        rw [List.getD_eq_getElem?_getD, hk] at this; exact this)
      have emap : (ord.map fun j => Value.ref (ad cl j)).take r ++ Value.ref pi.1 :: (ord.map fun j => Value.ref (ad cl j)).drop r = (ord.take r ++ 0 :: ord.drop r).map fun j => Value.ref (ad cl j) := by
        rw [List.map_append, List.map_cons, List.map_take, List.map_drop, ad_eq hpi]
      rw [emap] at hR9
      have hRN := N2 (R, listOf (ord.map fun j => Value.ref (ad cl j)).toArray nl) (by k_mem)
      have F9 := LCg.fr_but F2 (h' := h9) (I := R) (fun b o hb e => k9 b o (by simpa using hb) e) (Ne.symm hRN.2.1) hRN.2.2
      have K9 : ∀ (a : Addr) (o : Obj), (h2.get? a = some o ∧ a ≠ L ∧ g.get? a = none) → a ≠ R → h9.get? a = some o ∧ a ≠ L ∧ g.get? a = none := fun a o z ne => ⟨k9 _ _ ne z.1, z.2⟩
      k_steps
      refine hq9 _ _ ⟨rfl, h9, tk9, (ord.take r ++ 0 :: ord.drop r, n9, some (.ref pi.1), #[rawInt 222, rawInt 36, .ref c'], [(c', oc')]), rfl, frc F9 (by ktn_open), ?_, ?_, z1, z2, .inr ⟨c', oc', vs', t', rfl, hd1, hd2, hcR⟩⟩
      · refine List.forall_mem_cons.mpr ⟨K9 _ _ (N2 (I, oI) (by k_mem)) (Ne.symm ne1), List.forall_mem_cons.mpr ⟨⟨hR9, hRN.2⟩, List.forall_mem_cons.mpr ⟨K9 _ _ (N2 (l, _) (by k_mem)) (Nat.ne_of_lt m1), List.forall_mem_cons.mpr ⟨K9 _ _ (N2 (288, tabObj #[rawInt 222, rawInt 36, .ref c']) (by k_mem)) (Nat.ne_of_lt m2), List.forall_mem_cons.mpr ⟨K9 _ _ (N2 (c', oc') (by k_mem)) hcR, fun p hp => K9 _ _ (hsub p hp) (hRc p hp)⟩⟩⟩⟩⟩
      · exact List.forall_mem_cons.mpr ⟨ne1, List.forall_mem_cons.mpr ⟨ne2, List.forall_mem_cons.mpr ⟨ne3, List.forall_mem_cons.mpr ⟨hcI, ne4⟩⟩⟩⟩
    · cases hc0
      simp only [List.cons_append, List.nil_append, List.forall_mem_cons] at N ne4
      obtain ⟨hcI, ne4⟩ := ne4
      k_steps
      refine Stop.go ?_
      rename Fr _ _ _ _ => F1
      rename News _ _ _ _ => N1
      k_dflt (refine' kla_eval ?d0 ?_; (case d0 => exact rfl)); (k_dflt (refine' kla_hit ?F ?N ?T ?C ?cd ?mem ?tq ?nq ?clq ?_; (case F => k_asm); (case N => k_asm); (case T => k_asm); (case cd => exact rfl); (case C => assumption); (case mem => k_mem); (case tq => kn_triples); (case nq => kn_hit); (case clq => exact rfl); k_whole))
      intro fa ct' h2 tk2 F2 N2 l1
      clear F1 N1
      have hsub : ∀ p ∈ cl, h2.get? p.1 = some p.2 ∧ p.1 ≠ L ∧ g.get? p.1 = none := fun p hp => N2 p (.tail _ (.tail _ (.tail _ (.tail _ (.tail _ (.tail _ hp))))))
      have hfN := N2 _ (List.Mem.head _)
      have hkey : ∀ (vs : List Value) (κ : Nat → Int), (∀ j v, vs[j]? = some v → ∃ k, v = .ref (ad cl k) ∧ k < 6 ∧ κ j = - f (k + 1)) → KeyOk w h2 fa vs κ 4 30 := by
        intro vs κ hvs j v hj A s' Q' E' hA hd hu hk' hq
        obtain ⟨k, rfl, hk6, hκ⟩ := hvs j v hj
        obtain ⟨p, hp⟩ : ∃ p, cl[k]? = some p := ⟨_, List.getElem?_eq_getElem (by omega)⟩
        obtain ⟨t5, u5, e5⟩ := hcl k p hp
        have hpN := hsub p (List.mem_of_getElem? hp)
        rw [e5] at hpN
        rw [ad_eq hp, ar_of hA]
        refine call_of (enterLam0 (Str.ofString "one") _ Wg (Kp.trans F2.keep hk') [(p.1, tupO (.int (f (k + 1)) t5) (.int (1 + (k : Int)) u5))] ?kn (hk' _ _ hfN.1) ?kc (by k_room) ?kb rfl ?_ (by decide) rfl rfl rfl)
        case kn => exact List.forall_mem_cons.mpr ⟨⟨hk' _ _ hpN.1, hpN.2.2⟩, fun _ h => nomatch h⟩
        case kc => exact ⟨c', oc', vs', t', rfl, hk' _ _ (N2 (c', oc') (by k_mem)).1, hd1, hd2⟩
        case kb => exact rfl
        clear X T N2 F2
        intro g2 L2 h₁ tk F2 N2 Wg2 hk2 hL2
        have X := Wg2.X
        obtain ⟨p8, l8, T⟩ := Wg2.T
        w_on
        k_steps
        rename Fr _ _ _ _ => F3
        rename News _ _ _ _ => N3
        show Q' (.int (- f (k + 1)) _) _
        rw [← hκ]
        exact hq _ _ _ (kp_end F3 N3 hk2 (List.forall_mem_cons.mpr ⟨hk' _ _ hpN.1, fun _ h => nomatch h⟩) (List.forall_mem_cons.mpr ⟨by k_mem, fun _ h => nomatch h⟩))
      k_steps
      refine Stop.go ?_
      show wpAny _ _ (call (.ref 54) [.ref R, .ref pi.1] [(Str.ofString "key", .ref fa)]) _ _ _
      have hol : ord.length = i := by have := hperm.length_eq; simpa using this
      have hom : ∀ k ∈ ord, k < i := fun k hk => by have := hperm.mem_iff.mp hk; simpa using this
      refine insort_wp R fa pi.1 (ord.map fun j => Value.ref (ad cl j)) nl (fun j => - f (ord.getD j 0 + 1)) (- f (i + 1)) 4 30 rfl Wg F2.keep (by k_room) (by (try simp only [units_in1, units_deeper, Around.mark_units]); (try dsimp only); omega) (by rw [List.length_map]; omega) (fun j => by have := hf (ord.getD j 0 + 1); omega) (by have := hf (i + 1); omega) (N2 (R, _) (by k_mem)).1 (N2 (R, listOf (ord.map fun j => Value.ref (ad cl j)).toArray nl) (by k_mem)).2.2 _ _ _ _ hfN.1 hfN.2.2 (hkey _ _ ?hv1) (hkey _ _ ?hv2) ?hm fun h9 tk9 r n9 k9 hR9 hr9 ha9 hb9 => ?_
      case hv1 =>
        intro j v hj
        rw [List.getElem?_map] at hj
        cases ho : ord[j]? with
        | none => rw [ho] at hj; cases hj
        | some k =>
          rw [ho] at hj
          refine ⟨k, (Option.some.inj hj).symm, by have := hom k (List.mem_of_getElem? ho); omega, ?_⟩
          show - f (ord.getD j 0 + 1) = _
          rw [List.getD_eq_getElem?_getD, ho]; rfl
      case hv2 =>
        intro j v hj
        cases j with
        | zero => exact ⟨i, by rw [ad_eq hpi]; exact (Option.some.inj hj).symm, by omega, rfl⟩
        | succ j => cases hj
      case hm =>
        intro a b hab hb
        exact lex_mono hpw hab (by rw [List.length_map] at hb; exact hb)
      rw [List.length_map] at hr9 hb9
      obtain ⟨z1, z2⟩ := lay_ins (κ := fun j => - f (j + 1)) hperm hpw (r := r) (fun j k hj hk => by have := ha9 j hj; rw [List.getD_eq_getElem?_getD, hk] at this; exact this) (fun j k hj hk => by
        have := hb9 j hj (by have := (List.getElem?_eq_some_iff.mp hk).1; exact this)
        rw [List.getD_eq_getElem?_getD, hk] at this; exact this)
      have emap : (ord.map fun j => Value.ref (ad cl j)).take r ++ Value.ref pi.1 :: (ord.map fun j => Value.ref (ad cl j)).drop r = (ord.take r ++ i :: ord.drop r).map fun j => Value.ref (ad cl j) := by
        rw [List.map_append, List.map_cons, List.map_take, List.map_drop, ad_eq hpi]
      rw [emap] at hR9
      have hRN := N2 (R, listOf (ord.map fun j => Value.ref (ad cl j)).toArray nl) (by k_mem)
      have F9 := LCg.fr_but F2 (h' := h9) (I := R) (fun b o hb e => k9 b o (by simpa using hb) e) (Ne.symm hRN.2.1) hRN.2.2
      have K9 : ∀ (a : Addr) (o : Obj), (h2.get? a = some o ∧ a ≠ L ∧ g.get? a = none) → a ≠ R → h9.get? a = some o ∧ a ≠ L ∧ g.get? a = none := fun a o z ne => ⟨k9 _ _ ne z.1, z.2⟩
      k_steps
      refine hq9 _ _ ⟨rfl, h9, tk9, (ord.take r ++ i :: ord.drop r, n9, some (.ref pi.1), #[rawInt 222, rawInt 36, .ref c'], [(c', oc')]), rfl, frc F9 (by ktn_open), ?_, ?_, z1, z2, .inr ⟨c', oc', vs', t', rfl, hd1, hd2, hcR⟩⟩
      · refine List.forall_mem_cons.mpr ⟨K9 _ _ (N2 (I, oI) (by k_mem)) (Ne.symm ne1), List.forall_mem_cons.mpr ⟨⟨hR9, hRN.2⟩, List.forall_mem_cons.mpr ⟨K9 _ _ (N2 (l, _) (by k_mem)) (Nat.ne_of_lt m1), List.forall_mem_cons.mpr ⟨K9 _ _ (N2 (288, tabObj #[rawInt 222, rawInt 36, .ref c']) (by k_mem)) (Nat.ne_of_lt m2), List.forall_mem_cons.mpr ⟨K9 _ _ (N2 (c', oc') (by k_mem)) hcR, fun p hp => K9 _ _ (hsub p hp) (hRc p hp)⟩⟩⟩⟩⟩
      · exact List.forall_mem_cons.mpr ⟨ne1, List.forall_mem_cons.mpr ⟨ne2, List.forall_mem_cons.mpr ⟨ne3, List.forall_mem_cons.mpr ⟨hcI, ne4⟩⟩⟩⟩
  · refine al_LxxxxxR ?_
    intro ord nl pv ps code h tk hP9 F N
    obtain ⟨hperm, hpw, hcode⟩ := hP9
    dsimp only at hperm hpw hcode F N
    clear F1 N1
    have hsz : (cl.map fun p => Value.ref p.1).toArray.size = 6 := by rw [List.size_toArray, List.length_map, hlen]
    rw [hsz] at hperm
    k_steps
    refine hQ _ _ R ord nl ps (fun b o hb e => ?_) (N (288, tabObj ps) (by k_mem)).1 hperm hpw (N _ (.head _)).1 (fresh_of N (.head _) hk (List.forall_mem_cons.mpr ⟨Nat.ne_of_lt m1, List.forall_mem_cons.mpr ⟨Nat.ne_of_lt m2, hRc⟩⟩))
    by_cases hbn : b ∈ (((l, listOf (cl.map fun p => Value.ref p.1).toArray n) :: (288, tabObj #[]) :: cl).map (·.1))
    · obtain ⟨p, hp, rfl⟩ := List.mem_map.mp hbn
      rcases List.mem_cons.mp hp with rfl | hp
      · rw [hl] at e; cases e
        exact (N (l, _) (by k_mem)).1
      · rcases List.mem_cons.mp hp with rfl | hp
        · exact absurd rfl hb
        · rw [(hcs p hp).1] at e; cases e
          exact (N p (.tail _ (.tail _ (.tail _ (List.mem_append_right _ hp))))).1
    · exact F.keep b o (hk b o e hbn)
end
section
set_option maxHeartbeats 4000000
open PySem PySem.W PySem.Calls PyProof.Rows
theorem fillS13 : PySem.Challenge.rw_uc0030_01 = PySem.Challenge.rw_uc0030_01 ∧ Mine.hd.heap_1 = Mine.hd.heap_1 := by k_fill; exact ⟨rfl, rfl⟩
local macro_rules | `(tactic| walk_at $k:str) => if ["exec For", "exec For Name Call cons nil", "pyIter ref"].contains k.getString then `(tactic| refine stop_of ?_) else Lean.Macro.throwUnsupported
local macro_rules | `(tactic| walk_at "subscriptTail") => `(tactic| (with_reducible show wpAny _ _ (subscriptTail _ _ (Value.ref _) (Value.int _ _)) _ _ _; refine stop_of ?_))
local macro_rules | `(tactic| walk_at $k:str) => if ["getItem ref int", "setItem ref int int", "setItem ref int"].contains k.getString then `(tactic| refine stop_of ?_) else Lean.Macro.throwUnsupported
theorem small_nat {n : Nat} (h : n < 1000) : Builtin.Range.small 0 (n : Int) 1 = true := by
  unfold Builtin.Range.small Builtin.Range.rangeSize
  simp [Builtin.Range.rangeFitsLong]
  refine ⟨⟨by omega, by split <;> omega, by split <;> omega⟩, .inr (by omega)⟩
theorem ints_set {x : Int} {t : Tok} : ∀ {vs : List Value} {ns : List Int} (_ : IntsAre vs ns) (i : Nat), IntsAre (vs.set i (.int x t)) (ns.set i x)
  | _, _, .nil, _ => .nil
  | _, _, .cons k u h, 0 => .cons x t h
  | _, _, .cons k u h, i + 1 => .cons k u (ints_set h i)
theorem ints_item {vs : List Value} {ns : List Int} (h : IntsAre vs ns) {i : Nat} (hi : i < vs.length) : ∃ a t, vs[i]? = some (.int a t) := by
  obtain ⟨k, t, _, e⟩ := intsAt h (List.getElem?_eq_getElem hi)
  exact ⟨k, t, by rw [List.getElem?_eq_getElem hi, e]⟩
theorem r_setItem {prog : Program} {w : World} {A : Around} {E : Value → Shared → Prop} {s : Shared} {h₀ : Heap} {L D : Addr} {m : Str → Option Value} {ws : List Value} {n k : Nat} {t : Tok} {v : Value} {Q : Unit → Shared → Prop} (pre post : List (Addr × Obj)) (F : Fr h₀ L s.heap m) (N : News h₀ L s.heap (pre ++ (D, listOf ws.toArray n) :: post))
    (a : ∀ p ∈ pre, p.1 ≠ D) (b : ∀ p ∈ post, p.1 ≠ D) (hk : k < ws.length) (hs : ws.length < 10000) (h : ∀ h', Fr h₀ L h' m → News h₀ L h' (pre ++ (D, listOf (ws.set k v).toArray n) :: post) → Q () { s with heap := h' }) :
    wpAny (model prog w) A (setItem (.ref D) (.int (k : Int) t) v) Q E s := by
  have z := N (D, listOf ws.toArray n) (List.mem_append_right _ (.head _))
  refine ki_setAt z.1 (by omega) (by omega) (by rw [List.size_toArray]; omega) ?_
  exact h _ (F.change (Heap.SameBut.update ..) z.2.1 z.2.2) (ki_turn (its := ws.toArray) (its' := (ws.set k v).toArray) _ N a b (by simp) (by simp))
theorem r_setItemI {prog : Program} {w : World} {A : Around} {E : Value → Shared → Prop} {s : Shared} {h₀ : Heap} {L D : Addr} {m : Str → Option Value} {ws : List Value} {n k : Nat} {ki : Int} {t : Tok} {v : Value} {Q : Unit → Shared → Prop} (hki : ki = (k : Int)) (pre post : List (Addr × Obj)) (F : Fr h₀ L s.heap m) (N : News h₀ L s.heap (pre ++ (D, listOf ws.toArray n) :: post))
    (a : ∀ p ∈ pre, p.1 ≠ D) (b : ∀ p ∈ post, p.1 ≠ D) (hk : k < ws.length) (hs : ws.length < 10000) (h : ∀ h', Fr h₀ L h' m → News h₀ L h' (pre ++ (D, listOf (ws.set k v).toArray n) :: post) → Q () { s with heap := h' }) :
    wpAny (model prog w) A (setItem (.ref D) (.int ki t) v) Q E s := by
  subst hki
  exact r_setItem pre post F N a b hk hs h
theorem cells_call {w : World} {mean : ExcName → Option Value} {mg mb : Str → Option Value} {B : Heap} {dp un : Nat} {fr : Option (List Env)} {gd : Option (List Code)} {s : Shared} {Q : Value → Shared → Prop} (W : Wd w mean mg mb B) (kB : Kp B s.heap)
   (hd : dp + 8 < recursionLimit) (hu : un + 120 < cLine) (l : Addr) (vs : List Value) (ns : List Int) (hlB : B.IsList l vs.toArray) (hI : IntsAre vs ns) (hlen : ns.length ≤ 63)
   (hQ : ∀ h' tk' D ws ks n', Kp s.heap h' → IntsAre ws ks → ks.length = 7 → h'.get? D = some (listOf ws.toArray n') → s.heap.get? D = none → Q (.ref D) { s with heap := h', toks := tk' }) :
  codeAny (model prg w) (Ar dp fr gd un) (.call (.ref 227) ⟨[.ref l], []⟩) (fun r s' => match r with | .ok (.ret v) => Q v s' | _ => False) s := by
  have X0 := W.X
  refine' enterN [(Str.ofString "script", .ref l)] W kB [] ?kn ?k6 ?k7 ?k8 ?k9 ?kB ?_ ?c2 ?c3 ?c4 ?c5
  case kn => exact fun _ h => nomatch h
  case k6 => k_is
  case k7 => k_is
  case k8 => k_room
  case k9 => exact BindsTo.of_eq rfl
  case c5 => decide
  case kB => exact locs rfl
  case c2 => exact rfl
  case c3 => exact rfl
  case c4 => exact rfl
  intro g L h₁ F N Wg hk hL
  have X := Wg.X
  obtain ⟨p9, l9, T⟩ := Wg.T
  clear X0
  replace F : Fr g L h₁ (mp [(Str.ofString "script", .ref l)]) := F
  w_on
  have hl0 : s.heap.IsList l vs.toArray := by obtain ⟨o, e, r⟩ := hlB; exact ⟨o, kB _ _ e, r⟩
  have hlg : g.IsList l vs.toArray := by obtain ⟨o, e, r⟩ := hl0; exact ⟨o, hk _ _ e (by simp), r⟩
  have hlv := IntsAre.length hI
  k_steps
  refine Stop.go ?_
  rename Fr _ _ _ _ => F1
  rename News _ _ _ _ => N1
  refine For_invTF F1 ?_ (fun x => rfl) (by passes_own)
  k_steps
  refine Stop.go ?_
  rename IsRange _ _ _ _ _ _ _ _ => hrr
  rename Fr _ _ _ _ => F1
  rename News _ _ _ _ => N1
  rename_i lp _ _ _ _ _ _ _ _ _ _ _
  with_unfolding_all refine forRangeT (σ := List Value × Option Value) ns.length (fun c => mo1 (Str.ofString "k") c.2 (mp [(Str.ofString "cells", .ref lp), (Str.ofString "script", .ref l)])) (fun c => [(lp, listOf c.1.toArray 0)]) (fun i c => ∃ ks, IntsAre c.1 ks ∧ ks.length = 7) (_, none) rfl rfl hrr ?hs ?hn (frc F1 (by ktn_open)) N1 ⟨[6, 16, 14, 11, 3, 4, 42], .cons _ _ (.cons _ _ (.cons _ _ (.cons _ _ (.cons _ _ (.cons _ _ (.cons _ _ .nil)))))), rfl⟩ ?_ ?_ ?_
  case hs => exact small_nat (by omega)
  case hn => unfold Builtin.Range.rangeSize; simp; try (intro h; rw [h]; rfl)
  · intro I s' v Q' hq
    exact wpAny_pure hq
  · rintro I i ⟨ws, kv⟩ h tk t s₁ hne hi ⟨ks, hks, hkl⟩ F N
    dsimp only at hks hkl hne F N
    clear hrr F1 N1
    have e7 : ((0 + (i : Int)).fmod 7) = ((i % 7 : Nat) : Int) := by rw [Int.zero_add, Int.fmod_eq_emod_of_nonneg _ (by omega)]; rfl
    have hwl := IntsAre.length hks
    have hw7 : i % 7 < ws.length := by omega
    obtain ⟨a, ta, hwa⟩ := ints_item hks hw7
    have hv7 : i < vs.length := by omega
    obtain ⟨b, tb, hvb⟩ := ints_item hI hv7
    k_steps
    refine Stop.go ?_
    rw [e7]
    refine wpAny_getItem_list (items := ws.toArray) (k := ((i % 7 : Nat) : Int)) (by is_list) (by omega) (by omega) (by rw [Int.toNat_natCast]; simpa using hwa) ?_
    k_steps
    refine Stop.go ?_
    rename Fr _ _ _ _ => F1
    rename News _ _ _ _ => N1
    have hneI : I ≠ lp := Ne.symm (hne _ (.head _))
    refine r_setItem [(I, _)] [] F1 N1 ((fac hneI (fun _ h => nomatch h))) (fun _ h => nomatch h) hw7 (by omega) fun h9 F9 N9 => ?_
    k_steps
    exact ⟨rfl, _, _, (ws.set (i % 7) _, some _), rfl, frc F9 (by ktn_open), N9, (fac (Ne.symm hneI) (fun _ h => nomatch h)), _, ints_set hks (i % 7), by rw [List.length_set]; exact hkl⟩
  · clear F1 N1 hrr
    rintro ⟨ws, kv⟩ h tk ⟨ks, hks, hkl⟩ F N
    dsimp only at hks hkl F N
    k_steps
    exact hQ _ _ lp ws ks 0 (kp_end F N hk (fun _ h => nomatch h) (fun _ h => nomatch h)) hks hkl (N _ (.head _)).1 (fresh_of N (.head _) hk (fun _ h => nomatch h))
end
section
open PySem PySem.W PySem.Calls PyProof.Rows
noncomputable def lawDef : Option Stmt := PySem.Challenge.pw_uc0030_01.main.body.getLast?
noncomputable def lawBody : List Stmt := match lawDef with | some (.FunctionDef _ _ b _ _ _ _ _ _ _) => b | _ => []
noncomputable def lawScope : Scope := match lawDef with | some (.FunctionDef _ _ _ _ _ _ sc _ _ _) => sc | _ => default
noncomputable def lawEnv (L : Addr) : Env := envOfC (Str.ofString "law") lawScope L 305 (.ref 304)
@[irreducible] noncomputable def lawRest (i : Nat) : List Stmt := lawBody.drop i
end
section
open PySem PySem.W PySem.Calls PyProof.Rows PySem.Spec
section
variable {prog : Program} {w : World} {Q : Flow → Shared → Prop} {s : Shared} {env : Env} {h₀ : Heap} {target : Expr} {body : List Stmt}
/-- a turn's end of a loop over a list that may return -/
noncomputable def RetTurn {σ : Type} (s : Shared) (h₀ : Heap) (L I : Addr) (it : Obj) (news : List (Addr × Obj)) (mm : σ → Str → Option Value) (P : σ → Prop) (Q : Flow → Shared → Prop) (fl : Flow) (s₃ : Shared) : Prop :=
  (fl = .next ∧ ∃ h' tk' c', s₃ = { s with heap := h', toks := tk' } ∧ Fr h₀ L h' (mm c') ∧ News h₀ L h' ((I, it) :: news) ∧ P c') ∨ ∃ v, fl = .ret v ∧ Q (.ret v) s₃
/-- what the iterable of such a loop hands on -/
noncomputable def ListR {σ : Type} (prog : Program) (w : World) (A : Around) (env : Env) (target : Expr) (body : List Stmt) (Q : Flow → Shared → Prop) (h₀ : Heap) (its : Array Value) (news : List (Addr × Obj)) (mm : σ → Str → Option Value) (P : Nat → σ → Prop) (c₀ : σ) (xv : Value) (s₁ : Shared) : Prop :=
  ∃ ax o, xv = .ref ax ∧ (ax, o) ∈ news ∧ s₁.heap.IsList ax its ∧ Fr h₀ env.locals s₁.heap (mm c₀) ∧ News h₀ env.locals s₁.heap news ∧ P 0 c₀ ∧
    (∀ I i c h tk T oI, (∀ p ∈ news, @Ne Nat p.1 I) → its[i]? = some (.ref T) → P i c → Fr h₀ env.locals h (mm c) → News h₀ env.locals h ((I, oI) :: news) →
      wpAny (model prog w) A (assign target env (.ref T)) (fun _ s₃ => wpAny (model prog w) A (execs body env) (RetTurn s₁ h₀ env.locals I oI news mm (P (i + 1)) Q) Fls s₃) Fls { s₁ with heap := h, toks := tk }) ∧
    ∀ c h tk, P its.size c → Fr h₀ env.locals h (mm c) → News h₀ env.locals h news → Q .next { s₁ with heap := h, toks := tk }
theorem forListR {σ : Type} {A : Around} {iter : Expr} {pos : Pos} {its : Array Value} {news : List (Addr × Obj)} (mm : σ → Str → Option Value) (P : Nat → σ → Prop) (c₀ : σ) (hA : A.handled = none) (href : ∀ v ∈ its, ∃ T, v = .ref T)
    (hgo : ∀ (I ax T : Addr) (i : Nat) (s' : Shared) (Q' : Unit → Shared → Prop), s'.heap.IsListIter I ax i → Q' () s' → wpAny (model prog w) A (letOwnedTupleGo target (.ref I) (.ref T)) Q' Fls s')
    (h : wpAny (model prog w) A (eval iter env) (ListR prog w A env target body Q h₀ its news mm P c₀) Fls s)
    (hs : ∀ x, foldedSetIterable iter env x = pure x) :
    wpAny (model prog w) A (exec (.For target iter body [] pos) env) Q Fls s := by
  refine wpAny_For (wpAny_mono h (fun xv s₁ h₁ => ?_) fun _ _ e => e) hs
  obtain ⟨ax, o, rfl, hax, hl, F, N, hP, turn, out⟩ := h₁
  have hlt : ax < s₁.heap.objs.size := by obtain ⟨_, e, _⟩ := hl; exact Heap.lt_size e
  refine wpAny_pyIter_list hl ?_
  have up : ∀ b o, s₁.heap.get? b = some o → (s₁.heap.push { cls := .type "list_iterator", data := .fields #[.ref ax, .int 0 0] }).get? b = some o := fun b o e => Heap.get?_push_of_some _ e
  have hnew := next_is_new F
  have hlts : ∀ p ∈ news, @Ne Nat p.1 s₁.heap.objs.size := fun p hp => Nat.ne_of_lt (Heap.lt_size (N p hp).1)
  have hIL : env.locals ≠ s₁.heap.objs.size := Nat.ne_of_lt F.ns.lt
  have W := Walks.list (prog := prog) (w := w) (A := A) hA s₁.heap.objs.size ax (Nat.ne_of_lt hlt) its
  have st0 : (s₁.heap.push { cls := .type "list_iterator", data := .fields #[.ref ax, .int 0 0] }).IsListIter s₁.heap.objs.size ax 0 ∧ (s₁.heap.push { cls := .type "list_iterator", data := .fields #[.ref ax, .int 0 0] }).IsList ax its := ⟨⟨_, Heap.get?_push_size _ rfl, rfl, rfl⟩, hl.push _⟩
  refine codeAny_forLoop_any (fun k s' => ∃ h' tk i c, s' = { s₁ with heap := h', toks := tk } ∧ (h'.IsListIter s₁.heap.objs.size ax i ∧ h'.IsList ax its) ∧ Fr h₀ env.locals h' (mm c) ∧ News h₀ env.locals h' news ∧ P i c ∧ i ≤ its.size ∧ k = its.size + 1 - i) ?_ (its.size + 1)
    ⟨_, _, 0, c₀, rfl, st0, F.push _, N.grown up, hP, Nat.zero_le _, rfl⟩
  rintro k s' ⟨h', tk, i, c, rfl, st, F', N', hPc, hi, rfl⟩
  by_cases hlt2 : i < its.size
  · refine W.item i _ _ _ hlt2 st fun v h₂ tk₂ hv st₂ hk₂ => ?_
    have hv' : its[i]? = some v := hv
    obtain ⟨T, rfl⟩ := href v (Array.mem_of_getElem? hv')
    refine wpAny_mono (hgo _ ax T (i + 1) _ _ st₂.1 ?_) (fun _ _ x => x) fun _ _ x => x.elim
    obtain ⟨oI, heI, hoI⟩ := st₂.1
    have F₂ := LCg.fr_but F' hk₂ hIL hnew
    have N₂ := LCg.news_but N' hk₂ hlts
    have N₃ : News h₀ env.locals h₂ ((s₁.heap.objs.size, oI) :: news) := List.forall_mem_cons.mpr ⟨⟨heI, Ne.symm hIL, hnew⟩, N₂⟩
    refine wpAny_mono (turn s₁.heap.objs.size i c h₂ tk₂ T oI hlts hv' hPc F₂ N₃) (fun _ s₃ y => wpAny_mono y (fun fl s₄ z => ?_) fun _ _ x => x.elim) fun _ _ x => x.elim
    rcases z with ⟨rfl, h₄, tk₄, c', rfl, F₄, N₄, hP'⟩ | ⟨v, rfl, hq⟩
    · refine ⟨its.size + 1 - (i + 1), by omega, h₄, tk₄, i + 1, c', rfl, ⟨⟨oI, (N₄ _ (.head _)).1, hoI⟩, ?_⟩, F₄, fun p hp => N₄ p (.tail _ hp), hP', hlt2, rfl⟩
      obtain ⟨o', e', r'⟩ := st₂.2
      have z1 := N₂ _ hax
      rw [z1.1] at e'
      cases e'
      exact ⟨_, (N₄ _ (.tail _ hax)).1, r'⟩
    · exact hq
  · have hin : i = its.size := by omega
    subst hin
    refine W.done _ _ _ st fun h₂ tk₂ hk₂ => ?_
    exact wpAny_execs_nil (out c h₂ tk₂ hPc (LCg.fr_but F' hk₂ hIL hnew) (LCg.news_but N' hk₂ hlts))
end
end
section
set_option maxHeartbeats 4000000
open PySem PySem.W PySem.Calls PyProof.Rows
theorem fillS15 : PySem.Challenge.rw_uc0030_01 = PySem.Challenge.rw_uc0030_01 ∧ Mine.hd.heap_1 = Mine.hd.heap_1 := by k_fill; exact ⟨rfl, rfl⟩
theorem lower_nm {k : Nat} (g : Bool) (hk : k < 3) : Txt.lower (nmS k g) = nmS k false := by
  have h : k = 0 ∨ k = 1 ∨ k = 2 := by omega
  rcases h with rfl | rfl | rfl <;> cases g <;> decide +kernel
theorem low_fit {k : Nat} (g : Bool) (hk : k < 3) : PySem.Builtin.Str.tooLong (Txt.lower (nmS k g)).length = false := by
  have h : k = 0 ∨ k = 1 ∨ k = 2 := by omega
  rcases h with rfl | rfl | rfl <;> cases g <;> decide +kernel
theorem nm_inj {k j : Nat} (hk : k < 3) (hj : j < 3) : nmS k false = nmS j false ↔ k = j := by
  have h : k = 0 ∨ k = 1 ∨ k = 2 := by omega
  have h' : j = 0 ∨ j = 1 ∨ j = 2 := by omega
  rcases h with rfl | rfl | rfl <;> rcases h' with rfl | rfl | rfl <;> decide +kernel
theorem clean_nmS {k : Nat} (g : Bool) (hk : k < 3) : Clean true (nmS k g) := by
  have h : k = 0 ∨ k = 1 ∨ k = 2 := by omega
  rcases h with rfl | rfl | rfl <;> cases g <;> exact clean_nm (by decide +kernel)
section
variable {prog : Program} {w : World} {A : Around} {E : Value → Shared → Prop} {s : Shared} {t : Tok} {Q : Value → Shared → Prop}
theorem r_lower {k : Nat} {g : Bool} (hk : k < 3) (h : ∀ t' j, Q (.str (nmS k false) t') { s with toks := j }) : wpAny (model prog w) A (call (.builtin "str.lower") [.str (nmS k g) t]) Q E s :=
  SC.lower (low_fit g hk) (by rw [lower_nm g hk]; exact h _ _)
end
noncomputable def bkD (P : Params) (t : Tok) (H : Addr) : Obj := dictOf [{ hash := PyData.keyHash P (Str.ofString "_headers"), key := Value.str (Str.ofString "_headers") t, val := Value.ref H }] 1
theorem but_of {sh g h' : Heap} {L dx : Addr} {m : Str → Option Value} {news news' : List (Addr × Obj)} (F : Fr g L h' m) (N : News g L h' news') (hk : ∀ b o, sh.get? b = some o → b ∉ news.map (·.1) → g.get? b = some o)
    (hn : ∀ p ∈ news, sh.get? p.1 = some p.2) (hs : ∀ p ∈ news, p.1 ≠ dx → p ∈ news') : ∀ b o, b ≠ dx → sh.get? b = some o → h'.get? b = some o := fun b o hne e => by
  by_cases hb : b ∈ news.map (·.1)
  · obtain ⟨p, hp, rfl⟩ := List.mem_map.mp hb
    have := hn p hp
    rw [this] at e; cases e
    exact (N p (hs p hp hne)).1
  · exact F.keep b o (hk b o e hb)
theorem init_call {w : World} {mean : ExcName → Option Value} {mg mb : Str → Option Value} {B : Heap} {dp un : Nat} {fr : Option (List Env)} {gd : Option (List Code)} {s : Shared} {Q : Value → Shared → Prop} (W : Wd w mean mg mb B) (kB : Kp B s.heap)
   (hd : dp + 4 < recursionLimit) (hu : un + 40 < cLine) (x dx : Addr)
   (hx : s.heap.get? x = some (instObj 216 dx)) (hxB : B.get? x = none) (hdx : s.heap.get? dx = some emptyDict) (hdB : B.get? dx = none) (hlt : @LT.lt Nat instLTNat dx x)
   (hQ : ∀ h' tk' H t, (∀ b o, b ≠ dx → s.heap.get? b = some o → h'.get? b = some o) → h'.get? dx = some (bkD w.params t H) → h'.get? H = some (listOf #[] 0) → s.heap.get? H = none → Q .none { s with heap := h', toks := tk' }) :
  codeAny (model prg w) (Ar dp fr gd un) (.call (.ref 110) ⟨[.ref x], []⟩) (fun r s' => match r with | .ok (.ret v) => Q v s' | _ => False) s := by
  have X0 := W.X
  have XS : (Mine.hd.heap_1 w.params).In s.heap := X0.keeps kB
  refine' enterN [(Str.ofString "self", .ref x), (Str.ofString "headers", .none)] W kB [(x, instObj 216 dx), (dx, emptyDict)] ?kn ?k6 ?k7 ?k8 ?k9 ?kB ?_ ?c2 ?c3 ?c4 ?c5
  case kn => exact List.forall_mem_cons.mpr ⟨⟨hx, hxB⟩, List.forall_mem_cons.mpr ⟨⟨hdx, hdB⟩, fun _ h => nomatch h⟩⟩
  case k6 => k_is
  case k7 => k_is
  case k8 => k_room
  case k9 => exact kp_binds XS fun S => by kernel_rfl
  case c5 => decide
  case kB => exact locs rfl
  case c2 => exact rfl
  case c3 => exact rfl
  case c4 => exact rfl
  intro g L h₁ F N Wg hk hL
  have X := Wg.X
  obtain ⟨p9, l9, T⟩ := Wg.T
  clear X0
  replace F : Fr g L h₁ (mp [(Str.ofString "headers", .none), (Str.ofString "self", .ref x)]) := F
  w_on
  have hxL : @LT.lt Nat instLTNat x L := hL x _ hx
  have hdL : @LT.lt Nat instLTNat dx L := hL dx _ hdx
  k_steps
  rename Fr _ _ _ _ => F2
  rename News _ _ _ _ => N2
  obtain ⟨H, t9, hxH, hdH, N2⟩ : ∃ H t9, @LT.lt Nat instLTNat x H ∧ @LT.lt Nat instLTNat dx H ∧ News g L _ [(H, listOf #[] 0), (x, instObj 216 dx), (dx, bkD w.params t9 H)] := ⟨_, _, by omega, by omega, N2⟩
  exact hQ _ _ H t9 (but_of F2 N2 hk (List.forall_mem_cons.mpr ⟨hx, List.forall_mem_cons.mpr ⟨hdx, fun _ h => nomatch h⟩⟩) (List.forall_mem_cons.mpr ⟨fun _ => by k_mem, List.forall_mem_cons.mpr ⟨fun h => absurd rfl h, fun _ h => nomatch h⟩⟩)) (N2 _ (.tail _ (.tail _ (.head _)))).1 (N2 _ (.head _)).1 (fresh_of N2 (.head _) hk (List.forall_mem_cons.mpr ⟨Nat.ne_of_lt hxH, List.forall_mem_cons.mpr ⟨Nat.ne_of_lt hdH, fun _ h => nomatch h⟩⟩))
end
section
open PySem PySem.W PySem.Calls PyProof.Rows
/-- a def's body, entered, where ** takes an empty dict -/
theorem enterK {w : World} {mean : ExcName → Option Value} {mg mb : Str → Option Value} {B : Heap} {A : Around} {s : Shared} {Q : Value → Shared → Prop} {name qual : Str} {params : Arguments} {body : List Stmt} {scope : Scope} {cl : List (Str × Addr)} {dV kV doc pm cdv ct oc : Value} {an od : Option Addr} {osl : Array (Option Value)} {f : Addr} {args : Args} (binds : Value → List (Str × Value))
    (W : Wd w mean mg mb B) (kB : Kp B s.heap) (news : List (Addr × Obj)) (hn : ∀ p ∈ news, s.heap.get? p.1 = some p.2 ∧ B.get? p.1 = none)
    (ho : (Mine.hd.heap_1 w.params).lookup f = some ⟨oc, od, .func (fnX name qual params body scope cl dV kV doc pm an cdv ct), osl⟩) (hcd : codeIn (Mine.hd.heap_1 w.params) cdv qual = true) (hroom : A.depth < recursionLimit)
    (hbind : bindArgs (fnX name qual params body scope cl dV kV doc pm an cdv ct) args = (alloc emptyDict >>= fun d => pure (binds (.ref d)))) (hloc : ∀ v, ∀ y ∈ binds v, scope.names.lookup y.1 = some .local)
    (h : ∀ D g L h₁ tk, Fr g L h₁ (mp (binds (.ref D)).reverse) → News g L h₁ ((D, emptyDict) :: news) → Wd w mean mg mb g → (∀ b o, s.heap.get? b = some o → b ∉ news.map (·.1) → g.get? b = some o) → (∀ b o, s.heap.get? b = some o → b < D) → @LT.lt Nat instLTNat D L →
      wpAny (model prg w) (A.deeper (envX qual scope L f cdv cl)) (execs body (envX qual scope L f cdv cl))
        (fun fl s' => Q (match fl with | .ret v => v | _ => .none) s') Fls
        { s with heap := h₁, toks := tk })
    (hco : scope.isCoroutine = false) (hgen : scope.isGenerator = false) (hk : scope.kind = .function)
    (hcell : ∀ x ∈ scope.names, x.2 ≠ .cell) : codeAny (model prg w) A (.call (.ref f) args) (fun r s' => match r with | .ok (.ret v) => Q v s' | _ => False) s := by
  have W' := W.keeps kB
  refine codeAny_call_function hroom (W'.X _ _ ho) rfl hco hgen rfl (codeRec_of W'.X hcd) ?_
  rw [hbind]
  refine wpAny_bind (wpAny_alloc (wpAny_pure ?_))
  have up : Kp s.heap (s.heap.push emptyDict) := fun b o e => Heap.get?_push_of_some _ e
  have hD : (s.heap.push emptyDict).get? s.heap.objs.size = some emptyDict := Heap.get?_push_size _ rfl
  have hDf : s.heap.get? s.heap.objs.size = none := by
    cases e : s.heap.get? s.heap.objs.size with
    | none => rfl
    | some o => exact absurd (Heap.lt_size e) (Nat.lt_irrefl _)
  have hn' : ∀ p ∈ (s.heap.objs.size, emptyDict) :: news, (s.heap.push emptyDict).get? p.1 = some p.2 ∧ B.get? p.1 = none := List.forall_mem_cons.mpr ⟨⟨hD, by
    cases e : B.get? s.heap.objs.size with
    | none => rfl
    | some o => have := kB _ _ e; rw [hDf] at this; cases this⟩, fun p hp => ⟨up _ _ (hn p hp).1, (hn p hp).2⟩⟩
  refine wpAny_newFunctionEnv hcell (hloc _) (fun h₁ hns hsb => ⟨(W.keeps (kB.trans up)).nolimit.fresh _ hsb, ?_⟩) hk
  have hk₁ : ∀ b o, (s.heap.push emptyDict).get? b = some o → h₁.get? b = some o := fun b o e => hsb.extBut b o (Nat.ne_of_lt (Heap.lt_size e)) (Heap.get?_push_of_some _ e)
  have kg : Kp B (hideAll (s.heap.push emptyDict) (((s.heap.objs.size, emptyDict) :: news).map (·.1))) := fun b o e => hideAll_get _ (up _ _ (kB b o e)) fun q => by
    obtain ⟨p, hp, rfl⟩ := List.mem_map.mp q
    rw [(hn' p hp).2] at e; cases e
  have hDL : s.heap.objs.size < (s.heap.push emptyDict).objs.size := Heap.lt_size hD
  refine codeAny_func (wpAny_mono (h s.heap.objs.size (hideAll (s.heap.push emptyDict) (((s.heap.objs.size, emptyDict) :: news).map (·.1))) (s.heap.push emptyDict).objs.size h₁ _ ⟨?_, fun b o e => hk₁ b o (of_hideAll _ e), Nat.le_of_eq (hideAll_size _ _)⟩ (fun p hp => ⟨hk₁ _ _ (hn' p hp).1, Nat.ne_of_lt (Heap.lt_size (hn' p hp).1), hideAll_none _ (List.mem_map_of_mem hp)⟩) (W.keeps kg) (fun b o e hb => hideAll_get _ (up _ _ e) (fun q => by
    rcases List.mem_cons.mp q with q | q
    · rw [show b = s.heap.objs.size from q, hDf] at e; cases e
    · exact hb q)) (fun b o e => Heap.lt_size e) hDL) (fun fl s' hl => hl) fun _ _ y => y.elim)
  rw [show mp (binds (.ref s.heap.objs.size)).reverse = fun x => (binds (.ref s.heap.objs.size)).reverse.lookup x from funext fun x => (mp_lookup _ _).symm]
  exact hns
end
section
open PySem PySem.W PySem.Calls PyProof.Rows
section
variable {prog : Program} {w : World} {A : Around} {E : Value → Shared → Prop} {s : Shared} {env : Env} {target : Expr} {body : List Stmt}
theorem empty_at {h : Heap} {D : Addr} (e : h.get? D = some emptyDict) : h.DictAt (PySem.strKind prog w) D [] 0 := ⟨_, #[], e, ⟨rfl, rfl, rfl⟩, rfl, by intro i hx; simp at hx, .nil, List.nodup_nil⟩
theorem no_items {D : Addr} {R : Result → Shared → Prop} (hA : A.handled = none) (hD : s.heap.get? D = some emptyDict) (hs : (D == sysModules) = false) (h : ∀ h', (∀ b o, s.heap.get? b = some o → h'.get? b = some o) → R (.ok .next) { s with heap := h' }) :
    wpAny (model prog w) A (call (.builtin "dict.items") [.ref D]) (fun x s₁ => wpAny (model prog w) A (pyIter x) (fun it s₂ => codeAny (model prog w) A (.forLoop target it body [] env) R s₂) E s₁) E s := by
  have hT : s.TypeIs (.ref D) "dict" := ⟨_, hD, rfl⟩
  refine call_meetsIn PySem.F.slot_dict_items hT PySem.F.entry_dict_items (PySem.F.args_dict_items_1 _) (meets_dict_items (PySem.strKind prog w) D hs) ⟨⟨[], (empty_at hD).dictOf⟩, ?_⟩
  have up1 : ∀ b o, s.heap.get? b = some o → (s.heap.push { cls := .type "dict_items", data := .fields #[.ref D] }).get? b = some o := fun b o e => Heap.get?_push_of_some _ e
  show wpAny _ _ (pyIter (.ref s.heap.objs.size)) _ _ _
  have hDA : (s.heap.push { cls := .type "dict_items", data := .fields #[.ref D] }).DictAt (PySem.strKind prog w) D [] 0 := empty_at (up1 _ _ hD)
  refine wpAny_pyIter_items (kvs := []) (ep := 0) (knd := PySem.strKind prog w) (d := D) ⟨_, Heap.get?_push_size _ rfl, rfl, rfl⟩ hDA ?_
  generalize hH : s.heap.push { cls := .type "dict_items", data := .fields #[.ref D] } = H1 at *
  dsimp only
  have hit : IsItemIter (H1.push { cls := .type "dict_itemiterator", data := .fields #[.none, .bool false, .ref D, .int 0 0, .int (([] : List (Str × Value)).length : Int) 0, .int (0 : Nat) 0, .none, .none] }) H1.objs.size D 0 ([] : List (Str × Value)).length 0 .none .none := Heap.get?_push_size _ rfl
  have hfr : ∀ b o, s.heap.get? b = some o → b ≠ H1.objs.size := fun b o e => Nat.ne_of_lt (Heap.lt_size (up1 b o e))
  refine codeAny_forLoop_any (fun k s' => s' = { s with heap := H1.push { cls := .type "dict_itemiterator", data := .fields #[.none, .bool false, .ref D, .int 0 0, .int (([] : List (Str × Value)).length : Int) 0, .int (0 : Nat) 0, .none, .none] } }) ?_ 1 rfl
  rintro k s' rfl
  refine wpAny_pyNext_items_end (knd := PySem.strKind prog w) (kvs := []) hA hit (empty_at (Heap.get?_push_of_some _ (up1 _ _ hD))) rfl fun h' he => ?_
  exact wpAny_execs_nil (h h' fun b o e => he b o (hfr b o e) (Heap.get?_push_of_some _ (up1 _ _ e)))
end
end
section
local macro_rules | `(tactic| walk_at "call builtin:str.lower") => `(tactic| (refine' r_lower ?hk ?_; (case hk => first | with_reducible assumption | omega); intro t' j'))
local macro_rules | `(tactic| walk_at "call ref") => `(tactic| (with_unfolding_all refine' conv_wp ?hA ?W ?F ?N ?hd ?hu ?hc ?_; (case hA => rfl); (case W => assumption); (case F => k_asm); (case N => k_asm); (case hd => k_room); (case hu => first | omega | ((try simp only [units_in1, units_deeper, Around.mark_units]); (try dsimp only); omega)); (case hc => first | with_reducible assumption | exact clean_nmS _ (by with_reducible assumption)); intro h' tk' F' N'; (try k_sweep)))
local macro_rules | `(tactic| k_all) => `(tactic| with_reducible assumption)
section
set_option maxHeartbeats 4000000
open PySem PySem.W PySem.Calls PyProof.Rows
theorem fillS17 : PySem.Challenge.rw_uc0030_01 = PySem.Challenge.rw_uc0030_01 ∧ Mine.hd.heap_1 = Mine.hd.heap_1 := by k_fill; exact ⟨rfl, rfl⟩
local macro_rules | `(tactic| walk_at $k:str) => if ["eval ListComp", "CompSrcT", "CompRestT", "CompEnd"].contains k.getString then `(tactic| refine stop_of ?_) else Lean.Macro.throwUnsupported
local macro_rules | `(tactic| walk_at "subscriptTail") => `(tactic| (with_reducible show wpAny _ _ (subscriptTail _ _ (Value.ref _) (Value.int _ _)) _ _ _; refine stop_of ?_))
section
variable {prog : Program} {w : World} {A : Around} {E : Value → Shared → Prop} {s : Shared} {value slice : PySem.Expr} {T : Addr} {a b : Value} {u : Tok} {Q : Value → Shared → Prop}
theorem r_pair0 (h : s.heap.get? T = some (tupO a b)) (hq : Q a s)
    (hs : subscripted slice false (.ref T) (.int 0 u) = operate [.ref T, .int 0 u] (getItem (.ref T) (.int 0 u)) := by with_unfolding_all rfl) (hg : ∀ r, letTemporaryGo value (.ref T) r = pure () := by intro _; with_unfolding_all rfl) :
    wpAny (model prog w) A (subscriptTail value slice (.ref T) (.int 0 u)) Q E s :=
  item_tuple (items := #[a, b]) (j := 0) (x := a) ⟨_, h, rfl, _, rfl⟩ (by decide) (by decide) rfl rfl hq hs hg
theorem r_pair1 (h : s.heap.get? T = some (tupO a b)) (hq : Q b s)
    (hs : subscripted slice false (.ref T) (.int 1 u) = operate [.ref T, .int 1 u] (getItem (.ref T) (.int 1 u)) := by with_unfolding_all rfl) (hg : ∀ r, letTemporaryGo value (.ref T) r = pure () := by intro _; with_unfolding_all rfl) :
    wpAny (model prog w) A (subscriptTail value slice (.ref T) (.int 1 u)) Q E s :=
  item_tuple (items := #[a, b]) (j := 1) (x := b) ⟨_, h, rfl, _, rfl⟩ (by decide) (by decide) rfl rfl hq hs hg
end
theorem ite_b17 {b : Bool} {P R : Prop} {inst : Decidable (b = true)} (h1 : b = true → P) (h2 : b = false → R) : @ite Prop (b = true) inst P R := by
  cases b
  · rw [if_neg Bool.false_ne_true]; exact h2 rfl
  · rw [if_pos rfl]; exact h1 rfl
local macro_rules | `(tactic| walk_at "ite") => `(tactic| (with_reducible refine ite_b17 (fun hb => ?_) (fun hb => ?_)))
theorem off1_mem {D : Addr} : ∀ {l : List (Addr × Obj)}, LCg.Off1 D l → ∀ p ∈ l, p.1 ≠ D
  | [], _, _, hp => nomatch hp
  | q :: r, h, p, hp => by
    have h : (@Ne Nat q.1 D) ∧ LCg.Off1 D r := h
    rcases List.mem_cons.mp hp with e | hp
    · rw [e]; exact h.1
    · exact off1_mem h.2 p hp
theorem take_snoc {α : Type} {l : List α} {j : Nat} {q : α} (h : l[j]? = some q) : l.take (j + 1) = l.take j ++ [q] := by
  rw [List.take_add_one, h]; rfl
theorem strs_snoc {a : Str} {t : Tok} : ∀ {vs : List Value} {l : List Str}, StrsAre vs l → StrsAre (vs ++ [.str a t]) (l ++ [a])
  | _, _, .nil => .cons a t .nil
  | _, _, .cons b u h => .cons b u (strs_snoc h)
theorem getall_call {w : World} {mean : ExcName → Option Value} {mg mb : Str → Option Value} {B : Heap} {dp un : Nat} {fr : Option (List Env)} {gd : Option (List Code)} {s : Shared} {Q : Value → Shared → Prop} (W : Wd w mean mg mb B) (kB : Kp B s.heap)
   (hd : dp + 10 < recursionLimit) (hu : un + 120 < cLine) (x dx H : Addr) (tb : Tok) (n : Nat) (cl : List (Addr × Obj)) (hs : List (Nat × Bool × Str)) (hlen : cl.length = hs.length) (hl10 : cl.length < 10) (hk3 : ∀ q ∈ hs, q.1 < 3) (hcl : ∀ (j : Nat) (p : Addr × Obj), cl[j]? = some p → ∃ q t u, hs[j]? = some q ∧ p.2 = tupO (.str (nmS q.1 q.2.1) t) (.str q.2.2 u))
   (hx : s.heap.get? x = some (instObj 216 dx)) (hxB : B.get? x = none) (hdx : s.heap.get? dx = some (bkD w.params tb H)) (hdB : B.get? dx = none) (hH : s.heap.get? H = some (listOf (cl.map fun p => Value.ref p.1).toArray n)) (hHB : B.get? H = none) (hcs : ∀ p ∈ cl, s.heap.get? p.1 = some p.2 ∧ B.get? p.1 = none) (k9 : Nat) (g9 : Bool) (t9 : Tok) (hk9 : k9 < 3)
   (hQ : ∀ h' tk' D n' vs, Kp s.heap h' → h'.get? D = some (listOf vs.toArray n') → StrsAre vs ((hs.filter fun q => q.1 == k9).map (·.2.2)) → s.heap.get? D = none → Q (.ref D) { s with heap := h', toks := tk' }) :
  codeAny (model prg w) (Ar dp fr gd un) (.call (.ref 155) ⟨[.ref x, .str (nmS k9 g9) t9], []⟩) (fun r s' => match r with | .ok (.ret v) => Q v s' | _ => False) s := by
  have X0 := W.X
  refine' enterC [(Str.ofString "self", .ref x), (Str.ofString "name", .str (nmS k9 g9) t9)] W kB ((x, instObj 216 dx) :: (dx, bkD w.params tb H) :: (H, listOf (cl.map fun p => Value.ref p.1).toArray n) :: cl) ?kn ?k6 ?k7 ?k8 ?k9 ?kB ?kD ?_ ?c2 ?c3 ?c4
  case kn => exact List.forall_mem_cons.mpr ⟨⟨hx, hxB⟩, List.forall_mem_cons.mpr ⟨⟨hdx, hdB⟩, List.forall_mem_cons.mpr ⟨⟨hH, hHB⟩, hcs⟩⟩⟩
  case k6 => k_is
  case k7 => k_is
  case k8 => k_room
  case k9 => exact BindsTo.of_eq rfl
  case kD => decide +kernel
  case kB => exact rfl
  case c2 => exact rfl
  case c3 => exact rfl
  case c4 => exact rfl
  intro g L h₁ tk cells F N Y Wg hk hL
  have X := Wg.X
  obtain ⟨p9, l9, T⟩ := Wg.T
  clear X0
  k_cells Y
  have hxL : @LT.lt Nat instLTNat x L := hL x _ hx
  have hdL : @LT.lt Nat instLTNat dx L := hL dx _ hdx
  have hHL : @LT.lt Nat instLTNat H L := hL H _ hH
  have hcL : ∀ p ∈ cl, @LT.lt Nat instLTNat p.1 L := fun p hp => hL _ _ (hcs p hp).1
  rename_i o1 d1
  replace F : Fr g L h₁ (mp [(Str.ofString "self", .ref x)]) := frc F (by funext y; rfl)
  replace d1 : o1.data = .cell (some (.str (nmS k9 g9) t9)) := d1
  replace N : News g L h₁ ((L + 1, o1) :: (x, instObj 216 dx) :: (dx, bkD w.params tb H) :: (H, listOf (cl.map fun p => Value.ref p.1).toArray n) :: cl) := N
  have hAc : ∀ p ∈ cl, p.1 ≠ L + 1 := fun p hp => Nat.ne_of_lt (Nat.lt_succ_of_lt (hcL p hp))
  unfold bkD at N
  w_on
  k_steps
  refine Stop.go ?_
  k_dflt (refine LCt.ListComp_T (F₀ := by k_asm) (by with_unfolding_all rfl) (by decide) (by rfl) (by decide) (by rfl) ?_)
  k_steps
  refine Stop.go ?_
  rename Fr _ _ _ _ => F1
  rename News _ _ _ _ => N1
  refine LCt.CompSrcT.ledger (ax := H) (its := (cl.map fun p => Value.ref p.1).toArray) (k := n) rfl F1 N1 (by k_mem) (size_small (by simp; omega)) ?_
  intro g'
  with_unfolding_all refine restT_inv (n := (cl.map fun p => Value.ref p.1).toArray.size) (fun _ : Unit => _) (fun j ys _ => StrsAre ys (((hs.take j).filter fun q => q.1 == k9).map (·.2.2))) ?turn ?fin _ 0 [] () (Nat.zero_add _) .nil
  case turn =>
    rintro j ys _ v I oI C oC D m₂ h2 tk2 E' hj hJ hv hC hx F2 N2 off2 ne2
    clear F1 N1
    have hj6 : j < cl.length := by simpa using hj
    obtain ⟨pj, hpj⟩ : ∃ p, cl[j]? = some p := ⟨_, List.getElem?_eq_getElem hj6⟩
    obtain ⟨qj, tj, uj, hqj, hpo⟩ := hcl j pj hpj
    have hvp : v = .ref pj.1 := by
      have : (cl.map fun p => Value.ref p.1)[j]? = some v := by simpa using hv
      rw [List.getElem?_map, hpj] at this
      exact (Option.some.inj this).symm
    subst hvp
    have hqk := hk3 qj (List.mem_of_getElem? hqj)
    have hpN := (N2 pj (.tail _ (.tail _ (.tail _ (.tail _ (.tail _ (.tail _ (.tail _ (List.mem_of_getElem? hpj))))))))).1
    rw [hpo] at hpN
    k_steps
    refine Stop.go ?_
    refine r_pair0 hpN ?_
    k_steps
    · refine Stop.go ?_
      refine r_pair1 hpN ?_
      rename (_ = true) => hb
      have hqe : (qj.1 == k9) = true := beq_iff_eq.mpr ((nm_inj hqk hk9).mp (beq_iff_eq.mp hb))
      exact LCg.CompEnd.intro F2 N2 _ (fun _ h => h) off2 trivial ⟨(), fun _ h => h, .inr ⟨_, by k_mem, rfl, _, rfl⟩, by
        rw [take_snoc hqj, List.filter_append, List.map_append, List.filter_cons_of_pos (p := fun q : Nat × Bool × Str => q.1 == k9) hqe]
        exact strs_snoc hJ⟩
    · refine Stop.go ?_
      rename (_ = false) => hb
      have hqe : ¬ (qj.1 == k9) = true := fun h => by
        have := beq_eq_false_iff_ne.mp hb
        exact this ((nm_inj hqk hk9).mpr (beq_iff_eq.mp h))
      exact LCg.CompEnd.intro F2 N2 _ (fun _ h => h) off2 trivial ⟨(), fun _ h => h, .inr ⟨_, by k_mem, rfl, _, rfl⟩, by
        rw [take_snoc hqj, List.filter_append, List.map_append, List.filter_cons_of_neg (p := fun q : Nat × Bool × Str => q.1 == k9) hqe]
        simpa using hJ⟩
  case fin =>
    intro ys _ hJ
    have hsz : (cl.map fun p => Value.ref p.1).toArray.size = hs.length := by rw [List.size_toArray, List.length_map, hlen]
    rw [hsz, List.take_length] at hJ
    clear F1 N1
    unfold LCg.FinE
    intro D h9 tk9 F9 N9 o9
    have hD : ∀ p ∈ (x, instObj 216 dx) :: (dx, bkD w.params tb H) :: (H, listOf (cl.map fun p => Value.ref p.1).toArray n) :: cl, p.1 ≠ D := off1_mem o9.2
    k_steps
    refine hQ _ _ D _ ys (kp_end F9 N9 hk (List.forall_mem_cons.mpr ⟨hx, List.forall_mem_cons.mpr ⟨hdx, List.forall_mem_cons.mpr ⟨hH, fun p hp => (hcs p hp).1⟩⟩⟩) (fun p hp => .tail _ (.tail _ hp))) (N9 _ (.head _)).1 hJ (fresh_of N9 (.head _) hk hD)
end
section
set_option maxHeartbeats 4000000
open PySem PySem.W PySem.Calls PyProof.Rows
theorem fillS18 : PySem.Challenge.rw_uc0030_01 = PySem.Challenge.rw_uc0030_01 ∧ Mine.hd.heap_1 = Mine.hd.heap_1 := by k_fill; exact ⟨rfl, rfl⟩
local macro_rules | `(tactic| walk_at "ite") => `(tactic| (with_reducible refine ite_b17 (fun hb => ?_) (fun hb => ?_)))
theorem first_of {α : Type} {p : α → Bool} {l : List α} {j : Nat} {q : α} (h : (l.take j).filter p = []) (hq : l[j]? = some q) (hp : p q = true) : ∃ r, l.filter p = q :: r := by
  refine ⟨(l.drop (j + 1)).filter p, ?_⟩
  conv => lhs; rw [← List.take_append_drop (j + 1) l]
  rw [List.filter_append, take_snoc hq, List.filter_append, h, List.filter_cons_of_pos hp]
  rfl
local macro_rules | `(tactic| walk_at $k:str) => if ["exec For", "exec For Tuple Attribute cons nil", "ListR"].contains k.getString then `(tactic| refine stop_of ?_) else Lean.Macro.throwUnsupported
theorem get_call {w : World} {mean : ExcName → Option Value} {mg mb : Str → Option Value} {B : Heap} {dp un : Nat} {fr : Option (List Env)} {gd : Option (List Code)} {s : Shared} {Q : Value → Shared → Prop} (W : Wd w mean mg mb B) (kB : Kp B s.heap)
   (hd : dp + 10 < recursionLimit) (hu : un + 120 < cLine) (x dx H : Addr) (tb : Tok) (n : Nat) (cl : List (Addr × Obj)) (hs : List (Nat × Bool × Str)) (hlen : cl.length = hs.length) (hl10 : cl.length < 10) (hk3 : ∀ q ∈ hs, q.1 < 3) (hcl : ∀ (j : Nat) (p : Addr × Obj), cl[j]? = some p → ∃ q t u, hs[j]? = some q ∧ p.2 = tupO (.str (nmS q.1 q.2.1) t) (.str q.2.2 u))
   (hx : s.heap.get? x = some (instObj 216 dx)) (hxB : B.get? x = none) (hdx : s.heap.get? dx = some (bkD w.params tb H)) (hdB : B.get? dx = none) (hH : s.heap.get? H = some (listOf (cl.map fun p => Value.ref p.1).toArray n)) (hHB : B.get? H = none) (hcs : ∀ p ∈ cl, s.heap.get? p.1 = some p.2 ∧ B.get? p.1 = none) (k9 : Nat) (g9 : Bool) (t9 : Tok) (hk9 : k9 < 3) (y9 : Value)
   (hQ : ∀ h' tk' v, Kp s.heap h' → (match (hs.filter fun q => q.1 == k9).map (·.2.2) with | [] => v = y9 | a :: _ => ∃ t, v = .str a t) → Q v { s with heap := h', toks := tk' }) :
  codeAny (model prg w) (Ar dp fr gd un) (.call (.ref 163) ⟨[.ref x, .str (nmS k9 g9) t9, y9], []⟩) (fun r s' => match r with | .ok (.ret v) => Q v s' | _ => False) s := by
  have X0 := W.X
  have XS : (Mine.hd.heap_1 w.params).In s.heap := X0.keeps kB
  refine' enterN [(Str.ofString "self", .ref x), (Str.ofString "name", .str (nmS k9 g9) t9), (Str.ofString "default", y9)] W kB ((x, instObj 216 dx) :: (dx, bkD w.params tb H) :: (H, listOf (cl.map fun p => Value.ref p.1).toArray n) :: cl) ?kn ?k6 ?k7 ?k8 ?k9 ?kB ?_ ?c2 ?c3 ?c4 ?c5
  case kn => exact List.forall_mem_cons.mpr ⟨⟨hx, hxB⟩, List.forall_mem_cons.mpr ⟨⟨hdx, hdB⟩, List.forall_mem_cons.mpr ⟨⟨hH, hHB⟩, hcs⟩⟩⟩
  case k6 => k_is
  case k7 => k_is
  case k8 => k_room
  case k9 => exact kp_binds XS fun S => by kernel_rfl
  case c5 => decide
  case kB => exact locs rfl
  case c2 => exact rfl
  case c3 => exact rfl
  case c4 => exact rfl
  intro g L h₁ F N Wg hk hL
  have X := Wg.X
  obtain ⟨p9, l9, T⟩ := Wg.T
  clear X0
  replace F : Fr g L h₁ (mp [(Str.ofString "default", y9), (Str.ofString "name", .str (nmS k9 g9) t9), (Str.ofString "self", .ref x)]) := F
  w_on
  have hxL : @LT.lt Nat instLTNat x L := hL x _ hx
  have hdL : @LT.lt Nat instLTNat dx L := hL dx _ hdx
  have hHL : @LT.lt Nat instLTNat H L := hL H _ hH
  have hcL : ∀ p ∈ cl, @LT.lt Nat instLTNat p.1 L := fun p hp => hL _ _ (hcs p hp).1
  unfold bkD at N
  k_steps
  refine Stop.go ?_
  rename Fr _ _ _ _ => F1
  rename News _ _ _ _ => N1
  rename_i t1 _ _ _ _
  refine forListR (σ := Option Value × Option Value) (h₀ := g) (news := (x, instObj 216 dx) :: (dx, dictOf [{ hash := PyData.keyHash w.params (Str.ofString "_headers"), key := Value.str (Str.ofString "_headers") tb, val := Value.ref H }] 1) :: (H, listOf (cl.map fun p => Value.ref p.1).toArray n) :: cl) (its := (cl.map fun p => Value.ref p.1).toArray) (fun c => mo [(Str.ofString "k", c.1), (Str.ofString "v", c.2)] (mp [(Str.ofString "name", .str (nmS k9 false) t1), (Str.ofString "default", y9), (Str.ofString "self", .ref x)])) (fun i c => (hs.take i).filter (fun q => q.1 == k9) = []) (none, none) rfl ?href ?hgo ?_ (fun x => rfl)
  case href => intro v hv; have hv : v ∈ cl.map fun p => Value.ref p.1 := by simpa using hv
               obtain ⟨p, _, e⟩ := List.mem_map.mp hv
               exact ⟨_, e.symm⟩
  case hgo => intro I ax T i s' Q' hit hq; exact wpAny_letOwnedTupleGo_listiter hit hq
  k_steps
  refine Stop.go ?_
  refine ⟨H, _, rfl, .tail _ (.tail _ (.head _)), by is_list, frc F1 (by ktn_open), N1, rfl, ?turn, ?out⟩
  case turn =>
    rintro I j ⟨c1, c2⟩ h2 tk2 T oI hne hv hP F2 N2
    clear F1 N1
    obtain ⟨pj, hpj, rfl⟩ : ∃ p, cl[j]? = some p ∧ T = p.1 := by
      have : (cl.map fun p => Value.ref p.1)[j]? = some (.ref T) := by simpa using hv
      rw [List.getElem?_map] at this
      cases e : cl[j]? with
      | none => rw [e] at this; cases this
      | some p => rw [e] at this; exact ⟨p, rfl, (Value.ref.inj (Option.some.inj this)).symm⟩
    obtain ⟨qj, tj, uj, hqj, hpo⟩ := hcl j pj hpj
    have hqk := hk3 qj (List.mem_of_getElem? hqj)
    have hpN := (N2 pj (.tail _ (.tail _ (.tail _ (.tail _ (List.mem_of_getElem? hpj)))))).1
    rw [hpo] at hpN
    have hT : IsTup h2 pj.1 #[.str (nmS qj.1 qj.2.1) tj, .str qj.2.2 uj] := ⟨_, hpN, rfl, _, rfl⟩
    dsimp only at F2 hP
    k_steps
    · rename Fr _ _ _ _ => F9
      rename News _ _ _ _ => N9
      rename (_ = true) => hb
      have hqe : (qj.1 == k9) = true := beq_iff_eq.mpr ((nm_inj hqk hk9).mp (beq_iff_eq.mp hb))
      obtain ⟨r, er⟩ := first_of (p := fun q : Nat × Bool × Str => q.1 == k9) hP hqj hqe
      refine .inr ⟨_, rfl, ?_⟩
      show Q _ _
      refine hQ _ _ _ (kp_end F9 N9 hk (List.forall_mem_cons.mpr ⟨hx, List.forall_mem_cons.mpr ⟨hdx, List.forall_mem_cons.mpr ⟨hH, fun p hp => (hcs p hp).1⟩⟩⟩) (fun p hp => .tail _ hp)) ?_
      rw [er]
      exact ⟨_, rfl⟩
    · rename Fr _ _ _ _ => F9
      rename News _ _ _ _ => N9
      rename (_ = false) => hb
      have hqe : ¬ (qj.1 == k9) = true := fun h => by
        have := beq_eq_false_iff_ne.mp hb
        exact this ((nm_inj hqk hk9).mpr (beq_iff_eq.mp h))
      refine .inl ⟨rfl, _, _, (some _, some _), rfl, frc F9 (by ktn_open), N9, ?_⟩
      show (hs.take (j + 1)).filter _ = []
      rw [take_snoc hqj, List.filter_append, hP, List.filter_cons_of_neg (p := fun q : Nat × Bool × Str => q.1 == k9) hqe]
      rfl
  case out =>
    rintro ⟨c1, c2⟩ h2 tk2 hP F9 N9
    clear F1 N1
    have hsz : (cl.map fun p => Value.ref p.1).toArray.size = hs.length := by rw [List.size_toArray, List.length_map, hlen]
    rw [hsz, List.take_length] at hP
    dsimp only at F9
    show wpAny _ _ (execs _ _) _ _ _
    k_steps
    refine hQ _ _ _ (kp_end F9 N9 hk (List.forall_mem_cons.mpr ⟨hx, List.forall_mem_cons.mpr ⟨hdx, List.forall_mem_cons.mpr ⟨hH, fun p hp => (hcs p hp).1⟩⟩⟩) (fun p hp => hp)) ?_
    rw [hP]
    rfl
end
section
set_option maxHeartbeats 4000000
open PySem PySem.W PySem.Calls PyProof.Rows
theorem fillS16 : PySem.Challenge.rw_uc0030_01 = PySem.Challenge.rw_uc0030_01 ∧ Mine.hd.heap_1 = Mine.hd.heap_1 := by k_fill; exact ⟨rfl, rfl⟩
theorem items_call {w : World} {mean : ExcName → Option Value} {mg mb : Str → Option Value} {B : Heap} {dp un : Nat} {fr : Option (List Env)} {gd : Option (List Code)} {s : Shared} {Q : Value → Shared → Prop} (W : Wd w mean mg mb B) (kB : Kp B s.heap)
   (hd : dp + 10 < recursionLimit) (hu : un + 120 < cLine) (x dx H : Addr) (tb : Tok) (n : Nat) (cl : List (Addr × Obj)) (hs : List (Nat × Bool × Str)) (hlen : cl.length = hs.length) (hl10 : cl.length < 10) (hk3 : ∀ q ∈ hs, q.1 < 3) (hcl : ∀ (j : Nat) (p : Addr × Obj), cl[j]? = some p → ∃ q t u, hs[j]? = some q ∧ p.2 = tupO (.str (nmS q.1 q.2.1) t) (.str q.2.2 u))
   (hx : s.heap.get? x = some (instObj 216 dx)) (hxB : B.get? x = none) (hdx : s.heap.get? dx = some (bkD w.params tb H)) (hdB : B.get? dx = none) (hH : s.heap.get? H = some (listOf (cl.map fun p => Value.ref p.1).toArray n)) (hHB : B.get? H = none) (hcs : ∀ p ∈ cl, s.heap.get? p.1 = some p.2 ∧ B.get? p.1 = none) 
   (hQ : ∀ h' tk' D, Kp s.heap h' → h'.get? D = some (listOf (cl.map fun p => Value.ref p.1).toArray 0) → s.heap.get? D = none → Q (.ref D) { s with heap := h', toks := tk' }) :
  codeAny (model prg w) (Ar dp fr gd un) (.call (.ref 180) ⟨[.ref x], []⟩) (fun r s' => match r with | .ok (.ret v) => Q v s' | _ => False) s := by
  have X0 := W.X
  have XS : (Mine.hd.heap_1 w.params).In s.heap := X0.keeps kB
  refine' enterN [(Str.ofString "self", .ref x)] W kB ((x, instObj 216 dx) :: (dx, bkD w.params tb H) :: (H, listOf (cl.map fun p => Value.ref p.1).toArray n) :: cl) ?kn ?k6 ?k7 ?k8 ?k9 ?kB ?_ ?c2 ?c3 ?c4 ?c5
  case kn => exact List.forall_mem_cons.mpr ⟨⟨hx, hxB⟩, List.forall_mem_cons.mpr ⟨⟨hdx, hdB⟩, List.forall_mem_cons.mpr ⟨⟨hH, hHB⟩, hcs⟩⟩⟩
  case k6 => k_is
  case k7 => k_is
  case k8 => k_room
  case k9 => exact kp_binds XS fun S => by kernel_rfl
  case c5 => decide
  case kB => exact locs rfl
  case c2 => exact rfl
  case c3 => exact rfl
  case c4 => exact rfl
  intro g L h₁ F N Wg hk hL
  have X := Wg.X
  obtain ⟨p9, l9, T⟩ := Wg.T
  clear X0
  replace F : Fr g L h₁ (mp [(Str.ofString "self", .ref x)]) := F
  w_on
  have hxL : @LT.lt Nat instLTNat x L := hL x _ hx
  have hdL : @LT.lt Nat instLTNat dx L := hL dx _ hdx
  have hHL : @LT.lt Nat instLTNat H L := hL H _ hH
  have hcL : ∀ p ∈ cl, @LT.lt Nat instLTNat p.1 L := fun p hp => hL _ _ (hcs p hp).1
  have hlt : ∀ p ∈ (x, instObj 216 dx) :: (dx, bkD w.params tb H) :: (H, listOf (cl.map fun p => Value.ref p.1).toArray n) :: cl, p.1 < h₁.objs.size := fun p hp => Heap.lt_size (N p hp).1
  unfold bkD at N
  k_steps
  clear F N
  rename Fr _ _ _ _ => F2
  rename News _ _ _ _ => N2
  rw [slicePick_all] at N2
  show Q _ _
  exact hQ _ _ _ (kp_end F2 N2 hk (List.forall_mem_cons.mpr ⟨hx, List.forall_mem_cons.mpr ⟨hdx, List.forall_mem_cons.mpr ⟨hH, fun p hp => (hcs p hp).1⟩⟩⟩) (fun p hp => .tail _ hp)) (N2 _ (.head _)).1 (fresh_of N2 (.head _) hk (fun p hp => Nat.ne_of_lt (Nat.lt_succ_of_lt (hlt p hp))))
end
section
set_option maxHeartbeats 4000000
open PySem PySem.W PySem.Calls PyProof.Rows
namespace B2
theorem fillS18b : PySem.Challenge.rw_uc0030_01 = PySem.Challenge.rw_uc0030_01 ∧ Mine.hd.heap_1 = Mine.hd.heap_1 := by k_fill; exact ⟨rfl, rfl⟩
local macro_rules | `(tactic| walk_at "ite") => `(tactic| (with_reducible refine ite_b17 (fun hb => ?_) (fun hb => ?_)))
theorem first_of {α : Type} {p : α → Bool} {l : List α} {j : Nat} {q : α} (h : (l.take j).filter p = []) (hq : l[j]? = some q) (hp : p q = true) : ∃ r, l.filter p = q :: r := by
  refine ⟨(l.drop (j + 1)).filter p, ?_⟩
  conv => lhs; rw [← List.take_append_drop (j + 1) l]
  rw [List.filter_append, take_snoc hq, List.filter_append, h, List.filter_cons_of_pos hp]
  rfl
local macro_rules | `(tactic| walk_at $k:str) => if ["exec For", "exec For Tuple Attribute cons nil", "ListR"].contains k.getString then `(tactic| refine stop_of ?_) else Lean.Macro.throwUnsupported
theorem get_call {w : World} {mean : ExcName → Option Value} {mg mb : Str → Option Value} {B : Heap} {dp un : Nat} {fr : Option (List Env)} {gd : Option (List Code)} {s : Shared} {Q : Value → Shared → Prop} (W : Wd w mean mg mb B) (kB : Kp B s.heap)
   (hd : dp + 10 < recursionLimit) (hu : un + 120 < cLine) (x dx H : Addr) (tb : Tok) (n : Nat) (cl : List (Addr × Obj)) (hs : List (Nat × Bool × Str)) (hlen : cl.length = hs.length) (hl10 : cl.length < 10) (hk3 : ∀ q ∈ hs, q.1 < 3) (hcl : ∀ (j : Nat) (p : Addr × Obj), cl[j]? = some p → ∃ q t u, hs[j]? = some q ∧ p.2 = tupO (.str (nmS q.1 q.2.1) t) (.str q.2.2 u))
   (hx : s.heap.get? x = some (instObj 216 dx)) (hxB : B.get? x = none) (hdx : s.heap.get? dx = some (bkD w.params tb H)) (hdB : B.get? dx = none) (hH : s.heap.get? H = some (listOf (cl.map fun p => Value.ref p.1).toArray n)) (hHB : B.get? H = none) (hcs : ∀ p ∈ cl, s.heap.get? p.1 = some p.2 ∧ B.get? p.1 = none) (k9 : Nat) (g9 : Bool) (t9 : Tok) (hk9 : k9 < 3)
   (hQ : ∀ h' tk' v, Kp s.heap h' → (match (hs.filter fun q => q.1 == k9).map (·.2.2) with | [] => v = Value.none | a :: _ => ∃ t, v = .str a t) → Q v { s with heap := h', toks := tk' }) :
  codeAny (model prg w) (Ar dp fr gd un) (.call (.ref 163) ⟨[.ref x, .str (nmS k9 g9) t9], []⟩) (fun r s' => match r with | .ok (.ret v) => Q v s' | _ => False) s := by
  have X0 := W.X
  have XS : (Mine.hd.heap_1 w.params).In s.heap := X0.keeps kB
  refine' enterN [(Str.ofString "self", .ref x), (Str.ofString "name", .str (nmS k9 g9) t9), (Str.ofString "default", Value.none)] W kB ((x, instObj 216 dx) :: (dx, bkD w.params tb H) :: (H, listOf (cl.map fun p => Value.ref p.1).toArray n) :: cl) ?kn ?k6 ?k7 ?k8 ?k9 ?kB ?_ ?c2 ?c3 ?c4 ?c5
  case kn => exact List.forall_mem_cons.mpr ⟨⟨hx, hxB⟩, List.forall_mem_cons.mpr ⟨⟨hdx, hdB⟩, List.forall_mem_cons.mpr ⟨⟨hH, hHB⟩, hcs⟩⟩⟩
  case k6 => k_is
  case k7 => k_is
  case k8 => k_room
  case k9 => exact kp_binds XS fun S => by kernel_rfl
  case c5 => decide
  case kB => exact locs rfl
  case c2 => exact rfl
  case c3 => exact rfl
  case c4 => exact rfl
  intro g L h₁ F N Wg hk hL
  have X := Wg.X
  obtain ⟨p9, l9, T⟩ := Wg.T
  clear X0
  replace F : Fr g L h₁ (mp [(Str.ofString "default", Value.none), (Str.ofString "name", .str (nmS k9 g9) t9), (Str.ofString "self", .ref x)]) := F
  w_on
  have hxL : @LT.lt Nat instLTNat x L := hL x _ hx
  have hdL : @LT.lt Nat instLTNat dx L := hL dx _ hdx
  have hHL : @LT.lt Nat instLTNat H L := hL H _ hH
  have hcL : ∀ p ∈ cl, @LT.lt Nat instLTNat p.1 L := fun p hp => hL _ _ (hcs p hp).1
  unfold bkD at N
  k_steps
  refine Stop.go ?_
  rename Fr _ _ _ _ => F1
  rename News _ _ _ _ => N1
  rename_i t1 _ _ _ _
  refine forListR (σ := Option Value × Option Value) (h₀ := g) (news := (x, instObj 216 dx) :: (dx, dictOf [{ hash := PyData.keyHash w.params (Str.ofString "_headers"), key := Value.str (Str.ofString "_headers") tb, val := Value.ref H }] 1) :: (H, listOf (cl.map fun p => Value.ref p.1).toArray n) :: cl) (its := (cl.map fun p => Value.ref p.1).toArray) (fun c => mo [(Str.ofString "k", c.1), (Str.ofString "v", c.2)] (mp [(Str.ofString "name", .str (nmS k9 false) t1), (Str.ofString "default", Value.none), (Str.ofString "self", .ref x)])) (fun i c => (hs.take i).filter (fun q => q.1 == k9) = []) (none, none) rfl ?href ?hgo ?_ (fun x => rfl)
  case href => intro v hv; have hv : v ∈ cl.map fun p => Value.ref p.1 := by simpa using hv
               obtain ⟨p, _, e⟩ := List.mem_map.mp hv
               exact ⟨_, e.symm⟩
  case hgo => intro I ax T i s' Q' hit hq; exact wpAny_letOwnedTupleGo_listiter hit hq
  k_steps
  refine Stop.go ?_
  refine ⟨H, _, rfl, .tail _ (.tail _ (.head _)), by is_list, frc F1 (by ktn_open), N1, rfl, ?turn, ?out⟩
  case turn =>
    rintro I j ⟨c1, c2⟩ h2 tk2 T oI hne hv hP F2 N2
    clear F1 N1
    obtain ⟨pj, hpj, rfl⟩ : ∃ p, cl[j]? = some p ∧ T = p.1 := by
      have : (cl.map fun p => Value.ref p.1)[j]? = some (.ref T) := by simpa using hv
      rw [List.getElem?_map] at this
      cases e : cl[j]? with
      | none => rw [e] at this; cases this
      | some p => rw [e] at this; exact ⟨p, rfl, (Value.ref.inj (Option.some.inj this)).symm⟩
    obtain ⟨qj, tj, uj, hqj, hpo⟩ := hcl j pj hpj
    have hqk := hk3 qj (List.mem_of_getElem? hqj)
    have hpN := (N2 pj (.tail _ (.tail _ (.tail _ (.tail _ (List.mem_of_getElem? hpj)))))).1
    rw [hpo] at hpN
    have hT : IsTup h2 pj.1 #[.str (nmS qj.1 qj.2.1) tj, .str qj.2.2 uj] := ⟨_, hpN, rfl, _, rfl⟩
    dsimp only at F2 hP
    k_steps
    · rename Fr _ _ _ _ => F9
      rename News _ _ _ _ => N9
      rename (_ = true) => hb
      have hqe : (qj.1 == k9) = true := beq_iff_eq.mpr ((nm_inj hqk hk9).mp (beq_iff_eq.mp hb))
      obtain ⟨r, er⟩ := first_of (p := fun q : Nat × Bool × Str => q.1 == k9) hP hqj hqe
      refine .inr ⟨_, rfl, ?_⟩
      show Q _ _
      refine hQ _ _ _ (kp_end F9 N9 hk (List.forall_mem_cons.mpr ⟨hx, List.forall_mem_cons.mpr ⟨hdx, List.forall_mem_cons.mpr ⟨hH, fun p hp => (hcs p hp).1⟩⟩⟩) (fun p hp => .tail _ hp)) ?_
      rw [er]
      exact ⟨_, rfl⟩
    · rename Fr _ _ _ _ => F9
      rename News _ _ _ _ => N9
      rename (_ = false) => hb
      have hqe : ¬ (qj.1 == k9) = true := fun h => by
        have := beq_eq_false_iff_ne.mp hb
        exact this ((nm_inj hqk hk9).mpr (beq_iff_eq.mp h))
      refine .inl ⟨rfl, _, _, (some _, some _), rfl, frc F9 (by ktn_open), N9, ?_⟩
      show (hs.take (j + 1)).filter _ = []
      rw [take_snoc hqj, List.filter_append, hP, List.filter_cons_of_neg (p := fun q : Nat × Bool × Str => q.1 == k9) hqe]
      rfl
  case out =>
    rintro ⟨c1, c2⟩ h2 tk2 hP F9 N9
    clear F1 N1
    have hsz : (cl.map fun p => Value.ref p.1).toArray.size = hs.length := by rw [List.size_toArray, List.length_map, hlen]
    rw [hsz, List.take_length] at hP
    dsimp only at F9
    show wpAny _ _ (execs _ _) _ _ _
    k_steps
    refine hQ _ _ _ (kp_end F9 N9 hk (List.forall_mem_cons.mpr ⟨hx, List.forall_mem_cons.mpr ⟨hdx, List.forall_mem_cons.mpr ⟨hH, fun p hp => (hcs p hp).1⟩⟩⟩) (fun p hp => hp)) ?_
    rw [hP]
    rfl
end B2
end
section
set_option maxHeartbeats 4000000
open PySem PySem.W PySem.Calls PyProof.Rows
theorem fillS19 : PySem.Challenge.rw_uc0030_01 = PySem.Challenge.rw_uc0030_01 ∧ Mine.hd.heap_1 = Mine.hd.heap_1 := by k_fill; exact ⟨rfl, rfl⟩
local macro_rules | `(tactic| walk_at $k:str) => if ["call builtin:list.append", "call builtin:str.join", "exec For", "exec For Tuple Call cons nil", "call builtin:dict.items"].contains k.getString then `(tactic| refine stop_of ?_) else Lean.Macro.throwUnsupported
theorem join1 (sep y : Str) : Txt.join sep [y] = y := by
  rfl
theorem add_call {w : World} {mean : ExcName → Option Value} {mg mb : Str → Option Value} {B : Heap} {dp un : Nat} {fr : Option (List Env)} {gd : Option (List Code)} {s : Shared} {Q : Value → Shared → Prop} (W : Wd w mean mg mb B) (kB : Kp B s.heap)
   (hd : dp + 10 < recursionLimit) (hu : un + 120 < cLine) (x dx H : Addr) (tb : Tok) (n : Nat) (cl : List (Addr × Obj)) (hs : List (Nat × Bool × Str)) (hlen : cl.length = hs.length) (hl10 : cl.length < 10) (hk3 : ∀ q ∈ hs, q.1 < 3) (hcl : ∀ (j : Nat) (p : Addr × Obj), cl[j]? = some p → ∃ q t u, hs[j]? = some q ∧ p.2 = tupO (.str (nmS q.1 q.2.1) t) (.str q.2.2 u))
   (hx : s.heap.get? x = some (instObj 216 dx)) (hxB : B.get? x = none) (hdx : s.heap.get? dx = some (bkD w.params tb H)) (hdB : B.get? dx = none) (hH : s.heap.get? H = some (listOf (cl.map fun p => Value.ref p.1).toArray n)) (hHB : B.get? H = none) (hcs : ∀ p ∈ cl, s.heap.get? p.1 = some p.2 ∧ B.get? p.1 = none) (k9 : Nat) (g9 : Bool) (t9 : Tok) (hk9 : k9 < 3) (y9 : Str) (u9 : Tok) (hy : Clean false y9) (hyl : ([y9].map (·.length)).sum + [y9].length * (Str.ofString "; ").length ≤ 16777216)
   (hQ : ∀ h' tk' T t u, (∀ b o, b ≠ H → s.heap.get? b = some o → h'.get? b = some o) → h'.get? T = some (tupO (.str (nmS k9 g9) t) (.str y9 u)) → s.heap.get? T = none → h'.get? H = some (listOf ((cl.map fun p : Addr × Obj => Value.ref p.1) ++ [Value.ref T]).toArray (n + 1)) → Q .none { s with heap := h', toks := tk' }) :
  codeAny (model prg w) (Ar dp fr gd un) (.call (.ref 213) ⟨[.ref x, .str (nmS k9 g9) t9, .str y9 u9], []⟩) (fun r s' => match r with | .ok (.ret v) => Q v s' | _ => False) s := by
  have X0 := W.X
  refine' enterK (fun vD => [(Str.ofString "self", .ref x), (Str.ofString "_name", .str (nmS k9 g9) t9), (Str.ofString "_value", .str y9 u9), (Str.ofString "_params", vD)]) W kB ((x, instObj 216 dx) :: (dx, bkD w.params tb H) :: (H, listOf (cl.map fun p => Value.ref p.1).toArray n) :: cl) ?kn ?k6 ?k7 ?k8 ?k9 ?kB ?_ ?c2 ?c3 ?c4 ?c5
  case kn => exact List.forall_mem_cons.mpr ⟨⟨hx, hxB⟩, List.forall_mem_cons.mpr ⟨⟨hdx, hdB⟩, List.forall_mem_cons.mpr ⟨⟨hH, hHB⟩, hcs⟩⟩⟩
  case k6 => k_is
  case k7 => k_is
  case k8 => k_room
  case k9 => kernel_rfl
  case c5 => decide
  case kB => exact fun _ => locs rfl
  case c2 => exact rfl
  case c3 => exact rfl
  case c4 => exact rfl
  intro D9 g L h₁ tk F N Wg hk hLD hDL
  have X := Wg.X
  obtain ⟨p9, l9, T⟩ := Wg.T
  clear X0
  replace F : Fr g L h₁ (mp [(Str.ofString "_params", .ref D9), (Str.ofString "_value", .str y9 u9), (Str.ofString "_name", .str (nmS k9 g9) t9), (Str.ofString "self", .ref x)]) := F
  w_on
  have hxD : @LT.lt Nat instLTNat x D9 := hLD x _ hx
  have hdD : @LT.lt Nat instLTNat dx D9 := hLD dx _ hdx
  have hHD : @LT.lt Nat instLTNat H D9 := hLD H _ hH
  have hcD : ∀ p ∈ cl, @LT.lt Nat instLTNat p.1 D9 := fun p hp => hLD _ _ (hcs p hp).1
  unfold bkD at N
  k_steps
  refine Stop.go ?_
  rename Fr _ _ _ _ => F1
  rename News _ _ _ _ => N1
  rename_i P _ l1 _ _ _ _ _
  have hPc : ∀ p ∈ cl, p.1 ≠ P := fun p hp => Nat.ne_of_lt (allLt_mem l1.2.2.2.2 p hp)
  refine append_K F1 N1 (.head (List.forall_mem_cons.mpr ⟨Nat.ne_of_lt l1.1, List.forall_mem_cons.mpr ⟨Nat.ne_of_lt l1.2.1, List.forall_mem_cons.mpr ⟨Nat.ne_of_lt l1.2.2.1, List.forall_mem_cons.mpr ⟨Nat.ne_of_lt l1.2.2.2.1, hPc⟩⟩⟩⟩)) (fun h9 F9 N9 => ?_) (size_small (by decide))
  clear F1 N1
  k_steps
  refine Stop.go ?_
  refine wpAny_For (hs := fun x => rfl) ?_
  k_steps
  have zD := N9 (D9, emptyDict) (by k_mem)
  refine getMethod_builtin (T := "dict") ⟨_, zD.1, rfl⟩ PySem.F.plainAttrs_dict PySem.F.slot_dict_items PySem.F.type_dict_items (fun a e => by cases e; exact ⟨_, zD.1, rfl⟩) ?_
  k_steps
  refine Stop.go ?_
  have hsm : (D9 == sysModules) = false := beq_false_of_ne fun q => by
    have h3 : @LT.lt Nat instLTNat 3 D9 := hLD 3 _ (kB _ _ (W.X 3 _ (by k_is)))
    rw [q] at h3
    exact absurd h3 (by decide)
  refine no_items rfl zD.1 hsm fun h8 up8 => ?_
  replace F9 := F9.keeps up8
  replace N9 := N9.grown up8
  dsimp only
  k_steps
  refine Stop.go ?_
  rename News _ _ _ _ => N1
  refine join_list (x := Str.ofString "; ") (items := #[.str y9 u9]) (ys := [y9]) (by is_list) (.cons _ _ .nil) hyl (fun t8 j8 => ?_)
  rw [join1]
  k_steps
  refine Stop.go ?_
  rename Fr _ _ _ _ => F2
  rename News _ _ _ _ => N2
  rename (_ < _ ∧ _ < _ ∧ _) => lT
  rename_i T _
  obtain ⟨hPT, hDT, hxT, hdT, hHT, hcT⟩ := lT
  obtain ⟨tT, N2⟩ : ∃ tT, News g L _ ((T, tupO (.str (nmS k9 g9) t9) (.str y9 tT)) :: _) := ⟨_, N2⟩
  have hcH : ∀ p ∈ cl, p.1 ≠ H := fun p hp q => by
    have z := (hcs p hp).1
    rw [q, hH] at z
    obtain ⟨j, hj⟩ := List.getElem?_of_mem hp
    obtain ⟨_, _, _, _, e⟩ := hcl j p hj
    rw [e] at z
    injection (Option.some.inj z) with z1 z2 z3
    exact absurd (Value.type.inj z1) (by decide)
  have hxH : x ≠ H := fun q => by
    rw [q, hH] at hx
    injection (Option.some.inj hx) with z1 z2 z3
    cases z1
  have hdH : dx ≠ H := fun q => by
    rw [q, hH] at hdx
    injection (Option.some.inj hdx) with z1 z2 z3
    cases z3
  refine append_K F2 N2 (.tail (Nat.ne_of_gt hHT) (.tail (Nat.ne_of_gt l1.2.2.2.1) (.tail (Nat.ne_of_gt hHD) (.tail hxH (.tail hdH (.head hcH)))))) (fun h7 F7 N7 => ?_) (size_small (by simp; omega))
  k_steps
  have zH : h7.get? H = some (listOf ((cl.map fun p => Value.ref p.1).toArray.push (.ref T)) (n + 1)) := (N7 (H, _) (.tail _ (.tail _ (.tail _ (.tail _ (.tail _ (.head _))))))).1
  rw [List.push_toArray] at zH
  refine hQ _ _ T t9 tT (but_of F7 N7 hk (List.forall_mem_cons.mpr ⟨hx, List.forall_mem_cons.mpr ⟨hdx, List.forall_mem_cons.mpr ⟨hH, fun p hp => (hcs p hp).1⟩⟩⟩) (List.forall_mem_cons.mpr ⟨fun _ => by k_mem, List.forall_mem_cons.mpr ⟨fun _ => by k_mem, List.forall_mem_cons.mpr ⟨fun h => absurd rfl h, fun p hp _ => .tail _ (.tail _ (.tail _ (.tail _ (.tail _ (.tail _ hp)))))⟩⟩⟩)) (N7 _ (.head _)).1 (fresh_of N7 (.head _) hk (List.forall_mem_cons.mpr ⟨Nat.ne_of_lt hxT, List.forall_mem_cons.mpr ⟨Nat.ne_of_lt hdT, List.forall_mem_cons.mpr ⟨Nat.ne_of_lt hHT, fun p hp => Nat.ne_of_lt (allLt_mem hcT p hp)⟩⟩⟩)) zH
end
section
open PySem PySem.W PySem.Calls PyProof.Rows
section
variable {prog : Program} {w : World} {A : Around} {E : Value → Shared → Prop} {s : Shared}
theorem set_all {H sl D : Addr} {items new : Array Value} {n n' : Nat} {Q : Unit → Shared → Prop} (ho : s.heap.get? H = some (listOf items n)) (hD : s.heap.get? D = some (listOf new n')) (hne : H ≠ D)
    (hs : s.heap.IsSliceOf sl .none .none .none) (hsz : items.size + new.size < 100000)
    (h : ∀ h' n'', h'.get? H = some (listOf new n'') → Heap.SameBut H s.heap h' → Q () { s with heap := h' }) : wpAny (model prog w) A (setItem (.ref H) (.ref sl) (.ref D)) Q E s := by
  have hl : s.heap.IsList H items := PySem.IsL.isList (n := n) ho
  have hlD : s.heap.IsList D new := PySem.IsL.isList (n := n') hD
  obtain ⟨os, hos, hcs, hds⟩ := id hs
  have hTs : s.TypeIs (.ref sl) "slice" := ⟨os, hos, hcs⟩
  unfold setItem
  try with_reducible refine wpAny_holding ?_
  first | refine wpAny_bind (wpAny_pure ?_) | skip
  refine wpAny_bind (wpAny_sequenceKey hl.typeIs (by decide) ?_)
  refine wpAny_bind (wpAny_callSpecial?_slot (name := Str.ofString "__setitem__") hl.typeIs PySem.F.slot_list_setitem
    (wpAny_call_entry PySem.F.slot_list_setitem hl.typeIs PySem.F.entry_list_setitem ?_ (args_list_setitem _ _ _)))
  show wpAny _ _ (Builtin.List.listSubscript? (.ref sl) >>= _) _ _ s
  refine wpAny_bind ?_
  unfold Builtin.List.listSubscript?
  refine wpAny_bind (wpAny_specialOf hTs slice_no_index ?_)
  simp only [Option.isNone_none, if_true]
  refine wpAny_pure ?_
  show wpAny _ _ (typeOf (.ref sl) >>= _) _ _ s
  refine wpAny_bind (wpAny_typeOf hTs ?_)
  rw [if_neg (by decide)]
  rw [listSliceParts_eq]
  refine wpAny_bind (wpAny_bind (wpAny_field hos hds (x := .none) rfl (wpAny_bind (wpAny_listPart (k := none) IsPart.none ?_))))
  rw [if_neg (by decide)]
  refine wpAny_bind (wpAny_field hos hds (x := .none) rfl (wpAny_bind (wpAny_listPart (k := none) IsPart.none ?_)))
  refine wpAny_bind (wpAny_field hos hds (x := .none) rfl (wpAny_bind (wpAny_listPart (k := none) IsPart.none (wpAny_pure ?_))))
  have hsr : Builtin.List.listSameRef (Value.ref H) (Value.ref D) = false := beq_false_of_ne hne
  rw [hsr, if_neg Bool.false_ne_true]
  refine wpAny_bind (m := Builtin.List.listAllItems _ _) ?_
  unfold Builtin.List.listAllItems
  refine wpAny_bind (wpAny_typeOf hlD.typeIs ?_)
  rw [if_pos (by decide)]
  refine listItems_at hD rfl ?_
  refine wpAny_bind (listItems_at ho rfl ?_)
  refine wpAny_bind (wpAny_of_eq (sliceIndices_raw none none none items.size (by decide)) ?_)
  rw [sliceBounds_plain]
  dsimp only [Option.elim]
  rw [if_pos (by decide)]
  refine wpAny_bind (wpAny_rule ?_)
  have htl : Builtin.List.listTooLong (items.size + new.size) = false := by
    unfold Builtin.List.listTooLong
    simp [sizeLine_eq]
    omega
  rw [htl, if_neg Bool.false_ne_true]
  have hx : items.extract 0 (((0 : Nat) : Int).toNat) ++ new ++ items.extract (max ((0 : Nat) : Int) ((items.size : Nat) : Int)).toNat = new := by
    have e1 : (max ((0 : Nat) : Int) ((items.size : Nat) : Int)).toNat = items.size := by omega
    simp only [e1]
    simp
  refine wpAny_bind (listUpdate_at ho rfl ?_ (by rw [sizeLine_eq]; omega) (by show (_ : Array Value).size ≤ _; rw [hx, sizeLine_eq]; omega))
  have hg := get?_update_seq (c := "list") ho (fun xs : Array Value => xs.extract 0 (((0 : Nat) : Int).toNat) ++ new ++ xs.extract (max ((0 : Nat) : Int) ((items.size : Nat) : Int)).toNat)
  simp only [hx] at hg
  exact wpAny_bind (wpAny_letGo (wpAny_pure ⟨_, rfl, wpAny_pure (h _ _ hg (Heap.SameBut.update ..))⟩))
end
section
variable {M : Model} {A : Around} {E : Value → Shared → Prop} {s : Shared} {K : Frag} {x C f L : Addr} {h₀ : Heap} {m : Str → Option Value} {ox : Obj} {od : Option Obj} {i : Value}
theorem del_own {Q : Unit → Shared → Prop} (F : Fr h₀ L s.heap m) (X₀ : K.In h₀) (I : InstAt s.heap x ox C od) (hq : noSeq K C = true) (hs : findIn K (.ref C) "__delitem__" = some (some (.ref f))) (hf : isFn K (.ref f) = true)
    (h : wpAny M A (call (.ref f) [.ref x, i]) (fun _ s' => Q () s') E s) : wpAny M A (delItem (.ref x) i) Q E s := by
  have X := X₀.keeps F.keep
  unfold delItem sequenceKey
  refine wpAny_holding (wpAny_bind (wpAny_bind (I.type.here ?_)))
  refine wpAny_bind ((anyM_none X hq).here ?_)
  rw [if_pos (show (!false) = true from rfl)]
  exact wpAny_pure (wpAny_bind (special_fn X I hs (beq_iff_eq.mp hf) (wpAny_mono h (fun _ _ z => wpAny_pure z) fun _ _ z => z)))
end
end
section
set_option maxHeartbeats 4000000
open PySem PySem.W PySem.Calls PyProof.Rows
theorem fillS20 : PySem.Challenge.rw_uc0030_01 = PySem.Challenge.rw_uc0030_01 ∧ Mine.hd.heap_1 = Mine.hd.heap_1 := by k_fill; exact ⟨rfl, rfl⟩
local macro_rules | `(tactic| walk_at $k:str) => if ["eval ListComp", "CompSrcT", "CompRestT", "CompEnd"].contains k.getString then `(tactic| refine stop_of ?_) else Lean.Macro.throwUnsupported
local macro_rules | `(tactic| walk_at "subscriptTail") => `(tactic| (with_reducible show wpAny _ _ (subscriptTail _ _ (Value.ref _) (Value.int _ _)) _ _ _; refine stop_of ?_))
section
variable {prog : Program} {w : World} {A : Around} {E : Value → Shared → Prop} {s : Shared} {value slice : PySem.Expr} {T : Addr} {a b : Value} {u : Tok} {Q : Value → Shared → Prop}
theorem r_pair0x (h : s.heap.get? T = some (tupO a b)) (hq : Q a s)
    (hs : subscripted slice false (.ref T) (.int 0 u) = operate [.ref T, .int 0 u] (getItem (.ref T) (.int 0 u)) := by with_unfolding_all rfl) (hg : ∀ r, letTemporaryGo value (.ref T) r = pure () := by intro _; with_unfolding_all rfl) :
    wpAny (model prog w) A (subscriptTail value slice (.ref T) (.int 0 u)) Q E s :=
  item_tuple (items := #[a, b]) (j := 0) (x := a) ⟨_, h, rfl, _, rfl⟩ (by decide) (by decide) rfl rfl hq hs hg
theorem r_pair1x (h : s.heap.get? T = some (tupO a b)) (hq : Q b s)
    (hs : subscripted slice false (.ref T) (.int 1 u) = operate [.ref T, .int 1 u] (getItem (.ref T) (.int 1 u)) := by with_unfolding_all rfl) (hg : ∀ r, letTemporaryGo value (.ref T) r = pure () := by intro _; with_unfolding_all rfl) :
    wpAny (model prog w) A (subscriptTail value slice (.ref T) (.int 1 u)) Q E s :=
  item_tuple (items := #[a, b]) (j := 1) (x := b) ⟨_, h, rfl, _, rfl⟩ (by decide) (by decide) rfl rfl hq hs hg
end
theorem ite_b20 {b : Bool} {P R : Prop} {inst : Decidable (b = true)} (h1 : b = true → P) (h2 : b = false → R) : @ite Prop (b = true) inst P R := by
  cases b
  · rw [if_neg Bool.false_ne_true]; exact h2 rfl
  · rw [if_pos rfl]; exact h1 rfl
local macro_rules | `(tactic| walk_at "ite") => `(tactic| (with_reducible refine ite_b20 (fun hb => ?_) (fun hb => ?_)))
local macro_rules | `(tactic| walk_at "exec Assign cons ListComp") => `(tactic| fail "no")
theorem del_call {w : World} {mean : ExcName → Option Value} {mg mb : Str → Option Value} {B : Heap} {dp un : Nat} {fr : Option (List Env)} {gd : Option (List Code)} {s : Shared} {Q : Value → Shared → Prop} (W : Wd w mean mg mb B) (kB : Kp B s.heap)
   (hd : dp + 10 < recursionLimit) (hu : un + 120 < cLine) (x dx H : Addr) (tb : Tok) (n : Nat) (cl : List (Addr × Obj)) (hs : List (Nat × Bool × Str)) (hlen : cl.length = hs.length) (hl10 : cl.length < 10) (hk3 : ∀ q ∈ hs, q.1 < 3) (hcl : ∀ (j : Nat) (p : Addr × Obj), cl[j]? = some p → ∃ q t u, hs[j]? = some q ∧ p.2 = tupO (.str (nmS q.1 q.2.1) t) (.str q.2.2 u))
   (hx : s.heap.get? x = some (instObj 216 dx)) (hxB : B.get? x = none) (hdx : s.heap.get? dx = some (bkD w.params tb H)) (hdB : B.get? dx = none) (hH : s.heap.get? H = some (listOf (cl.map fun p => Value.ref p.1).toArray n)) (hHB : B.get? H = none) (hcs : ∀ p ∈ cl, s.heap.get? p.1 = some p.2 ∧ B.get? p.1 = none) (k9 : Nat) (g9 : Bool) (t9 : Tok) (hk9 : k9 < 3)
   (hQ : ∀ h' tk' (cl' : List (Addr × Obj)) n', cl' = ((cl.zip hs).filter fun z => !(z.2.1 == k9)).map (·.1) → (∀ b o, b ≠ H → s.heap.get? b = some o → h'.get? b = some o) → h'.get? H = some (listOf (cl'.map fun p => Value.ref p.1).toArray n') → Q .none { s with heap := h', toks := tk' }) :
  codeAny (model prg w) (Ar dp fr gd un) (.call (.ref 136) ⟨[.ref x, .str (nmS k9 g9) t9], []⟩) (fun r s' => match r with | .ok (.ret v) => Q v s' | _ => False) s := by
  have X0 := W.X
  refine' enterC [(Str.ofString "self", .ref x), (Str.ofString "name", .str (nmS k9 g9) t9)] W kB ((x, instObj 216 dx) :: (dx, bkD w.params tb H) :: (H, listOf (cl.map fun p => Value.ref p.1).toArray n) :: cl) ?kn ?k6 ?k7 ?k8 ?k9 ?kB ?kD ?_ ?c2 ?c3 ?c4
  case kn => exact List.forall_mem_cons.mpr ⟨⟨hx, hxB⟩, List.forall_mem_cons.mpr ⟨⟨hdx, hdB⟩, List.forall_mem_cons.mpr ⟨⟨hH, hHB⟩, hcs⟩⟩⟩
  case k6 => k_is
  case k7 => k_is
  case k8 => k_room
  case k9 => exact BindsTo.of_eq rfl
  case kD => decide +kernel
  case kB => exact rfl
  case c2 => exact rfl
  case c3 => exact rfl
  case c4 => exact rfl
  intro g L h₁ tk cells F N Y Wg hk hL
  have X := Wg.X
  obtain ⟨p9, l9, T⟩ := Wg.T
  clear X0
  k_cells Y
  have hxL : @LT.lt Nat instLTNat x L := hL x _ hx
  have hdL : @LT.lt Nat instLTNat dx L := hL dx _ hdx
  have hHL : @LT.lt Nat instLTNat H L := hL H _ hH
  have hcL : ∀ p ∈ cl, @LT.lt Nat instLTNat p.1 L := fun p hp => hL _ _ (hcs p hp).1
  rename_i o1 d1
  replace F : Fr g L h₁ (mp [(Str.ofString "self", .ref x)]) := frc F (by funext y; rfl)
  replace d1 : o1.data = .cell (some (.str (nmS k9 g9) t9)) := d1
  replace N : News g L h₁ ((L + 1, o1) :: (x, instObj 216 dx) :: (dx, bkD w.params tb H) :: (H, listOf (cl.map fun p => Value.ref p.1).toArray n) :: cl) := N
  have hAc : ∀ p ∈ cl, p.1 ≠ L + 1 := fun p hp => Nat.ne_of_lt (Nat.lt_succ_of_lt (hcL p hp))
  unfold bkD at N
  w_on
  k_steps
  refine Stop.go ?_
  k_dflt (refine LCt.ListComp_T (F₀ := by k_asm) (by with_unfolding_all rfl) (by decide) (by rfl) (by decide) (by rfl) ?_)
  k_steps
  refine Stop.go ?_
  rename Fr _ _ _ _ => F1
  rename News _ _ _ _ => N1
  refine LCt.CompSrcT.ledger (ax := H) (its := (cl.map fun p => Value.ref p.1).toArray) (k := n) rfl F1 N1 (by k_mem) (size_small (by simp; omega)) ?_
  intro g'
  with_unfolding_all refine restT_inv (n := (cl.map fun p => Value.ref p.1).toArray.size) (fun _ : Unit => _) (fun j ys _ => ys = (((cl.zip hs).take j).filter fun z => !(z.2.1 == k9)).map fun z => Value.ref z.1.1) ?turn ?fin _ 0 [] () (Nat.zero_add _) rfl
  case turn =>
    rintro j ys _ v I oI C oC D m₂ h2 tk2 E' hj hJ hv hC hx F2 N2 off2 ne2
    clear F1 N1
    have hj6 : j < cl.length := by simpa using hj
    obtain ⟨pj, hpj⟩ : ∃ p, cl[j]? = some p := ⟨_, List.getElem?_eq_getElem hj6⟩
    obtain ⟨qj, tj, uj, hqj, hpo⟩ := hcl j pj hpj
    have hvp : v = .ref pj.1 := by
      have : (cl.map fun p => Value.ref p.1)[j]? = some v := by simpa using hv
      rw [List.getElem?_map, hpj] at this
      exact (Option.some.inj this).symm
    subst hvp
    have hqk := hk3 qj (List.mem_of_getElem? hqj)
    have hzj : (cl.zip hs)[j]? = some (pj, qj) := by rw [List.getElem?_zip_eq_some]; exact ⟨hpj, hqj⟩
    have hpN := (N2 pj (.tail _ (.tail _ (.tail _ (.tail _ (.tail _ (.tail _ (.tail _ (List.mem_of_getElem? hpj))))))))).1
    rw [hpo] at hpN
    k_steps
    refine Stop.go ?_
    refine r_pair0 hpN ?_
    k_steps
    · refine Stop.go ?_
      rename (_ = true) => hb
      have hqe : (!(qj.1 == k9)) = true := by
        rw [Bool.not_eq_true', beq_eq_false_iff_ne]
        exact fun h => (bne_iff_ne.mp hb) ((nm_inj hqk hk9).mpr h)
      exact LCg.CompEnd.intro F2 N2 _ (fun _ h => h) off2 trivial ⟨(), fun _ h => h, .inr ⟨_, by k_mem, rfl, _, rfl⟩, by
        rw [take_snoc hzj, List.filter_append, List.map_append, List.filter_cons_of_pos (p := fun z : (Addr × Obj) × (Nat × Bool × Str) => !(z.2.1 == k9)) hqe, hJ]
        rfl⟩
    · refine Stop.go ?_
      rename (_ = false) => hb
      have hqe : ¬ (!(qj.1 == k9)) = true := by
        rw [Bool.not_eq_true', beq_eq_false_iff_ne]
        intro h
        rw [bne_eq_false_iff_eq] at hb
        exact h ((nm_inj hqk hk9).mp hb)
      exact LCg.CompEnd.intro F2 N2 _ (fun _ h => h) off2 trivial ⟨(), fun _ h => h, .inr ⟨_, by k_mem, rfl, _, rfl⟩, by
        rw [take_snoc hzj, List.filter_append, List.map_append, List.filter_cons_of_neg (p := fun z : (Addr × Obj) × (Nat × Bool × Str) => !(z.2.1 == k9)) hqe, hJ]
        simp⟩
  case fin =>
    intro ys _ hJ
    have hsz : (cl.map fun p => Value.ref p.1).toArray.size = (cl.zip hs).length := by rw [List.size_toArray, List.length_map, List.length_zip, hlen, Nat.min_self]
    rw [hsz, List.take_length] at hJ
    clear F1 N1
    unfold LCg.FinE
    intro D h9 tk9 F9 N9 o9
    have hD : ∀ p ∈ (x, instObj 216 dx) :: (dx, bkD w.params tb H) :: (H, listOf (cl.map fun p => Value.ref p.1).toArray n) :: cl, p.1 ≠ D := off1_mem o9.2
    k_steps
    have zH := N9 (H, listOf (cl.map fun p => Value.ref p.1).toArray n) (by k_mem)
    have hyl : ys.length ≤ hs.length := by rw [hJ, List.length_map]; exact Nat.le_trans (List.length_filter_le _ _) (by rw [List.length_zip, hlen, Nat.min_self]; exact Nat.le_refl _)
    refine set_all (items := (cl.map fun p => Value.ref p.1).toArray) (n := n) (new := ys.toArray) (n' := ys.length) (Heap.get?_push_of_some _ zH.1) (Heap.get?_push_of_some _ (N9 (D, LCg.lst ys) (.head _)).1) (hD _ (.tail _ (.tail _ (.head _)))) (Heap.IsSliceOf.new _ _ _ _) (by simp; omega) fun h7 n7 g7 s7 => ?_
    have kp : Kp s.heap h9 := kp_end F9 N9 hk (List.forall_mem_cons.mpr ⟨hx, List.forall_mem_cons.mpr ⟨hdx, List.forall_mem_cons.mpr ⟨hH, fun p hp => (hcs p hp).1⟩⟩⟩) (fun p hp => .tail _ (.tail _ hp))
    k_steps
    refine hQ _ _ (((cl.zip hs).filter fun z => !(z.2.1 == k9)).map (·.1)) n7 rfl (fun b o hb e => s7.extBut b o hb (Heap.get?_push_of_some _ (kp b o e))) ?_
    rw [hJ] at g7
    rw [List.map_map]
    exact g7
end
end
section
set_option maxHeartbeats 4000000
open PySem PySem.W PySem.Calls PyProof.Rows
theorem fillS21 : PySem.Challenge.rw_uc0030_01 = PySem.Challenge.rw_uc0030_01 ∧ Mine.hd.heap_1 = Mine.hd.heap_1 := by k_fill; exact ⟨rfl, rfl⟩
local macro_rules | `(tactic| walk_at "call builtin:str.lower") => `(tactic| (refine' r_lower ?hk ?_; (case hk => first | with_reducible assumption | omega); intro t' j'))
theorem cl_ne {H : Addr} {sh : Heap} {cl : List (Addr × Obj)} {hs : List (Nat × Bool × Str)} {its : Array Value} {n : Nat} (hcl : ∀ (j : Nat) (p : Addr × Obj), cl[j]? = some p → ∃ q t u, hs[j]? = some q ∧ p.2 = tupO (.str (nmS q.1 q.2.1) t) (.str q.2.2 u)) (hcs : ∀ p ∈ cl, sh.get? p.1 = some p.2) (hH : sh.get? H = some (listOf its n)) : ∀ p ∈ cl, p.1 ≠ H := fun p hp q => by
  have z := hcs p hp
  rw [q, hH] at z
  obtain ⟨j, hj⟩ := List.getElem?_of_mem hp
  obtain ⟨_, _, _, _, e⟩ := hcl j p hj
  rw [e] at z
  injection (Option.some.inj z) with z1 z2 z3
  exact absurd (Value.type.inj z1) (by decide)
theorem del_wp {w : World} {mean : ExcName → Option Value} {mg mb : Str → Option Value} {B : Heap} {A : Around} {s : Shared} {Q E : Value → Shared → Prop} (hA : A.handled = none) (W : Wd w mean mg mb B) (kB : Kp B s.heap)
   (hd : A.depth + 10 < recursionLimit) (hu : A.units + 120 < cLine) (x dx H : Addr) (tb : Tok) (n : Nat) (cl : List (Addr × Obj)) (hs : List (Nat × Bool × Str)) (hlen : cl.length = hs.length) (hl10 : cl.length < 10) (hk3 : ∀ q ∈ hs, q.1 < 3) (hcl : ∀ (j : Nat) (p : Addr × Obj), cl[j]? = some p → ∃ q t u, hs[j]? = some q ∧ p.2 = tupO (.str (nmS q.1 q.2.1) t) (.str q.2.2 u))
   (hx : s.heap.get? x = some (instObj 216 dx)) (hxB : B.get? x = none) (hdx : s.heap.get? dx = some (bkD w.params tb H)) (hdB : B.get? dx = none) (hH : s.heap.get? H = some (listOf (cl.map fun p => Value.ref p.1).toArray n)) (hHB : B.get? H = none) (hcs : ∀ p ∈ cl, s.heap.get? p.1 = some p.2 ∧ B.get? p.1 = none) (k9 : Nat) (g9 : Bool) (t9 : Tok) (hk9 : k9 < 3)
   (hQ : ∀ h' tk' (cl' : List (Addr × Obj)) n', cl' = ((cl.zip hs).filter fun z => !(z.2.1 == k9)).map (·.1) → (∀ b o, b ≠ H → s.heap.get? b = some o → h'.get? b = some o) → h'.get? H = some (listOf (cl'.map fun p => Value.ref p.1).toArray n') → Q .none { s with heap := h', toks := tk' }) :
   wpAny (model prg w) A (call (.ref 136) [.ref x, .str (nmS k9 g9) t9]) Q E s := by
  rw [ar_of hA]
  exact call_of (del_call W kB hd hu x dx H tb n cl hs hlen hl10 hk3 hcl hx hxB hdx hdB hH hHB hcs k9 g9 t9 hk9 hQ)
local macro_rules | `(tactic| walk_at "call ref") => `(tactic| (with_unfolding_all refine' conv_wp ?hA ?W ?F ?N ?hd ?hu ?hc ?_; (case hA => rfl); (case W => assumption); (case F => k_asm); (case N => k_asm); (case hd => k_room); (case hu => first | omega | ((try simp only [units_in1, units_deeper, Around.mark_units]); (try dsimp only); omega)); (case hc => first | with_reducible assumption | exact clean_nmS _ (by with_reducible assumption)); intro h' tk' F' N'; (try k_sweep)))
local macro_rules | `(tactic| k_all) => `(tactic| with_reducible assumption)
local macro_rules | `(tactic| walk_at $k:str) => if ["call builtin:list.append", "delItem ref str"].contains k.getString then `(tactic| refine stop_of ?_) else Lean.Macro.throwUnsupported
theorem set_call {w : World} {mean : ExcName → Option Value} {mg mb : Str → Option Value} {B : Heap} {dp un : Nat} {fr : Option (List Env)} {gd : Option (List Code)} {s : Shared} {Q : Value → Shared → Prop} (W : Wd w mean mg mb B) (kB : Kp B s.heap)
   (hd : dp + 14 < recursionLimit) (hu : un + 160 < cLine) (x dx H : Addr) (tb : Tok) (n : Nat) (cl : List (Addr × Obj)) (hs : List (Nat × Bool × Str)) (hlen : cl.length = hs.length) (hl10 : cl.length < 10) (hk3 : ∀ q ∈ hs, q.1 < 3) (hcl : ∀ (j : Nat) (p : Addr × Obj), cl[j]? = some p → ∃ q t u, hs[j]? = some q ∧ p.2 = tupO (.str (nmS q.1 q.2.1) t) (.str q.2.2 u))
   (hx : s.heap.get? x = some (instObj 216 dx)) (hxB : B.get? x = none) (hdx : s.heap.get? dx = some (bkD w.params tb H)) (hdB : B.get? dx = none) (hH : s.heap.get? H = some (listOf (cl.map fun p => Value.ref p.1).toArray n)) (hHB : B.get? H = none) (hcs : ∀ p ∈ cl, s.heap.get? p.1 = some p.2 ∧ B.get? p.1 = none) (k9 : Nat) (g9 : Bool) (t9 : Tok) (hk9 : k9 < 3) (y9 : Str) (u9 : Tok) (hy : Clean false y9)
   (hQ : ∀ h' tk' T n', (∀ b o, b ≠ H → s.heap.get? b = some o → h'.get? b = some o) → h'.get? T = some (tupO (.str (nmS k9 g9) t9) (.str y9 u9)) → s.heap.get? T = none → h'.get? H = some (listOf (((((cl.zip hs).filter fun z => !(z.2.1 == k9)).map (·.1)).map fun p : Addr × Obj => Value.ref p.1) ++ [Value.ref T]).toArray n') → Q .none { s with heap := h', toks := tk' }) :
  codeAny (model prg w) (Ar dp fr gd un) (.call (.ref 131) ⟨[.ref x, .str (nmS k9 g9) t9, .str y9 u9], []⟩) (fun r s' => match r with | .ok (.ret v) => Q v s' | _ => False) s := by
  have X0 := W.X
  have XS : (Mine.hd.heap_1 w.params).In s.heap := X0.keeps kB
  refine' enterN [(Str.ofString "self", .ref x), (Str.ofString "name", .str (nmS k9 g9) t9), (Str.ofString "val", .str y9 u9)] W kB ((x, instObj 216 dx) :: (dx, bkD w.params tb H) :: (H, listOf (cl.map fun p => Value.ref p.1).toArray n) :: cl) ?kn ?k6 ?k7 ?k8 ?k9 ?kB ?_ ?c2 ?c3 ?c4 ?c5
  case kn => exact List.forall_mem_cons.mpr ⟨⟨hx, hxB⟩, List.forall_mem_cons.mpr ⟨⟨hdx, hdB⟩, List.forall_mem_cons.mpr ⟨⟨hH, hHB⟩, hcs⟩⟩⟩
  case k6 => k_is
  case k7 => k_is
  case k8 => k_room
  case k9 => exact kp_binds XS fun S => by kernel_rfl
  case c5 => decide
  case kB => exact locs rfl
  case c2 => exact rfl
  case c3 => exact rfl
  case c4 => exact rfl
  intro g L h₁ F N Wg hk hL
  have X := Wg.X
  obtain ⟨p9, l9, T⟩ := Wg.T
  clear X0
  replace F : Fr g L h₁ (mp [(Str.ofString "val", .str y9 u9), (Str.ofString "name", .str (nmS k9 g9) t9), (Str.ofString "self", .ref x)]) := F
  w_on
  have hxL : @LT.lt Nat instLTNat x L := hL x _ hx
  have hdL : @LT.lt Nat instLTNat dx L := hL dx _ hdx
  have hHL : @LT.lt Nat instLTNat H L := hL H _ hH
  have hcL : ∀ p ∈ cl, @LT.lt Nat instLTNat p.1 L := fun p hp => hL _ _ (hcs p hp).1
  have hcH := cl_ne hcl (fun p hp => (hcs p hp).1) hH
  have hxH : x ≠ H := fun q => by
    rw [q, hH] at hx
    injection (Option.some.inj hx) with z1 z2 z3
    cases z1
  have hdH : dx ≠ H := fun q => by
    rw [q, hH] at hdx
    injection (Option.some.inj hdx) with z1 z2 z3
    cases z3
  have N0 := N
  unfold bkD at N
  k_steps
  refine Stop.go ?_
  refine del_own (C := 216) (f := 136) (ox := instObj 216 dx) (od := some (bkD w.params tb H)) F X (InstAt.of_news N0 (.head _) (.tail _ (.head _))) (by k_is) (by k_is) (by k_is) ?_
  refine del_wp rfl Wg ?kB9 (by k_room) (by (try simp only [units_in1, units_deeper, Around.mark_units]); (try dsimp only); omega) x dx H tb n cl hs hlen hl10 hk3 hcl (N0 _ (.head _)).1 (N0 _ (.head _)).2.2 (N0 (dx, _) (.tail _ (.head _))).1 (N0 (dx, bkD w.params tb H) (.tail _ (.head _))).2.2 (N0 (H, _) (.tail _ (.tail _ (.head _)))).1 (N0 (H, listOf (cl.map fun p => Value.ref p.1).toArray n) (.tail _ (.tail _ (.head _)))).2.2 (fun p hp => ⟨(N0 p (.tail _ (.tail _ (.tail _ hp)))).1, (N0 p (.tail _ (.tail _ (.tail _ hp)))).2.2⟩) k9 g9 t9 hk9 fun h7 tk7 cl' n7 ecl k7 g7 => ?_
  case kB9 => exact F.keep
  have zH := (N0 (H, listOf (cl.map fun p => Value.ref p.1).toArray n) (.tail _ (.tail _ (.head _)))).2
  have F7 := LCg.fr_but F (h' := h7) (I := H) (fun b o hb e => k7 b o (by simpa using hb) e) (Ne.symm zH.1) zH.2
  have N7 : News g L h7 ((x, instObj 216 dx) :: (dx, bkD w.params tb H) :: (H, listOf (cl'.map fun p => Value.ref p.1).toArray n7) :: cl) := List.forall_mem_cons.mpr ⟨⟨k7 _ _ hxH (N0 _ (.head _)).1, (N0 _ (.head _)).2⟩, List.forall_mem_cons.mpr ⟨⟨k7 _ _ hdH (N0 (dx, _) (.tail _ (.head _))).1, (N0 (dx, bkD w.params tb H) (.tail _ (.head _))).2⟩, List.forall_mem_cons.mpr ⟨⟨g7, zH⟩, fun p hp => ⟨k7 _ _ (hcH p hp) (N0 p (.tail _ (.tail _ (.tail _ hp)))).1, (N0 p (.tail _ (.tail _ (.tail _ hp)))).2⟩⟩⟩⟩
  clear F N N0
  unfold bkD at N7
  k_steps
  refine Stop.go ?_
  rename Fr _ _ _ _ => F2
  rename News _ _ _ _ => N2
  rename (_ < _ ∧ _ < _ ∧ _) => lT
  rename_i T _
  have hl9 : ((cl'.map fun p => Value.ref p.1).toArray).size < 100000 := by
    have z := List.length_filter_le (fun z : (Addr × Obj) × (Nat × Bool × Str) => !(z.2.1 == k9)) (cl.zip hs)
    rw [List.length_zip] at z
    rw [List.size_toArray, List.length_map, ecl, List.length_map]
    omega
  refine append_K F2 N2 (.tail (Nat.ne_of_gt lT.2.2.1) (.tail hxH (.tail hdH (.head hcH)))) (fun h6 F6 N6 => ?_) (size_small hl9)
  k_steps
  have zH6 : h6.get? H = some (listOf ((cl'.map fun p => Value.ref p.1).toArray.push (.ref T)) (n7 + 1)) := (N6 (H, _) (.tail _ (.tail _ (.tail _ (.head _))))).1
  rw [List.push_toArray, ecl] at zH6
  refine hQ _ _ T (n7 + 1) (but_of F6 N6 hk (List.forall_mem_cons.mpr ⟨hx, List.forall_mem_cons.mpr ⟨hdx, List.forall_mem_cons.mpr ⟨hH, fun p hp => (hcs p hp).1⟩⟩⟩) (List.forall_mem_cons.mpr ⟨fun _ => by k_mem, List.forall_mem_cons.mpr ⟨fun _ => by k_mem, List.forall_mem_cons.mpr ⟨fun h => absurd rfl h, fun p hp _ => .tail _ (.tail _ (.tail _ (.tail _ hp)))⟩⟩⟩)) (N6 _ (.head _)).1 (fresh_of N6 (.head _) hk (List.forall_mem_cons.mpr ⟨Nat.ne_of_lt lT.1, List.forall_mem_cons.mpr ⟨Nat.ne_of_lt lT.2.1, List.forall_mem_cons.mpr ⟨Nat.ne_of_lt lT.2.2.1, fun p hp => Nat.ne_of_lt (allLt_mem lT.2.2.2 p hp)⟩⟩⟩)) zH6
end
section
set_option maxHeartbeats 4000000
open PySem PySem.W PySem.Calls PyProof.Rows
theorem fillS22 : PySem.Challenge.rw_uc0030_01 = PySem.Challenge.rw_uc0030_01 ∧ Mine.hd.heap_1 = Mine.hd.heap_1 := by k_fill; exact ⟨rfl, rfl⟩
local macro_rules | `(tactic| walk_at "call builtin:str.lower") => `(tactic| (refine' r_lower ?hk ?_; (case hk => first | with_reducible assumption | omega); intro t' j'))
theorem set_wp {w : World} {mean : ExcName → Option Value} {mg mb : Str → Option Value} {B : Heap} {A : Around} {s : Shared} {Q E : Value → Shared → Prop} (hA : A.handled = none) (W : Wd w mean mg mb B) (kB : Kp B s.heap)
   (hd : A.depth + 14 < recursionLimit) (hu : A.units + 160 < cLine) (x dx H : Addr) (tb : Tok) (n : Nat) (cl : List (Addr × Obj)) (hs : List (Nat × Bool × Str)) (hlen : cl.length = hs.length) (hl10 : cl.length < 10) (hk3 : ∀ q ∈ hs, q.1 < 3) (hcl : ∀ (j : Nat) (p : Addr × Obj), cl[j]? = some p → ∃ q t u, hs[j]? = some q ∧ p.2 = tupO (.str (nmS q.1 q.2.1) t) (.str q.2.2 u))
   (hx : s.heap.get? x = some (instObj 216 dx)) (hxB : B.get? x = none) (hdx : s.heap.get? dx = some (bkD w.params tb H)) (hdB : B.get? dx = none) (hH : s.heap.get? H = some (listOf (cl.map fun p => Value.ref p.1).toArray n)) (hHB : B.get? H = none) (hcs : ∀ p ∈ cl, s.heap.get? p.1 = some p.2 ∧ B.get? p.1 = none) (k9 : Nat) (g9 : Bool) (t9 : Tok) (hk9 : k9 < 3) (y9 : Str) (u9 : Tok) (hy : Clean false y9)
   (hQ : ∀ h' tk' T n', (∀ b o, b ≠ H → s.heap.get? b = some o → h'.get? b = some o) → h'.get? T = some (tupO (.str (nmS k9 g9) t9) (.str y9 u9)) → s.heap.get? T = none → h'.get? H = some (listOf (((((cl.zip hs).filter fun z => !(z.2.1 == k9)).map (·.1)).map fun p : Addr × Obj => Value.ref p.1) ++ [Value.ref T]).toArray n') → Q .none { s with heap := h', toks := tk' }) :
   wpAny (model prg w) A (call (.ref 131) [.ref x, .str (nmS k9 g9) t9, .str y9 u9]) Q E s := by
  rw [ar_of hA]
  exact call_of (set_call W kB hd hu x dx H tb n cl hs hlen hl10 hk3 hcl hx hxB hdx hdB hH hHB hcs k9 g9 t9 hk9 y9 u9 hy hQ)
local macro_rules | `(tactic| walk_at $k:str) => if ["call ref"].contains k.getString then `(tactic| refine stop_of ?_) else Lean.Macro.throwUnsupported
theorem store_call {w : World} {mean : ExcName → Option Value} {mg mb : Str → Option Value} {B : Heap} {dp un : Nat} {fr : Option (List Env)} {gd : Option (List Code)} {s : Shared} {Q : Value → Shared → Prop} (W : Wd w mean mg mb B) (kB : Kp B s.heap)
   (hd : dp + 18 < recursionLimit) (hu : un + 200 < cLine) (x dx H : Addr) (tb : Tok) (n : Nat) (cl : List (Addr × Obj)) (hs : List (Nat × Bool × Str)) (hlen : cl.length = hs.length) (hl10 : cl.length < 10) (hk3 : ∀ q ∈ hs, q.1 < 3) (hcl : ∀ (j : Nat) (p : Addr × Obj), cl[j]? = some p → ∃ q t u, hs[j]? = some q ∧ p.2 = tupO (.str (nmS q.1 q.2.1) t) (.str q.2.2 u))
   (hx : s.heap.get? x = some (instObj 216 dx)) (hxB : B.get? x = none) (hdx : s.heap.get? dx = some (bkD w.params tb H)) (hdB : B.get? dx = none) (hH : s.heap.get? H = some (listOf (cl.map fun p => Value.ref p.1).toArray n)) (hHB : B.get? H = none) (hcs : ∀ p ∈ cl, s.heap.get? p.1 = some p.2 ∧ B.get? p.1 = none) (k9 : Nat) (g9 : Bool) (t9 : Tok) (hk9 : k9 < 3) (y9 : Str) (u9 : Tok) (hy : Clean false y9)
   (hQ : ∀ h' tk' T n', (∀ b o, b ≠ H → s.heap.get? b = some o → h'.get? b = some o) → h'.get? T = some (tupO (.str (nmS k9 g9) t9) (.str y9 u9)) → s.heap.get? T = none → h'.get? H = some (listOf (((((cl.zip hs).filter fun z => !(z.2.1 == k9)).map (·.1)).map fun p : Addr × Obj => Value.ref p.1) ++ [Value.ref T]).toArray n') → Q .none { s with heap := h', toks := tk' }) :
  codeAny (model prg w) (Ar dp fr gd un) (.call (.ref 241) ⟨[.ref x, .str (nmS k9 g9) t9, .str y9 u9], []⟩) (fun r s' => match r with | .ok (.ret v) => Q v s' | _ => False) s := by
  have X0 := W.X
  have XS : (Mine.hd.heap_1 w.params).In s.heap := X0.keeps kB
  refine' enterN [(Str.ofString "book", .ref x), (Str.ofString "name", .str (nmS k9 g9) t9), (Str.ofString "text", .str y9 u9)] W kB ((x, instObj 216 dx) :: (dx, bkD w.params tb H) :: (H, listOf (cl.map fun p => Value.ref p.1).toArray n) :: cl) ?kn ?k6 ?k7 ?k8 ?k9 ?kB ?_ ?c2 ?c3 ?c4 ?c5
  case kn => exact List.forall_mem_cons.mpr ⟨⟨hx, hxB⟩, List.forall_mem_cons.mpr ⟨⟨hdx, hdB⟩, List.forall_mem_cons.mpr ⟨⟨hH, hHB⟩, hcs⟩⟩⟩
  case k6 => k_is
  case k7 => k_is
  case k8 => k_room
  case k9 => exact kp_binds XS fun S => by kernel_rfl
  case c5 => decide
  case kB => exact locs rfl
  case c2 => exact rfl
  case c3 => exact rfl
  case c4 => exact rfl
  intro g L h₁ F N Wg hk hL
  have X := Wg.X
  obtain ⟨p9, l9, T⟩ := Wg.T
  clear X0
  replace F : Fr g L h₁ (mp [(Str.ofString "text", .str y9 u9), (Str.ofString "name", .str (nmS k9 g9) t9), (Str.ofString "book", .ref x)]) := F
  w_on
  have hxL : @LT.lt Nat instLTNat x L := hL x _ hx
  have hdL : @LT.lt Nat instLTNat dx L := hL dx _ hdx
  have hHL : @LT.lt Nat instLTNat H L := hL H _ hH
  have hcL : ∀ p ∈ cl, @LT.lt Nat instLTNat p.1 L := fun p hp => hL _ _ (hcs p hp).1
  have hcH := cl_ne hcl (fun p hp => (hcs p hp).1) hH
  have hxH : x ≠ H := fun q => by
    rw [q, hH] at hx
    injection (Option.some.inj hx) with z1 z2 z3
    cases z1
  have hdH : dx ≠ H := fun q => by
    rw [q, hH] at hdx
    injection (Option.some.inj hdx) with z1 z2 z3
    cases z3
  k_steps
  refine Stop.go ?_
  refine set_wp rfl Wg ?kB9 (by k_room) (by (try simp only [units_in1, units_deeper, Around.mark_units]); (try dsimp only); omega) x dx H tb n cl hs hlen hl10 hk3 hcl (N _ (.head _)).1 (N _ (.head _)).2.2 (N (dx, _) (.tail _ (.head _))).1 (N (dx, bkD w.params tb H) (.tail _ (.head _))).2.2 (N (H, _) (.tail _ (.tail _ (.head _)))).1 (N (H, listOf (cl.map fun p => Value.ref p.1).toArray n) (.tail _ (.tail _ (.head _)))).2.2 (fun p hp => ⟨(N p (.tail _ (.tail _ (.tail _ hp)))).1, (N p (.tail _ (.tail _ (.tail _ hp)))).2.2⟩) k9 g9 t9 hk9 y9 u9 hy fun h7 tk7 T n7 k7 gT fT g7 => ?_
  case kB9 => exact F.keep
  have kp : Kp s.heap h₁ := kp_end F N hk (List.forall_mem_cons.mpr ⟨hx, List.forall_mem_cons.mpr ⟨hdx, List.forall_mem_cons.mpr ⟨hH, fun p hp => (hcs p hp).1⟩⟩⟩) (fun p hp => hp)
  clear F
  k_steps
  refine hQ _ _ T n7 (fun b o hb e => k7 b o hb (kp b o e)) gT ?_ g7
  cases e : s.heap.get? T with
  | none => rfl
  | some o =>
    have z := kp _ _ e
    rw [fT] at z; cases z
end
section
set_option maxHeartbeats 4000000
open PySem PySem.W PySem.Calls PyProof.Rows
theorem fillS23 : PySem.Challenge.rw_uc0030_01 = PySem.Challenge.rw_uc0030_01 ∧ Mine.hd.heap_1 = Mine.hd.heap_1 := by k_fill; exact ⟨rfl, rfl⟩
local macro_rules | `(tactic| walk_at $k:str) => if ["exec For", "exec For Name Call cons nil", "pyIter ref", "call ref", "call builtin:list.append"].contains k.getString then `(tactic| refine stop_of ?_) else Lean.Macro.throwUnsupported
local macro_rules | `(tactic| walk_at "subscriptTail") => `(tactic| (with_reducible show wpAny _ _ (subscriptTail _ _ (Value.ref _) (Value.int _ _)) _ _ _; refine stop_of ?_))
local macro_rules | `(tactic| k_all) => `(tactic| with_reducible assumption)
noncomputable def kkP (cell : Int) (i : Nat) : Nat := ((cell.fdiv 8 + (0 + (i : Int))).fmod 3).toNat
noncomputable def ggP (cell : Int) (k : Nat) : Bool := (cell.fdiv (2 ^ k)).fmod 2 == 0
noncomputable def entP (cell : Int) (c σ : Nat → Nat) (i : Nat) : Nat × Bool × Str := (kkP cell i, ggP cell (kkP cell i), blk (c (kkP cell i) - σ (kkP cell i)) 0)
noncomputable def IsEnt (e : Nat × Bool × Str) (o : Obj) : Prop := ∃ t u, o = tupO (.str (nmS e.1 e.2.1) t) (.str e.2.2 u)
noncomputable def Rel2 {α β : Type} (R : α → β → Prop) (cl : List α) (hs : List β) : Prop := cl.length = hs.length ∧ ∀ (j : Nat) p, cl[j]? = some p → ∃ q, hs[j]? = some q ∧ R p q
theorem filt_ok {α β : Type} {R : α → β → Prop} {f : β → Bool} : ∀ {cl : List α} {hs : List β}, Rel2 R cl hs → Rel2 R (((cl.zip hs).filter fun z => f z.2).map (·.1)) (hs.filter f)
  | [], [], _ => ⟨rfl, fun j p h => nomatch h⟩
  | [], _ :: _, h => nomatch h.1
  | _ :: _, [], h => nomatch h.1
  | a :: cl, b :: hs, h => by
    have h2 : Rel2 R cl hs := ⟨Nat.succ.inj h.1, fun j p hp => h.2 (j + 1) p hp⟩
    have ih := filt_ok (f := f) h2
    obtain ⟨q, hq, hr⟩ := h.2 0 a rfl
    have e : b = q := Option.some.inj hq
    subst e
    rw [List.zip_cons_cons]
    by_cases hf : f b = true
    · rw [List.filter_cons_of_pos (p := fun z : α × β => f z.2) hf, List.filter_cons_of_pos hf]
      refine ⟨congrArg (· + 1) ih.1, fun j p hp => ?_⟩
      cases j with
      | zero => exact ⟨b, rfl, by rw [← (Option.some.inj hp : a = p)]; exact hr⟩
      | succ j => exact ih.2 j p hp
    · rw [List.filter_cons_of_neg (p := fun z : α × β => f z.2) hf, List.filter_cons_of_neg hf]
      exact ih
theorem rel_snoc {α β : Type} {R : α → β → Prop} {cl : List α} {hs : List β} {a : α} {b : β} (h : Rel2 R cl hs) (hr : R a b) : Rel2 R (cl ++ [a]) (hs ++ [b]) := by
  refine ⟨by rw [List.length_append, List.length_append, h.1]; rfl, fun j p hp => ?_⟩
  by_cases hj : j < cl.length
  · rw [List.getElem?_append_left hj] at hp
    rw [List.getElem?_append_left (h.1 ▸ hj)]
    exact h.2 j p hp
  · rw [List.getElem?_append_right (Nat.not_lt.mp hj)] at hp
    rw [List.getElem?_append_right (h.1 ▸ Nat.not_lt.mp hj), ← h.1]
    cases e : j - cl.length with
    | zero => rw [e] at hp; exact ⟨b, rfl, by rw [← (Option.some.inj hp : a = p)]; exact hr⟩
    | succ k => rw [e] at hp; cases hp
theorem hs_step {hs0 hs2 : List (Nat × Bool × Str)} {ent : Nat → Nat × Bool × Str} {kk : Nat → Nat} {i : Nat} (hh : hs2 = hs0.filter (fun q => (List.range i).all fun v => !(q.1 == kk v)) ++ (List.range i).map ent) (hent : ∀ v, (ent v).1 = kk v) (hd : ∀ v, v < i → kk v ≠ kk i) :
    hs2.filter (fun q => !(q.1 == kk i)) ++ [ent i] = hs0.filter (fun q => (List.range (i + 1)).all fun v => !(q.1 == kk v)) ++ (List.range (i + 1)).map ent := by
  rw [hh, List.filter_append, List.filter_filter, List.range_succ, List.map_append, ← List.append_assoc]
  congr 2
  · congr 1
    funext q
    rw [List.all_append, Bool.and_comm]
    simp
  · refine List.filter_eq_self.mpr fun q hq => ?_
    obtain ⟨v, hv, rfl⟩ := List.mem_map.mp hq
    rw [hent, Bool.not_eq_true', beq_eq_false_iff_ne]
    exact hd v (List.mem_range.mp hv)
theorem sub_mod3 : ∀ v i : Nat, v < i → i < 3 → ((v : Int) - (i : Int)) % 3 ≠ 0
  | 0, 1, _, _ => by decide
  | 0, 2, _, _ => by decide
  | 1, 2, _, _ => by decide
  | _, 0, h, _ => absurd h (Nat.not_lt_zero _)
  | v + 1, 1, h, _ => absurd (Nat.lt_of_succ_lt_succ h) (Nat.not_lt_zero v)
  | v + 2, 2, h, _ => absurd (Nat.lt_of_succ_lt_succ (Nat.lt_of_succ_lt_succ h)) (Nat.not_lt_zero v)
  | _, i + 3, _, h => absurd (Nat.lt_of_succ_lt_succ (Nat.lt_of_succ_lt_succ (Nat.lt_of_succ_lt_succ h))) (Nat.not_lt_zero i)
theorem kk_ne {cell : Int} {v i : Nat} (hv : v < i) (hi : i < 3) : kkP cell v ≠ kkP cell i := by
  unfold kkP
  intro h
  have p1 := Int.fmod_nonneg_of_pos (cell.fdiv 8 + (0 + (v : Int))) (show (0 : Int) < 3 by decide)
  have p2 := Int.fmod_nonneg_of_pos (cell.fdiv 8 + (0 + (i : Int))) (show (0 : Int) < 3 by decide)
  have h1 : (cell.fdiv 8 + (0 + (v : Int))).fmod 3 = (cell.fdiv 8 + (0 + (i : Int))).fmod 3 := by rw [← Int.toNat_of_nonneg p1, h, Int.toNat_of_nonneg p2]
  rw [Int.fmod_eq_emod_of_nonneg _ (show (0 : Int) ≤ 3 by decide), Int.fmod_eq_emod_of_nonneg _ (show (0 : Int) ≤ 3 by decide)] at h1
  have h2 := Int.emod_eq_emod_iff_emod_sub_eq_zero.mp h1
  rw [Int.zero_add, Int.zero_add, Int.add_sub_add_left] at h2
  exact sub_mod3 v i hv hi h2
theorem four3F : ∀ a b c q : Fin 3, ¬(a ≠ b ∧ a ≠ c ∧ b ≠ c ∧ q ≠ a ∧ q ≠ b ∧ q ≠ c) := by decide
theorem four3 (a : Nat) (ha : a < 3) (b : Nat) (hb : b < 3) (c : Nat) (hc : c < 3) (q : Nat) (hq : q < 3) (h1 : a ≠ b) (h2 : a ≠ c) (h3 : b ≠ c) (h4 : q ≠ a) (h5 : q ≠ b) (h6 : q ≠ c) : False :=
  four3F ⟨a, ha⟩ ⟨b, hb⟩ ⟨c, hc⟩ ⟨q, hq⟩ ⟨fun e => h1 (congrArg Fin.val e), fun e => h2 (congrArg Fin.val e), fun e => h3 (congrArg Fin.val e), fun e => h4 (congrArg Fin.val e), fun e => h5 (congrArg Fin.val e), fun e => h6 (congrArg Fin.val e)⟩
theorem new_off {g sh : Heap} {L D : Addr} {m : Str → Option Value} (F : Fr g L sh m) (hn : sh.get? D = none) : D ≠ L ∧ g.get? D = none := by
  constructor
  · intro q
    obtain ⟨oL, _, _, hL, _⟩ := F.ns
    rw [q, hL] at hn; cases hn
  · cases e : g.get? D with
    | none => rfl
    | some o' => have := F.keep _ _ e; rw [hn] at this; cases this
theorem base_none {sh g B : Heap} {news : List (Addr × Obj)} {a : Addr} (kB : Kp B sh) (hk : ∀ b o, sh.get? b = some o → b ∉ news.map (·.1) → g.get? b = some o) (hnB : ∀ p ∈ news, B.get? p.1 = none) (hg : g.get? a = none) : B.get? a = none := by
  cases e : B.get? a with
  | none => rfl
  | some o =>
    have h1 := kB _ _ e
    have h2 := hk a o h1 (fun hm => by
      obtain ⟨p, hp, hpe⟩ := List.mem_map.mp hm
      have := hnB p hp
      rw [hpe, e] at this; cases this)
    rw [hg] at h2; cases h2
theorem kk_lt {cell : Int} (i : Nat) : kkP cell i < 3 := by
  unfold kkP
  have e1 := Int.fmod_eq_emod_of_nonneg (cell.fdiv 8 + (0 + (i : Int))) (show (0 : Int) ≤ 3 by decide)
  omega
theorem store_wp {w : World} {mean : ExcName → Option Value} {mg mb : Str → Option Value} {B : Heap} {A : Around} {s : Shared} {Q E : Value → Shared → Prop} (hA : A.handled = none) (W : Wd w mean mg mb B) (kB : Kp B s.heap)
   (hd : A.depth + 18 < recursionLimit) (hu : A.units + 200 < cLine) (x dx H : Addr) (tb : Tok) (n : Nat) (cl : List (Addr × Obj)) (hs : List (Nat × Bool × Str)) (hlen : cl.length = hs.length) (hl10 : cl.length < 10) (hk3 : ∀ q ∈ hs, q.1 < 3) (hcl : ∀ (j : Nat) (p : Addr × Obj), cl[j]? = some p → ∃ q t u, hs[j]? = some q ∧ p.2 = tupO (.str (nmS q.1 q.2.1) t) (.str q.2.2 u))
   (hx : s.heap.get? x = some (instObj 216 dx)) (hxB : B.get? x = none) (hdx : s.heap.get? dx = some (bkD w.params tb H)) (hdB : B.get? dx = none) (hH : s.heap.get? H = some (listOf (cl.map fun p => Value.ref p.1).toArray n)) (hHB : B.get? H = none) (hcs : ∀ p ∈ cl, s.heap.get? p.1 = some p.2 ∧ B.get? p.1 = none) (k9 : Nat) (g9 : Bool) (t9 : Tok) (hk9 : k9 < 3) (y9 : Str) (u9 : Tok) (hy : Clean false y9)
   (hQ : ∀ h' tk' T n', (∀ b o, b ≠ H → s.heap.get? b = some o → h'.get? b = some o) → h'.get? T = some (tupO (.str (nmS k9 g9) t9) (.str y9 u9)) → s.heap.get? T = none → h'.get? H = some (listOf (((((cl.zip hs).filter fun z => !(z.2.1 == k9)).map (·.1)).map fun p : Addr × Obj => Value.ref p.1) ++ [Value.ref T]).toArray n') → Q .none { s with heap := h', toks := tk' }) :
   wpAny (model prg w) A (call (.ref 241) [.ref x, .str (nmS k9 g9) t9, .str y9 u9]) Q E s := by
  rw [ar_of hA]
  exact call_of (store_call W kB hd hu x dx H tb n cl hs hlen hl10 hk3 hcl hx hxB hdx hdB hH hHB hcs k9 g9 t9 hk9 y9 u9 hy hQ)
theorem name_wp {w : World} {mean : ExcName → Option Value} {mg mb : Str → Option Value} {A : Around} {s : Shared} {Q E : Value → Shared → Prop} {h₀ : Heap} {L : Addr} {m : Str → Option Value} {news : List (Addr × Obj)} {k : Int} {gr : Bool} {u : Tok}
   (hA : A.handled = none) (W : Wd w mean mg mb h₀) (F : Fr h₀ L s.heap m) (N : News h₀ L s.heap news) (hd : A.depth + 1 < recursionLimit) (h0 : 0 ≤ k) (h3 : k < 3)
   (hQ : ∀ h' tk' t', Fr h₀ L h' m → News h₀ L h' news → Q (.str (nmS k.toNat gr) t') { s with heap := h', toks := tk' }) : wpAny (model prg w) A (call (.ref 234) [.int k u, .bool gr]) Q E s := by
  rw [ar_of hA]
  exact call_of (name_call W F.keep hd k gr u h0 h3 fun h' tk' t' kp => hQ h' tk' t' (Fr.keeps F kp) (News.grown N kp))
local macro_rules | `(tactic| walk_at "binaryOp Mult str int") => `(tactic| (refine' r_mul ?hn ?hk ?_; (case hn => assumption); (case hk => omega); intro t' j'))
local macro_rules | `(tactic| walk_at "binaryOp Add str str") => `(tactic| (refine' r_add ?hz ?hs ?_; (case hz => with_reducible exact spc_x _); (case hs => ((simp only [spc_len, blk_len, x_len]); omega)); intro t' j'))
local macro_rules | `(tactic| walk_at "call builtin:len") => `(tactic| (refine' r_len (by with_reducible exact spc_len _) ?hs ?_; (case hs => omega)))
theorem paid_call {w : World} {mean : ExcName → Option Value} {mg mb : Str → Option Value} {B : Heap} {dp un : Nat} {fr : Option (List Env)} {gd : Option (List Code)} {s : Shared} {Q : Value → Shared → Prop} (W : Wd w mean mg mb B) (kB : Kp B s.heap)
   (hd : dp + 30 < recursionLimit) (hu : un + 300 < cLine) (x dx H : Addr) (tb : Tok) (n : Nat) (cl : List (Addr × Obj)) (hs : List (Nat × Bool × Str)) (hlen : cl.length = hs.length) (hl10 : cl.length < 10) (hk3 : ∀ q ∈ hs, q.1 < 3) (hcl : ∀ (j : Nat) (p : Addr × Obj), cl[j]? = some p → ∃ q t u, hs[j]? = some q ∧ p.2 = tupO (.str (nmS q.1 q.2.1) t) (.str q.2.2 u))
   (hx : s.heap.get? x = some (instObj 216 dx)) (hxB : B.get? x = none) (hdx : s.heap.get? dx = some (bkD w.params tb H)) (hdB : B.get? dx = none) (hH : s.heap.get? H = some (listOf (cl.map fun p => Value.ref p.1).toArray n)) (hHB : B.get? H = none) (hcs : ∀ p ∈ cl, s.heap.get? p.1 = some p.2 ∧ B.get? p.1 = none) (hl6 : cl.length ≤ 6) (l r : Addr) (vs ws : List Value) (nl nr : Nat) (c σ : Nat → Nat) (hT : ∀ i, i < 3 → ∃ t, vs[i]? = some (.str (spc (c i)) t)) (hS : ∀ i, i < 3 → ∃ t, ws[i]? = some (.int (σ i : Nat) t)) (hc : ∀ i, c i < 200) (hσ : ∀ i, σ i ≤ c i) (cell : Int) (u : Tok)
   (hl : s.heap.get? l = some (listOf vs.toArray nl)) (hlB : B.get? l = none) (hr : s.heap.get? r = some (listOf ws.toArray nr)) (hrB : B.get? r = none)
   (hlH : l ≠ H) (hrH : r ≠ H)
   (hQ : ∀ h' tk' D (dl : List (Addr × Obj)) nd (cl' : List (Addr × Obj)) n', (∀ b o, b ≠ H → s.heap.get? b = some o → h'.get? b = some o) → dl.length = 3 → (∀ (j : Nat) (p : Addr × Obj), dl[j]? = some p → IsEnt (entP cell c σ j) p.2 ∧ h'.get? p.1 = some p.2 ∧ B.get? p.1 = none) → h'.get? D = some (listOf (dl.map fun p => Value.ref p.1).toArray nd) → B.get? D = none →
     cl'.length = 3 → (∀ (j : Nat) (p : Addr × Obj), cl'[j]? = some p → IsEnt (entP cell c σ j) p.2 ∧ h'.get? p.1 = some p.2 ∧ B.get? p.1 = none) → h'.get? H = some (listOf (cl'.map fun p => Value.ref p.1).toArray n') → Q (.ref D) { s with heap := h', toks := tk' }) :
  codeAny (model prg w) (Ar dp fr gd un) (.call (.ref 300) ⟨[.ref x, .ref l, .ref r, .int cell u], []⟩) (fun r s' => match r with | .ok (.ret v) => Q v s' | _ => False) s := by
  have X0 := W.X
  refine' enterN [(Str.ofString "book", .ref x), (Str.ofString "texts", .ref l), (Str.ofString "shares", .ref r), (Str.ofString "cell", .int cell u)] W kB ((x, instObj 216 dx) :: (dx, bkD w.params tb H) :: (H, listOf (cl.map fun p => Value.ref p.1).toArray n) :: (l, listOf vs.toArray nl) :: (r, listOf ws.toArray nr) :: cl) ?kn ?k6 ?k7 ?k8 ?k9 ?kB ?_ ?c2 ?c3 ?c4 ?c5
  case kn => exact (fac (⟨hx, hxB⟩) ((fac (⟨hdx, hdB⟩) ((fac (⟨hH, hHB⟩) ((fac (⟨hl, hlB⟩) ((fac (⟨hr, hrB⟩) hcs)))))))))
  case k6 => k_is
  case k7 => k_is
  case k8 => k_room
  case k9 => exact BindsTo.of_eq rfl
  case c5 => decide
  case kB => exact locs rfl
  case c2 => exact rfl
  case c3 => exact rfl
  case c4 => exact rfl
  intro g L h₁ F N Wg hk hL
  have X := Wg.X
  obtain ⟨p9, l9, T⟩ := Wg.T
  clear X0
  replace F : Fr g L h₁ (mp [(Str.ofString "cell", .int cell u), (Str.ofString "shares", .ref r), (Str.ofString "texts", .ref l), (Str.ofString "book", .ref x)]) := F
  w_on
  have hcH := cl_ne hcl (fun p hp => (hcs p hp).1) hH
  have hxH : x ≠ H := fun q => by
    rw [q, hH] at hx
    injection (Option.some.inj hx) with z1 z2 z3
    cases z1
  have hdH : dx ≠ H := fun q => by
    rw [q, hH] at hdx
    injection (Option.some.inj hdx) with z1 z2 z3
    cases z3
  k_steps
  refine Stop.go ?_
  rename Fr _ _ _ _ => F1
  rename News _ _ _ _ => N1
  rename_i D _ lD _
  refine For_invTF F1 ?_ (fun x => rfl) (by passes_own)
  k_steps
  refine Stop.go ?_
  rename IsRange _ _ _ _ _ _ _ _ => hrr
  rename Fr _ _ _ _ => F1
  rename News _ _ _ _ => N1
  have hDc : ∀ p ∈ cl, p.1 ≠ D := fun p hp => Nat.ne_of_lt (allLt_mem lD.2.2.2.2.2 p hp)
  with_unfolding_all refine forRangeT (σ := ((List (Addr × Obj) × Nat) × (List (Addr × Obj) × List (Addr × Obj) × Nat × List (Nat × Bool × Str))) × Option Value × Option Value × Option Value) 3 (fun c' => mo [(Str.ofString "turn", c'.2.1), (Str.ofString "k", c'.2.2.1), (Str.ofString "name", c'.2.2.2)] (mp [(Str.ofString "due", .ref D), (Str.ofString "cell", .int cell u), (Str.ofString "shares", .ref r), (Str.ofString "texts", .ref l), (Str.ofString "book", .ref x)])) (fun c' => (D, listOf (c'.1.1.1.map fun p => Value.ref p.1).toArray c'.1.1.2) :: (x, instObj 216 dx) :: (dx, bkD w.params tb H) :: (H, listOf (c'.1.2.1.map fun p => Value.ref p.1).toArray c'.1.2.2.2.1) :: (l, listOf vs.toArray nl) :: (r, listOf ws.toArray nr) :: (c'.1.1.1 ++ (c'.1.2.2.1 ++ cl))) (fun i c' => 
    (c'.1.1.1.length = i ∧ ∀ (j : Nat) (p : Addr × Obj), c'.1.1.1[j]? = some p → IsEnt (entP cell c σ j) p.2) ∧
    (c'.1.2.1.length = c'.1.2.2.2.2.length ∧ c'.1.2.2.2.2 = (hs.filter fun q => (List.range i).all fun v => !(q.1 == kkP cell v)) ++ (List.range i).map (entP cell c σ)) ∧
    (∀ q ∈ c'.1.2.2.2.2, q.1 < 3) ∧ (∀ (j : Nat) (p : Addr × Obj), c'.1.2.1[j]? = some p → ∃ q t u, c'.1.2.2.2.2[j]? = some q ∧ p.2 = tupO (.str (nmS q.1 q.2.1) t) (.str q.2.2 u)) ∧
    (∀ p ∈ c'.1.2.1, p ∈ c'.1.2.2.1 ++ cl) ∧ (∀ p ∈ c'.1.1.1 ++ c'.1.2.2.1, p.1 ≠ D ∧ ∀ q ∈ (x, instObj 216 dx) :: (dx, bkD w.params tb H) :: (H, listOf (cl.map fun p => Value.ref p.1).toArray n) :: (l, listOf vs.toArray nl) :: (r, listOf ws.toArray nr) :: cl, q.1 ≠ p.1)) ((([], 0), (cl, [], n, hs)), none, none, none) rfl rfl hrr (by decide) (by decide) (frc F1 (by ktn_open)) N1 ?_ ?_ ?_ ?_
  · refine ⟨⟨rfl, fun j p hp => nomatch hp⟩, ⟨hlen, ?_⟩, hk3, hcl, fun p hp => hp, fun p hp => nomatch hp⟩
    simp only [List.range_zero, List.all_nil, List.map_nil, List.append_nil]
    exact (List.filter_eq_self.mpr fun _ _ => rfl).symm
  · intro I s' v Q' hq
    exact wpAny_pure hq
  · intro I i
    refine al_LLLxxRLxxxxRRxxxR ?_
    intro dl nd c2 nw n2 hs2 v1 v2 v3 h tk t s₁ hne hi hP9 F N
    first | refine hideT fun Q9 hq9 => ?_ | refine hideQ fun Q9 hq9 => ?_
    obtain ⟨⟨hdl, hde⟩, ⟨hcl2, hhs⟩, hk32, hcc2, hsub, hnew⟩ := hP9
    dsimp only at hne hdl hde hcl2 hhs hk32 hcc2 hsub hnew F N
    clear hrr F1 N1
    have hk0 : 0 ≤ (cell.fdiv 8 + (0 + (i : Int))).fmod 3 := Int.fmod_nonneg_of_pos _ (by decide)
    have hk3' : (cell.fdiv 8 + (0 + (i : Int))).fmod 3 < 3 := Int.fmod_lt_of_pos _ (by decide)
    obtain ⟨kk, hkk⟩ : ∃ kk, kk = kkP cell i := ⟨_, rfl⟩
    have hkI : (cell.fdiv 8 + (0 + (i : Int))).fmod 3 = (kk : Int) := by rw [hkk]; unfold kkP; omega
    have hkk3 : kk < 3 := by omega
    obtain ⟨ta, hta⟩ := hT kk hkk3
    obtain ⟨sa, hsa⟩ := hS kk hkk3
    have hta' : vs[((cell.fdiv 8 + (0 + (i : Int))).fmod 3).toNat]? = some (.str (spc (c kk)) ta) := by rw [hkI]; exact hta
    have hsa' : ws[((cell.fdiv 8 + (0 + (i : Int))).fmod 3).toNat]? = some (.int (σ kk : Nat) sa) := by rw [hkI]; exact hsa
    have hck := hc kk
    have hsk := hσ kk
    have hsub' : ((c kk : Nat) : Int) - ((σ kk : Nat) : Int) = ((c kk - σ kk : Nat) : Int) := by omega
    k_steps
    refine Stop.go ?_
    rename Fr _ _ _ _ => F1
    rename News _ _ _ _ => N1
    refine name_wp rfl Wg F1 N1 (by k_room) hk0 hk3' fun h9 tk9 t9 F9 N9 => ?_
    clear F1 N1
    k_steps
    refine Stop.go ?_
    refine my_item (by is_list) hk0 (by omega) hta' ?_
    k_steps
    refine Stop.go ?_
    refine my_item (by is_list) hk0 (by omega) hsa' ?_
    k_steps
    refine Stop.go ?_
    rename Fr _ _ _ _ => F1
    rename News _ _ _ _ => N1
    refine strip0_wp (a := c kk) (k := σ kk) rfl Wg F1 N1 (by k_room) (by (try simp only [units_in1, units_deeper, Around.mark_units]); (try dsimp only); omega) rfl rfl (by omega) fun h8 tk8 t8 F8 N8 => ?_
    clear F1 N1
    k_steps
    refine Stop.go ?_
    have hLD := fun p hp => N8 p hp
    refine store_wp (k9 := kkP cell i) (g9 := ggP cell (kkP cell i)) rfl Wg ?kB9 (by k_room) (by (try simp only [units_in1, units_deeper, Around.mark_units]); (try dsimp only); omega) x dx H tb n2 c2 hs2 hcl2 ?hl9 hk32 hcc2 (N8 (x, _) (by k_mem)).1 (N8 (x, instObj 216 dx) (by k_mem)).2.2 (N8 (dx, _) (by k_mem)).1 (N8 (dx, bkD w.params tb H) (by k_mem)).2.2 (N8 (H, _) (by k_mem)).1 (N8 (H, listOf (c2.map fun p => Value.ref p.1).toArray n2) (by k_mem)).2.2 ?hcs9 t9 (hkk ▸ hkk3) (blk (c kk - σ kk) 0) t8 (clean_blk (by omega)) fun h7 tk7 T n7 k7 gT fT g7 => ?_
    case kB9 => exact F8.keep
    case hl9 =>
      rw [hcl2, hhs, List.length_append, List.length_map, List.length_range]
      have z := List.length_filter_le (fun q : Nat × Bool × Str => (List.range i).all fun v => !(q.1 == kkP cell v)) hs
      omega
    case hcs9 =>
      intro p hp
      have z := N8 p (.tail _ (.tail _ (.tail _ (.tail _ (.tail _ (.tail _ (.tail _ (List.mem_append_right _ (hsub p hp)))))))))
      exact ⟨z.1, z.2.2⟩
    have neT : ∀ (a : Addr) (o : Obj), h8.get? a = some o → a ≠ T := fun a o e q => by
      rw [q] at e
      rw [show h8.get? T = none from fT] at e; cases e
    have oT := new_off F8 fT
    have hHN := (N8 (H, listOf (c2.map fun p => Value.ref p.1).toArray n2) (by k_mem)).2
    have F7 := LCg.fr_but F8 (h' := h7) (I := H) (fun b o hb e => k7 b o (by simpa using hb) e) (Ne.symm hHN.1) hHN.2
    have K7 : ∀ (a : Addr) (o : Obj), (h8.get? a = some o ∧ a ≠ L ∧ g.get? a = none) → a ≠ H → h7.get? a = some o ∧ a ≠ L ∧ g.get? a = none := fun a o z ne => ⟨k7 _ _ ne z.1, z.2⟩
    have hIH : I ≠ H := Ne.symm (hne (H, _) (.tail _ (.tail _ (.tail _ (.head _)))))
    have hDH : D ≠ H := Nat.ne_of_gt lD.2.2.1
    have hdnH : ∀ p ∈ dl ++ nw, p.1 ≠ H := fun p hp => Ne.symm ((hnew p hp).2 (H, _) (.tail _ (.tail _ (.head _))))
    obtain ⟨zs, hzs⟩ : ∃ zs, zs = ((c2.zip hs2).filter fun z => !(z.2.1 == kkP cell i)).map (·.1) := ⟨_, rfl⟩
    rw [← hzs] at g7
    have hgT : (zs.map fun p : Addr × Obj => Value.ref p.1) ++ [Value.ref T] = (zs ++ [(T, tupO (.str (nmS (kkP cell i) (ggP cell (kkP cell i))) t9) (.str (blk (c kk - σ kk) 0) t8))]).map fun p : Addr × Obj => Value.ref p.1 := by rw [List.map_append]; rfl
    rw [hgT] at g7
    have NL : ∀ p ∈ dl ++ (nw ++ cl), h8.get? p.1 = some p.2 ∧ p.1 ≠ L ∧ g.get? p.1 = none := fun p hp => N8 p (.tail _ (.tail _ (.tail _ (.tail _ (.tail _ (.tail _ (.tail _ hp)))))))
    have N7 : News g L h7 ((I, itR (0 + ((i + 1 : Nat) : Int)) ((3 : Nat) - ((i + 1 : Nat) : Int))) :: (D, listOf (dl.map fun p => Value.ref p.1).toArray nd) :: (x, instObj 216 dx) :: (dx, bkD w.params tb H) :: (H, listOf ((zs ++ [(T, tupO (.str (nmS (kkP cell i) (ggP cell (kkP cell i))) t9) (.str (blk (c kk - σ kk) 0) t8))]).map fun p => Value.ref p.1).toArray n7) :: (l, listOf vs.toArray nl) :: (r, listOf ws.toArray nr) :: (dl ++ (((T, tupO (.str (nmS (kkP cell i) (ggP cell (kkP cell i))) t9) (.str (blk (c kk - σ kk) 0) t8)) :: nw) ++ cl))) :=
      (fac (K7 _ _ (N8 (I, _) (by k_mem)) hIH) ((fac (K7 _ _ (N8 (D, _) (by k_mem)) hDH) ((fac (K7 _ _ (N8 (x, _) (by k_mem)) hxH) ((fac (K7 _ _ (N8 (dx, _) (by k_mem)) hdH) ((fac (⟨g7, hHN⟩) ((fac (K7 _ _ (N8 (l, _) (by k_mem)) hlH) ((fac (K7 _ _ (N8 (r, _) (by k_mem)) hrH) ((faa (fun p hp => K7 _ _ (NL p (List.mem_append_left _ hp)) (hdnH p (List.mem_append_left _ hp))) ((fac (⟨gT, oT⟩) ((faa (fun p hp => K7 _ _ (NL p (List.mem_append_right _ (List.mem_append_left _ hp))) (hdnH p (List.mem_append_right _ hp))) (fun p hp => K7 _ _ (NL p (List.mem_append_right _ (List.mem_append_right _ hp))) (hcH p hp)))))))))))))))))))))
    have neT' : ∀ q ∈ (x, instObj 216 dx) :: (dx, bkD w.params tb H) :: (H, listOf (cl.map fun p => Value.ref p.1).toArray n) :: (l, listOf vs.toArray nl) :: (r, listOf ws.toArray nr) :: cl, q.1 ≠ T := (fac (neT _ _ (N8 (x, _) (by k_mem)).1) ((fac (neT _ _ (N8 (dx, _) (by k_mem)).1) ((fac (neT _ _ (N8 (H, listOf (c2.map fun p => Value.ref p.1).toArray n2) (by k_mem)).1) ((fac (neT _ _ (N8 (l, _) (by k_mem)).1) ((fac (neT _ _ (N8 (r, _) (by k_mem)).1) (fun q hq => neT _ _ (NL q (List.mem_append_right _ (List.mem_append_right _ hq))).1))))))))))
    have hDT : D ≠ T := neT _ _ (N8 (D, _) (by k_mem)).1
    have hTI0 : T ≠ I := Ne.symm (neT _ _ (N8 (I, _) (by k_mem)).1)
    clear F8 N8 NL
    k_steps
    refine Stop.go ?_
    refine my_item (by is_list) hk0 (by omega) hta' ?_
    k_steps
    refine Stop.go ?_
    refine my_item (by is_list) hk0 (by omega) hsa' ?_
    k_steps
    refine Stop.go ?_
    rename Fr _ _ _ _ => F1
    rename News _ _ _ _ => N1
    rename (_ ∧ _ ∧ _ ∧ _ ∧ _ ∧ _ ∧ _ ∧ AllLt _ _) => lT2
    rename_i T2 _
    obtain ⟨t2, N1⟩ : ∃ t2, News g L _ ((T2, tupO (.str (nmS (kkP cell i) (ggP cell (kkP cell i))) t9) (.str (blk (c kk - σ kk) 0) t2)) :: _) := ⟨_, N1⟩
    obtain ⟨W2, hW2⟩ : ∃ W2, W2 = tupO (.str (nmS (kkP cell i) (ggP cell (kkP cell i))) t9) (.str (blk (c kk - σ kk) 0) t2) := ⟨_, rfl⟩
    rw [← hW2] at N1
    obtain ⟨W1, hW1⟩ : ∃ W1, W1 = tupO (.str (nmS (kkP cell i) (ggP cell (kkP cell i))) t9) (.str (blk (c kk - σ kk) 0) t8) := ⟨_, rfl⟩
    rw [← hW1] at N1 lT2
    have hneD := fun p hp => (hnew p hp).1
    refine append_K F1 N1 (.tail (Nat.ne_of_gt lT2.2.1) (.tail (Ne.symm (hne (D, _) (.head _))) (.head ((fac (Nat.ne_of_lt lD.1) ((fac (Nat.ne_of_lt lD.2.1) ((fac (Nat.ne_of_lt lD.2.2.1) ((fac (Nat.ne_of_lt lD.2.2.2.1) ((fac (Nat.ne_of_lt lD.2.2.2.2.1) ((faa (fun p hp => hneD p (List.mem_append_left _ hp)) ((fac (Ne.symm hDT) ((faa (fun p hp => hneD p (List.mem_append_right _ hp)) hDc))))))))))))))))))) (fun h6 F6 N6 => ?_) (size_small (by simp; omega))
    clear F1 N1
    k_steps
    have epush : (List.map (fun p : Addr × Obj => Value.ref p.1) dl).toArray.push (Value.ref T2) = (List.map (fun p : Addr × Obj => Value.ref p.1) (dl ++ [(T2, W2)])).toArray := by rw [List.map_append, List.push_toArray]; rfl
    rw [epush] at N6
    have hTI : T ≠ I := hTI0
    have hzm : ∀ p ∈ zs, p ∈ c2 := fun p hp => by
      rw [hzs] at hp
      obtain ⟨z, hz, rfl⟩ := List.mem_map.mp hp
      exact (List.of_mem_zip (List.mem_filter.mp hz).1).1
    have hR : Rel2 (fun (p : Addr × Obj) (q : Nat × Bool × Str) => ∃ t u, p.2 = tupO (.str (nmS q.1 q.2.1) t) (.str q.2.2 u)) (zs ++ [(T, W1)]) (hs2.filter (fun q => !(q.1 == kkP cell i)) ++ [entP cell c σ i]) := by
      rw [hzs]
      exact rel_snoc (filt_ok (f := fun q => !(q.1 == kkP cell i)) ⟨hcl2, fun j p hp => by
        obtain ⟨q, t, u, hq, he⟩ := hcc2 j p hp
        exact ⟨q, hq, t, u, he⟩⟩) ⟨t9, t8, by rw [hW1, hkk]; rfl⟩
    have hneT2 : ∀ q ∈ (x, instObj 216 dx) :: (dx, bkD w.params tb H) :: (H, listOf (cl.map fun p => Value.ref p.1).toArray n) :: (l, listOf vs.toArray nl) :: (r, listOf ws.toArray nr) :: cl, q.1 ≠ T2 := (fac (Nat.ne_of_lt lT2.2.2.1) ((fac (Nat.ne_of_lt lT2.2.2.2.1) ((fac (Nat.ne_of_lt lT2.2.2.2.2.1) ((fac (Nat.ne_of_lt lT2.2.2.2.2.2.1) ((fac (Nat.ne_of_lt lT2.2.2.2.2.2.2.1) (fun q hq => Nat.ne_of_lt (allLt_mem lT2.2.2.2.2.2.2.2 q (List.mem_append_right _ (.tail _ (List.mem_append_right _ hq))))))))))))))
    refine hq9 _ _ ⟨rfl, h6, _, (((dl ++ [(T2, W2)], nd + 1), (zs ++ [(T, W1)], (T, W1) :: nw, n7, hs2.filter (fun q => !(q.1 == kkP cell i)) ++ [entP cell c σ i])), some _, some _, some _), rfl, frc F6 (by ktn_open), ?_, ?_, ⟨?_, ?_⟩, ⟨?_, ?_⟩, ?_, ?_, ?_, ?_⟩
    · exact (fac (N6 _ (.tail _ (.head _))) ((fac (N6 _ (.tail _ (.tail _ (.head _)))) ((fac (N6 _ (.tail _ (.tail _ (.tail _ (.head _))))) ((fac (N6 _ (.tail _ (.tail _ (.tail _ (.tail _ (.head _)))))) ((fac (N6 _ (.tail _ (.tail _ (.tail _ (.tail _ (.tail _ (.head _))))))) ((fac (N6 _ (.tail _ (.tail _ (.tail _ (.tail _ (.tail _ (.tail _ (.head _)))))))) ((fac (N6 _ (.tail _ (.tail _ (.tail _ (.tail _ (.tail _ (.tail _ (.tail _ (.head _))))))))) (fun p hp => (List.mem_append.mp hp).elim (fun hp => (List.mem_append.mp hp).elim (fun hp => N6 p (.tail _ (.tail _ (.tail _ (.tail _ (.tail _ (.tail _ (.tail _ (.tail _ (List.mem_append_left _ hp)))))))))) (fun hp => List.mem_singleton.mp hp ▸ N6 _ (.head _))) (fun hp => N6 p (.tail _ (.tail _ (.tail _ (.tail _ (.tail _ (.tail _ (.tail _ (.tail _ (List.mem_append_right _ hp))))))))))))))))))))))))
    · exact (fac (hne (D, listOf (dl.map fun p => Value.ref p.1).toArray nd) (.head _)) ((fac (hne _ (.tail _ (.head _))) ((fac (hne _ (.tail _ (.tail _ (.head _)))) ((fac (hIH ∘ Eq.symm) ((fac (hne _ (.tail _ (.tail _ (.tail _ (.tail _ (.head _)))))) ((fac (hne _ (.tail _ (.tail _ (.tail _ (.tail _ (.tail _ (.head _))))))) (fun p hp => (List.mem_append.mp hp).elim (fun hp => (List.mem_append.mp hp).elim (fun hp => hne p (.tail _ (.tail _ (.tail _ (.tail _ (.tail _ (.tail _ (List.mem_append_left _ hp)))))))) (fun hp => List.mem_singleton.mp hp ▸ Nat.ne_of_gt lT2.1)) (fun hp => (List.mem_cons.mp hp).elim (fun e => e ▸ hTI) (fun hp => hne p (.tail _ (.tail _ (.tail _ (.tail _ (.tail _ (.tail _ (List.mem_append_right _ hp)))))))))))))))))))))
    · exact (List.length_append ..).trans (congrArg (· + 1) hdl)
    · intro j p hp
      by_cases hj : j < dl.length
      · rw [List.getElem?_append_left hj] at hp
        exact hde j p hp
      · rw [List.getElem?_append_right (Nat.not_lt.mp hj)] at hp
        have e0 : j - dl.length = 0 := by
          cases e : j - dl.length with
          | zero => rfl
          | succ z => rw [e] at hp; cases hp
        rw [e0] at hp
        have ep : (T2, W2) = p := Option.some.inj hp
        have ej : j = i := by omega
        rw [← ep, ej, hW2, hkk]
        exact ⟨_, _, rfl⟩
    · exact hR.1
    · exact hs_step hhs (fun _ => rfl) (fun v hv => kk_ne hv hi)
    · exact (faa (fun q hq => hk32 q (List.mem_filter.mp hq).1) ((fac (kk_lt i) (fun _ h => nomatch h))))
    · intro j p hp
      obtain ⟨q, hq, t, u, he⟩ := hR.2 j p hp
      exact ⟨q, t, u, hq, he⟩
    · exact (faa (fun p hp => .tail _ (hsub p (hzm p hp))) ((fac (.head _) (fun _ h => nomatch h))))
    · exact (faa ((faa (fun p hp => hnew p (List.mem_append_left _ hp)) ((fac (⟨Nat.ne_of_gt lT2.2.1, hneT2⟩) (fun _ h => nomatch h))))) ((fac (⟨Ne.symm hDT, neT'⟩) (fun p hp => hnew p (List.mem_append_right _ hp)))))
  · refine al_LLLxxRLxxxxRRxxxR ?_
    intro dl nd c2 nw n2 hs2 v1 v2 v3 h tk hP9 F N
    obtain ⟨⟨hdl, hde⟩, ⟨hcl2, hhs⟩, hk32, hcc2, hsub, hnew⟩ := hP9
    dsimp only at hdl hde hcl2 hhs hk32 hcc2 hsub hnew F N
    clear hrr F1 N1
    k_steps
    have e3 : hs2 = (List.range 3).map (entP cell c σ) := by
      rw [hhs]
      have z : (hs.filter fun q => (List.range 3).all fun v => !(q.1 == kkP cell v)) = [] := by
        refine List.filter_eq_nil_iff.mpr fun q hq hall => ?_
        have hq3 := hk3 q hq
        have a0 := kk_ne (cell := cell) (show 0 < 1 by decide) (show 1 < 3 by decide)
        have a1 := kk_ne (cell := cell) (show 0 < 2 by decide) (show 2 < 3 by decide)
        have a2 := kk_ne (cell := cell) (show 1 < 2 by decide) (show 2 < 3 by decide)
        have b0 := kk_lt (cell := cell) 0
        have b1 := kk_lt (cell := cell) 1
        have b2 := kk_lt (cell := cell) 2
        have hall' := List.all_eq_true.mp hall
        have c0 := hall' 0 (by decide)
        have c1 := hall' 1 (by decide)
        have c2 := hall' 2 (by decide)
        rw [Bool.not_eq_true', beq_eq_false_iff_ne] at c0 c1 c2
        exact four3 _ b0 _ b1 _ b2 q.1 hq3 a0 a1 a2 c0 c1 c2
      rw [z, List.nil_append]
    have hnB : ∀ p ∈ (x, instObj 216 dx) :: (dx, bkD w.params tb H) :: (H, listOf (cl.map fun p => Value.ref p.1).toArray n) :: (l, listOf vs.toArray nl) :: (r, listOf ws.toArray nr) :: cl, B.get? p.1 = none := (fac hxB ((fac hdB ((fac hHB ((fac hlB ((fac hrB (fun p hp => (hcs p hp).2))))))))))
    refine hQ _ _ D dl nd c2 n2 (but_of F N hk ((fac hx ((fac hdx ((fac hH ((fac hl ((fac hr (fun p hp => (hcs p hp).1))))))))))) ((fac (fun _ => by k_mem) ((fac (fun _ => by k_mem) ((fac (fun h => absurd rfl h) ((fac (fun _ => by k_mem) ((fac (fun _ => by k_mem) (fun p hp _ => .tail _ (.tail _ (.tail _ (.tail _ (.tail _ (.tail _ (List.mem_append_right _ (List.mem_append_right _ hp))))))))))))))))))) hdl ?_ (N _ (.head _)).1 (base_none kB hk hnB (N (D, listOf (dl.map fun p => Value.ref p.1).toArray nd) (.head _)).2.2) ?_ ?_ (N (H, _) (.tail _ (.tail _ (.tail _ (.head _))))).1
    · intro j p hp
      have z := N p (.tail _ (.tail _ (.tail _ (.tail _ (.tail _ (.tail _ (List.mem_append_left _ (List.mem_of_getElem? hp))))))))
      exact ⟨hde j p hp, z.1, base_none kB hk hnB z.2.2⟩
    · rw [hcl2, e3, List.length_map, List.length_range]
    · intro j p hp
      obtain ⟨q, t, u, hq, he⟩ := hcc2 j p hp
      have z := N p (.tail _ (.tail _ (.tail _ (.tail _ (.tail _ (.tail _ (List.mem_append_right _ (hsub p (List.mem_of_getElem? hp)))))))))
      refine ⟨?_, z.1, base_none kB hk hnB z.2.2⟩
      rw [e3, List.getElem?_map] at hq
      cases er : (List.range 3)[j]? with
      | none => rw [er] at hq; cases hq
      | some j' =>
        rw [er] at hq
        have ej : j' = j := by
          obtain ⟨hlt, e⟩ := List.getElem?_eq_some_iff.mp er
          rw [List.getElem_range] at e; exact e.symm
        have eq' : entP cell c σ j' = q := Option.some.inj hq
        rw [← ej, eq']
        exact ⟨t, u, he⟩
end
section
set_option maxHeartbeats 4000000
open PySem PySem.W PySem.Calls PyProof.Rows
theorem fillS12 : PySem.Challenge.rw_uc0030_01 = PySem.Challenge.rw_uc0030_01 ∧ Mine.hd.heap_1 = Mine.hd.heap_1 := by k_fill; exact ⟨rfl, rfl⟩
local macro_rules | `(tactic| walk_at $k:str) => if ["exec For", "exec For Name Call cons nil", "pyIter ref", "getItem ref int", "setItem ref int int", "setItem ref int", "call builtin:list.append", "compareOp NotEq ref ref"].contains k.getString then `(tactic| refine stop_of ?_) else Lean.Macro.throwUnsupported
local macro_rules | `(tactic| k_all) => `(tactic| with_reducible assumption)
noncomputable def Shift (s0 s1 s2 a b c : Int) : Prop := ∃ p q, ¬ (p = 0 ∧ q = 0) ∧ a = s0 + p ∧ b = s1 + q ∧ c = s2 - p - q ∧ -60 < p ∧ p < 60 ∧ -60 < q ∧ q < 60
noncomputable def IsOther (s0 s1 s2 : Int) (o : Obj) : Prop := ∃ a b c t u v n, o = listOf #[.int a t, .int b u, .int c v] n ∧ Shift s0 s1 s2 a b c
theorem pick_at (s0 s1 s2 : Int) (t0 t1 t2 : Tok) {i : Nat} (hi : i < 3) : ∃ ti, [Value.int s0 t0, .int s1 t1, .int s2 t2][i]? = some (.int (pick3 s0 s1 s2 i) ti) := by
  have hi3 : i = 0 ∨ i = 1 ∨ i = 2 := by omega
  rcases hi3 with rfl | rfl | rfl <;> exact ⟨_, rfl⟩
theorem isOther_of (s0 s1 s2 : Int) (t0 t1 t2 a b : Tok) (n : Nat) {i j : Nat} {m : Int} (hi : i < 3) (hj : j < 3) (hij : i ≠ j) (hm : 1 ≤ m ∧ m ≤ 40) :
    IsOther s0 s1 s2 (listOf (([Value.int s0 t0, .int s1 t1, .int s2 t2].set i (.int (pick3 s0 s1 s2 i - m) a)).set j (.int (pick3 s0 s1 s2 j + m) b)).toArray n) := by
  have hi3 : i = 0 ∨ i = 1 ∨ i = 2 := by omega
  have hj3 : j = 0 ∨ j = 1 ∨ j = 2 := by omega
  rcases hi3 with rfl | rfl | rfl <;> rcases hj3 with rfl | rfl | rfl
  · exact absurd rfl hij
  · exact ⟨_, _, _, _, _, _, _, rfl, -m, m, by omega, by show s0 - m = _; omega, by show s1 + m = _; omega, by show s2 = _; omega, by omega, by omega, by omega, by omega⟩
  · exact ⟨_, _, _, _, _, _, _, rfl, -m, 0, by omega, by show s0 - m = _; omega, by show s1 = _; omega, by show s2 + m = _; omega, by omega, by omega, by omega, by omega⟩
  · exact ⟨_, _, _, _, _, _, _, rfl, m, -m, by omega, by show s0 + m = _; omega, by show s1 - m = _; omega, by show s2 = _; omega, by omega, by omega, by omega, by omega⟩
  · exact absurd rfl hij
  · exact ⟨_, _, _, _, _, _, _, rfl, 0, -m, by omega, by show s0 = _; omega, by show s1 - m = _; omega, by show s2 + m = _; omega, by omega, by omega, by omega, by omega⟩
  · exact ⟨_, _, _, _, _, _, _, rfl, m, 0, by omega, by show s0 + m = _; omega, by show s1 = _; omega, by show s2 - m = _; omega, by omega, by omega, by omega, by omega⟩
  · exact ⟨_, _, _, _, _, _, _, rfl, 0, m, by omega, by show s0 = _; omega, by show s1 + m = _; omega, by show s2 - m = _; omega, by omega, by omega, by omega, by omega⟩
  · exact absurd rfl hij
theorem ne_ints_diff {prog : Program} {w : World} {A : Around} {E : Value → Shared → Prop} {s : Shared} {a b : Addr} {xs ys : List Value} {ns ms : List Int} {Q : Value → Shared → Prop} (ha : s.heap.IsList a xs.toArray) (hb : s.heap.IsList b ys.toArray) (hi : IntsAre xs ns) (hj : IntsAre ys ms) (hu : A.units + 64 < cLine) (e : ¬ ns = ms) (h : ∀ tk', Q (.bool true) { heap := s.heap, gens := s.gens, drawn := s.drawn, toks := tk', os := s.os }) :
    wpAny (model prog w) A (compareOp .NotEq (.ref a) (.ref b)) Q E s := ke_ne_ints ha hb hi hj hu (by rw [decide_eq_false e]; exact h s.toks)
theorem others_call {w : World} {mean : ExcName → Option Value} {mg mb : Str → Option Value} {B : Heap} {dp un : Nat} {fr : Option (List Env)} {gd : Option (List Code)} {s : Shared} {Q : Value → Shared → Prop} (W : Wd w mean mg mb B) (kB : Kp B s.heap)
   (hd : dp + 8 < recursionLimit) (hu : un + 120 < cLine) (r : Addr) (nr : Nat) (s0 s1 s2 cell : Int) (t0 t1 t2 u : Tok) 
   (hr : s.heap.get? r = some (listOf #[.int s0 t0, .int s1 t1, .int s2 t2] nr)) (hrB : B.get? r = none)
   (hQ : ∀ h' tk' D (cl : List (Addr × Obj)) n', Kp s.heap h' → cl.length ≤ 10 ∧ 0 < cl.length → (∀ p ∈ cl, IsOther s0 s1 s2 p.2 ∧ h'.get? p.1 = some p.2 ∧ s.heap.get? p.1 = none) → h'.get? D = some (listOf (cl.map fun p => Value.ref p.1).toArray n') → s.heap.get? D = none → Q (.ref D) { s with heap := h', toks := tk' }) :
  codeAny (model prg w) (Ar dp fr gd un) (.call (.ref 281) ⟨[.ref r, .int cell u], []⟩) (fun r s' => match r with | .ok (.ret v) => Q v s' | _ => False) s := by
  have X0 := W.X
  refine' enterN [(Str.ofString "shares", .ref r), (Str.ofString "cell", .int cell u)] W kB [(r, listOf #[.int s0 t0, .int s1 t1, .int s2 t2] nr)] ?kn ?k6 ?k7 ?k8 ?k9 ?kB ?_ ?c2 ?c3 ?c4 ?c5
  case kn => exact (fac (⟨hr, hrB⟩) (fun _ h => nomatch h))
  case k6 => k_is
  case k7 => k_is
  case k8 => k_room
  case k9 => exact BindsTo.of_eq rfl
  case c5 => decide
  case kB => exact locs rfl
  case c2 => exact rfl
  case c3 => exact rfl
  case c4 => exact rfl
  intro g L h₁ F N Wg hk hL
  have X := Wg.X
  obtain ⟨p9, l9, T⟩ := Wg.T
  clear X0
  replace F : Fr g L h₁ (mp [(Str.ofString "cell", .int cell u), (Str.ofString "shares", .ref r)]) := F
  w_on
  have hrL : @LT.lt Nat instLTNat r L := hL r _ hr
  k_steps
  refine Stop.go ?_
  rename Fr _ _ _ _ => F1
  rename News _ _ _ _ => N1
  rename_i D _ l1 _
  refine For_invTF F1 ?_ (fun x => rfl) (by passes_own)
  k_steps
  refine Stop.go ?_
  rename IsRange _ _ _ _ _ _ _ _ => hrr
  rename Fr _ _ _ _ => F1
  rename News _ _ _ _ => N1
  with_unfolding_all refine forRangeT (σ := (List (Addr × Obj) × Nat) × Option Value × Option Value × Option Value × Option Value) 3 (fun c => mo [(Str.ofString "one", c.2.1), (Str.ofString "two", c.2.2.1), (Str.ofString "much", c.2.2.2.1), (Str.ofString "other", c.2.2.2.2)] (mp [(Str.ofString "others", .ref D), (Str.ofString "cell", .int cell u), (Str.ofString "shares", .ref r)])) (fun c => (D, listOf (c.1.1.map fun p => Value.ref p.1).toArray c.1.2) :: (r, listOf #[.int s0 t0, .int s1 t1, .int s2 t2] nr) :: c.1.1) (fun i c => (c.1.1.length ≤ 3 * i ∧ i ≤ c.1.1.length) ∧ (∀ p ∈ c.1.1, p.1 ≠ D ∧ p.1 ≠ r ∧ IsOther s0 s1 s2 p.2)) (([], 0), none, none, none, none) rfl rfl hrr (by decide) (by decide) (frc F1 (by ktn_open)) N1 ⟨⟨Nat.le_refl _, Nat.le_refl _⟩, fun p hp => nomatch hp⟩ ?_ ?_ ?_
  · intro I s' v Q' hq
    exact wpAny_pure hq
  · intro I i
    refine al_LLxxRxxxxR ?_
    intro cl nl v1 v2 v3 v4 h tk t s₁ hne hi hP9 F N
    first | refine hideT fun Q9 hq9 => ?_ | refine hideQ fun Q9 hq9 => ?_
    obtain ⟨hcl, hoth⟩ := hP9
    dsimp only at hcl hne hoth F N
    clear hrr F1 N1
    have hDI : D ≠ I := hne _ (.head _)
    k_steps
    refine Stop.go ?_
    rename Fr _ _ _ _ => F1
    rename News _ _ _ _ => N1
    refine For_invTF F1 ?_ (fun x => rfl) (by passes_own)
    k_steps
    refine Stop.go ?_
    rename IsRange _ _ _ _ _ _ _ _ => hrr
    rename Fr _ _ _ _ => F1
    rename News _ _ _ _ => N1
    with_unfolding_all refine forRangeT (σ := (List (Addr × Obj) × Nat) × Option Value × Option Value × Option Value) 3 (fun c => mo [(Str.ofString "one", some (.int (0 + (i : Int)) t)), (Str.ofString "two", c.2.1), (Str.ofString "much", c.2.2.1), (Str.ofString "other", c.2.2.2)] (mp [(Str.ofString "others", .ref D), (Str.ofString "cell", .int cell u), (Str.ofString "shares", .ref r)])) (fun c => (I, itR (0 + ((i + 1 : Nat) : Int)) ((3 : Nat) - ((i + 1 : Nat) : Int))) :: (D, listOf (c.1.1.map fun p => Value.ref p.1).toArray c.1.2) :: (r, listOf #[.int s0 t0, .int s1 t1, .int s2 t2] nr) :: c.1.1) (fun j c => (c.1.1.length ≤ 3 * i + j ∧ (j ≤ i → i + j ≤ c.1.1.length) ∧ (i < j → i + j ≤ c.1.1.length + 1)) ∧ (∀ p ∈ c.1.1, p.1 ≠ D ∧ p.1 ≠ r ∧ IsOther s0 s1 s2 p.2) ∧ ∀ p ∈ c.1.1, p.1 ≠ I) ((cl, nl), v2, v3, v4) rfl rfl hrr (by decide) (by decide) (frc F1 (by ktn_open)) N1 ⟨⟨hcl.1, fun _ => hcl.2, fun h => absurd h (Nat.not_lt_zero _)⟩, hoth, fun p hp => hne p (.tail _ (.tail _ hp))⟩ ?_ ?_ ?_
    · intro I s' v Q' hq
      exact wpAny_pure hq
    · intro J j
      refine al_LLxxRxxxR ?_
      intro cl nl v2 v3 v4 h tk t' s₂ hne2 hj hP9 F N
      first | refine hideT fun Q9 hq9 => ?_ | refine hideQ fun Q9 hq9 => ?_
      obtain ⟨hcl, hoth, hcI⟩ := hP9
      dsimp only at hcl hne2 hoth hcI F N
      clear hrr F1 N1
      simp only [List.forall_mem_cons] at hne2
      obtain ⟨ne1, ne2, ne3, ne4⟩ := hne2
      obtain ⟨ti, hti⟩ := pick_at s0 s1 s2 t0 t1 t2 hi
      obtain ⟨tj, htj⟩ := pick_at s0 s1 s2 t0 t1 t2 hj
      k_steps
      · refine Stop.go ?_
        rename Fr _ _ _ _ => F1
        rename News _ _ _ _ => N1
        rename (_ ∧ _ ∧ _ ∧ _ ∧ AllLt _ _) => lO
        obtain ⟨lO1, lO2, lO3, lO4, lO5⟩ := lO
        rename_i IJ _ O nO _ _
        have hij : i ≠ j := by omega
        have hOc : ∀ p ∈ cl, p.1 ≠ O := fun p hp => Nat.ne_of_lt (allLt_mem lO5 p hp)
        have hOne : ∀ p ∈ (J, itR (0 + ((j + 1 : Nat) : Int)) ((3 : Nat) - ((j + 1 : Nat) : Int))) :: (I, itR (0 + ((i + 1 : Nat) : Int)) ((3 : Nat) - ((i + 1 : Nat) : Int))) :: (D, listOf (cl.map fun p => Value.ref p.1).toArray nl) :: (r, listOf #[.int s0 t0, .int s1 t1, .int s2 t2] nr) :: cl, p.1 ≠ O := (fac (Nat.ne_of_lt lO1) ((fac (Nat.ne_of_lt lO2) ((fac (Nat.ne_of_lt lO3) ((fac (Nat.ne_of_lt lO4) hOc)))))))
        have hM : (1 : Int) ≤ 1 ∧ (1 : Int) ≤ 40 := by first | decide | (have z1 := Int.emod_nonneg (cell.fdiv 8) (show (40 : Int) ≠ 0 by decide); have z2 := Int.emod_lt_of_pos (cell.fdiv 8) (show (0 : Int) < 40 by decide); have z3 := Int.fmod_eq_emod_of_nonneg (cell.fdiv 8) (show (0 : Int) ≤ 40 by decide); omega)
        refine wpAny_getItem_list (items := [Value.int s0 t0, .int s1 t1, .int s2 t2].toArray) (k := 0 + (i : Int)) (by is_list) (by omega) (by omega) (by rw [Int.zero_add, Int.toNat_natCast]; simpa using hti) ?_
        k_steps
        refine Stop.go ?_
        refine r_setItemI (Int.zero_add _) (ws := [Value.int s0 t0, .int s1 t1, .int s2 t2]) (n := nO) [] ((J, itR (0 + ((j + 1 : Nat) : Int)) ((3 : Nat) - ((j + 1 : Nat) : Int))) :: (I, itR (0 + ((i + 1 : Nat) : Int)) ((3 : Nat) - ((i + 1 : Nat) : Int))) :: (D, listOf (cl.map fun p : Addr × Obj => Value.ref p.1).toArray nl) :: (r, listOf #[.int s0 t0, .int s1 t1, .int s2 t2] nr) :: cl) F1 N1 (fun _ h => nomatch h) hOne hi (show 3 < 10000 by decide) fun h9 F9 N9 => ?_
        clear F1 N1
        simp only [List.nil_append] at N9
        k_steps
        refine Stop.go ?_
        rename News _ _ _ _ => N1
        have hsl : ∀ x : Value, ([Value.int s0 t0, .int s1 t1, .int s2 t2].set i x).length = 3 := fun x => by rw [List.length_set]; rfl
        refine wpAny_getItem_list (items := ([Value.int s0 t0, .int s1 t1, .int s2 t2].set i _).toArray) (k := 0 + (j : Int)) (x := .int (pick3 s0 s1 s2 j) tj) (News.isList N1 (.head _)) (by omega) (by omega) (by rw [Int.zero_add, Int.toNat_natCast, List.getElem?_toArray, List.getElem?_set_ne hij]; exact htj) ?_
        k_steps
        refine Stop.go ?_
        rename Fr _ _ _ _ => F1
        refine r_setItemI (Int.zero_add _) (ws := [Value.int s0 t0, .int s1 t1, .int s2 t2].set i _) (n := nO) [] ((J, itR (0 + ((j + 1 : Nat) : Int)) ((3 : Nat) - ((j + 1 : Nat) : Int))) :: (I, itR (0 + ((i + 1 : Nat) : Int)) ((3 : Nat) - ((i + 1 : Nat) : Int))) :: (D, listOf (cl.map fun p : Addr × Obj => Value.ref p.1).toArray nl) :: (r, listOf #[.int s0 t0, .int s1 t1, .int s2 t2] nr) :: cl) F1 N1 (fun _ h => nomatch h) hOne (by rw [hsl]; exact hj) (by rw [hsl]; decide) fun h8 F8 N8 => ?_
        clear F1 N1
        simp only [List.nil_append] at N8
        k_steps
        refine Stop.go ?_
        rename Fr _ _ _ _ => F1
        rename News _ _ _ _ => N1
        obtain ⟨ta, tb, N1⟩ : ∃ ta tb, News g L _ ((O, listOf (([Value.int s0 t0, .int s1 t1, .int s2 t2].set i (.int (pick3 s0 s1 s2 i - 1) ta)).set j (.int (pick3 s0 s1 s2 j + 1) tb)).toArray nO) :: _) := ⟨_, _, N1⟩
        refine append_K F1 N1 (.tail (Nat.ne_of_gt lO3) (.tail (Ne.symm ne2) (.tail (Ne.symm hDI) (.head ?U)))) (fun h7 F7 N7 => ?_) (size_small (by simp; omega))
        · exact (fac (Nat.ne_of_lt l1) (fun p hp => (hoth p hp).1))
        clear F1 N1
        k_steps
        have epush : (List.map (fun p => Value.ref p.fst) cl).toArray.push (Value.ref O) = (List.map (fun p : Addr × Obj => Value.ref p.fst) (cl ++ [(O, listOf (([Value.int s0 t0, .int s1 t1, .int s2 t2].set i (.int (pick3 s0 s1 s2 i - 1) ta)).set j (.int (pick3 s0 s1 s2 j + 1) tb)).toArray nO)])).toArray := by rw [List.map_append, List.push_toArray]; rfl
        rw [epush] at N7
        refine hq9 _ _ ⟨rfl, h7, _, ((cl ++ [(O, listOf (([Value.int s0 t0, .int s1 t1, .int s2 t2].set i (.int (pick3 s0 s1 s2 i - 1) ta)).set j (.int (pick3 s0 s1 s2 j + 1) tb)).toArray nO)], nl + 1), some _, some _, some _), rfl, frc F7 (by ktn_open), ?_, ?_, ?_, ?_, ?_⟩
        · intro p hp
          refine N7 p ?_
          rcases List.mem_cons.mp hp with rfl | hp
          · k_mem
          rcases List.mem_cons.mp hp with rfl | hp
          · k_mem
          rcases List.mem_cons.mp hp with rfl | hp
          · k_mem
          rcases List.mem_cons.mp hp with rfl | hp
          · k_mem
          rcases List.mem_append.mp hp with hp | hp
          · exact .tail _ (.tail _ (.tail _ (.tail _ (.tail _ hp))))
          · rw [List.mem_singleton.mp hp]; exact .head _
        · exact (fac ne1 ((fac ne2 ((fac ne3 ((faa ne4 ((fac (Nat.ne_of_gt lO1) (fun _ h => nomatch h))))))))))
        · dsimp only
          rw [List.length_append, List.length_singleton]
          exact ⟨by omega, by omega, by omega⟩
        · exact (faa hoth ((fac (⟨Nat.ne_of_gt lO3, Nat.ne_of_gt lO4, isOther_of (m := 1) s0 s1 s2 t0 t1 t2 ta tb nO hi hj hij hM⟩) (fun _ h => nomatch h))))
        · exact (faa hcI ((fac (Nat.ne_of_gt lO2) (fun _ h => nomatch h))))
      · refine Stop.go ?_
        rename Fr _ _ _ _ => F1
        rename News _ _ _ _ => N1
        rename (_ ∧ _ ∧ _ ∧ _ ∧ AllLt _ _) => lO
        obtain ⟨lO1, lO2, lO3, lO4, lO5⟩ := lO
        rename_i IJ _ O nO _ _
        have hij : i ≠ j := by omega
        have hOc : ∀ p ∈ cl, p.1 ≠ O := fun p hp => Nat.ne_of_lt (allLt_mem lO5 p hp)
        have hOne : ∀ p ∈ (J, itR (0 + ((j + 1 : Nat) : Int)) ((3 : Nat) - ((j + 1 : Nat) : Int))) :: (I, itR (0 + ((i + 1 : Nat) : Int)) ((3 : Nat) - ((i + 1 : Nat) : Int))) :: (D, listOf (cl.map fun p => Value.ref p.1).toArray nl) :: (r, listOf #[.int s0 t0, .int s1 t1, .int s2 t2] nr) :: cl, p.1 ≠ O := (fac (Nat.ne_of_lt lO1) ((fac (Nat.ne_of_lt lO2) ((fac (Nat.ne_of_lt lO3) ((fac (Nat.ne_of_lt lO4) hOc)))))))
        have hM : (1 : Int) ≤ (1 + (cell.fdiv 8).fmod 40) ∧ (1 + (cell.fdiv 8).fmod 40) ≤ 40 := by first | decide | (have z1 := Int.emod_nonneg (cell.fdiv 8) (show (40 : Int) ≠ 0 by decide); have z2 := Int.emod_lt_of_pos (cell.fdiv 8) (show (0 : Int) < 40 by decide); have z3 := Int.fmod_eq_emod_of_nonneg (cell.fdiv 8) (show (0 : Int) ≤ 40 by decide); omega)
        refine wpAny_getItem_list (items := [Value.int s0 t0, .int s1 t1, .int s2 t2].toArray) (k := 0 + (i : Int)) (by is_list) (by omega) (by omega) (by rw [Int.zero_add, Int.toNat_natCast]; simpa using hti) ?_
        k_steps
        refine Stop.go ?_
        refine r_setItemI (Int.zero_add _) (ws := [Value.int s0 t0, .int s1 t1, .int s2 t2]) (n := nO) [] ((J, itR (0 + ((j + 1 : Nat) : Int)) ((3 : Nat) - ((j + 1 : Nat) : Int))) :: (I, itR (0 + ((i + 1 : Nat) : Int)) ((3 : Nat) - ((i + 1 : Nat) : Int))) :: (D, listOf (cl.map fun p : Addr × Obj => Value.ref p.1).toArray nl) :: (r, listOf #[.int s0 t0, .int s1 t1, .int s2 t2] nr) :: cl) F1 N1 (fun _ h => nomatch h) hOne hi (show 3 < 10000 by decide) fun h9 F9 N9 => ?_
        clear F1 N1
        simp only [List.nil_append] at N9
        k_steps
        refine Stop.go ?_
        rename News _ _ _ _ => N1
        have hsl : ∀ x : Value, ([Value.int s0 t0, .int s1 t1, .int s2 t2].set i x).length = 3 := fun x => by rw [List.length_set]; rfl
        refine wpAny_getItem_list (items := ([Value.int s0 t0, .int s1 t1, .int s2 t2].set i _).toArray) (k := 0 + (j : Int)) (x := .int (pick3 s0 s1 s2 j) tj) (News.isList N1 (.head _)) (by omega) (by omega) (by rw [Int.zero_add, Int.toNat_natCast, List.getElem?_toArray, List.getElem?_set_ne hij]; exact htj) ?_
        k_steps
        refine Stop.go ?_
        rename Fr _ _ _ _ => F1
        refine r_setItemI (Int.zero_add _) (ws := [Value.int s0 t0, .int s1 t1, .int s2 t2].set i _) (n := nO) [] ((J, itR (0 + ((j + 1 : Nat) : Int)) ((3 : Nat) - ((j + 1 : Nat) : Int))) :: (I, itR (0 + ((i + 1 : Nat) : Int)) ((3 : Nat) - ((i + 1 : Nat) : Int))) :: (D, listOf (cl.map fun p : Addr × Obj => Value.ref p.1).toArray nl) :: (r, listOf #[.int s0 t0, .int s1 t1, .int s2 t2] nr) :: cl) F1 N1 (fun _ h => nomatch h) hOne (by rw [hsl]; exact hj) (by rw [hsl]; decide) fun h8 F8 N8 => ?_
        clear F1 N1
        simp only [List.nil_append] at N8
        k_steps
        refine Stop.go ?_
        rename Fr _ _ _ _ => F1
        rename News _ _ _ _ => N1
        obtain ⟨ta, tb, N1⟩ : ∃ ta tb, News g L _ ((O, listOf (([Value.int s0 t0, .int s1 t1, .int s2 t2].set i (.int (pick3 s0 s1 s2 i - (1 + (cell.fdiv 8).fmod 40)) ta)).set j (.int (pick3 s0 s1 s2 j + (1 + (cell.fdiv 8).fmod 40)) tb)).toArray nO) :: _) := ⟨_, _, N1⟩
        refine append_K F1 N1 (.tail (Nat.ne_of_gt lO3) (.tail (Ne.symm ne2) (.tail (Ne.symm hDI) (.head ?U2)))) (fun h7 F7 N7 => ?_) (size_small (by simp; omega))
        · exact (fac (Nat.ne_of_lt l1) (fun p hp => (hoth p hp).1))
        clear F1 N1
        k_steps
        have epush : (List.map (fun p => Value.ref p.fst) cl).toArray.push (Value.ref O) = (List.map (fun p : Addr × Obj => Value.ref p.fst) (cl ++ [(O, listOf (([Value.int s0 t0, .int s1 t1, .int s2 t2].set i (.int (pick3 s0 s1 s2 i - (1 + (cell.fdiv 8).fmod 40)) ta)).set j (.int (pick3 s0 s1 s2 j + (1 + (cell.fdiv 8).fmod 40)) tb)).toArray nO)])).toArray := by rw [List.map_append, List.push_toArray]; rfl
        rw [epush] at N7
        refine hq9 _ _ ⟨rfl, h7, _, ((cl ++ [(O, listOf (([Value.int s0 t0, .int s1 t1, .int s2 t2].set i (.int (pick3 s0 s1 s2 i - (1 + (cell.fdiv 8).fmod 40)) ta)).set j (.int (pick3 s0 s1 s2 j + (1 + (cell.fdiv 8).fmod 40)) tb)).toArray nO)], nl + 1), some _, some _, some _), rfl, frc F7 (by ktn_open), ?_, ?_, ?_, ?_, ?_⟩
        · intro p hp
          refine N7 p ?_
          rcases List.mem_cons.mp hp with rfl | hp
          · k_mem
          rcases List.mem_cons.mp hp with rfl | hp
          · k_mem
          rcases List.mem_cons.mp hp with rfl | hp
          · k_mem
          rcases List.mem_cons.mp hp with rfl | hp
          · k_mem
          rcases List.mem_append.mp hp with hp | hp
          · exact .tail _ (.tail _ (.tail _ (.tail _ (.tail _ hp))))
          · rw [List.mem_singleton.mp hp]; exact .head _
        · exact (fac ne1 ((fac ne2 ((fac ne3 ((faa ne4 ((fac (Nat.ne_of_gt lO1) (fun _ h => nomatch h))))))))))
        · dsimp only
          rw [List.length_append, List.length_singleton]
          exact ⟨by omega, by omega, by omega⟩
        · exact (faa hoth ((fac (⟨Nat.ne_of_gt lO3, Nat.ne_of_gt lO4, isOther_of (m := (1 + (cell.fdiv 8).fmod 40)) s0 s1 s2 t0 t1 t2 ta tb nO hi hj hij hM⟩) (fun _ h => nomatch h))))
        · exact (faa hcI ((fac (Nat.ne_of_gt lO2) (fun _ h => nomatch h))))
      · rename Fr _ _ _ _ => F1
        rename News _ _ _ _ => N1
        exact hq9 _ _ ⟨rfl, _, _, ((cl, nl), some _, v3, v4), rfl, frc F1 (by ktn_open), N1, (fac ne1 ((fac ne2 ((fac ne3 ne4))))), by dsimp only; exact ⟨by omega, by omega, by omega⟩, hoth, hcI⟩
    · clear F1 N1 hrr
      refine al_LLxxRxxxR ?_
      intro cl nl v2 v3 v4 h tk hP9 F N
      obtain ⟨hcl, hoth, hcI⟩ := hP9
      dsimp only at hcl hoth hcI F N
      k_steps
      exact hq9 _ _ ⟨rfl, _, _, ((cl, nl), some _, v2, v3, v4), rfl, frc F (by ktn_open), N, (fac hDI ((fac (hne _ (.tail _ (.head _))) hcI))), by dsimp only; exact ⟨by omega, by omega⟩, hoth⟩
  · clear F1 N1 hrr
    refine al_LLxxRxxxxR ?_
    intro cl nl v1 v2 v3 v4 h tk hP9 F N
    obtain ⟨hcl, hoth⟩ := hP9
    dsimp only at hcl hoth F N
    k_steps
    refine Stop.go ?_
    rename Fr _ _ _ _ => F1
    rename News _ _ _ _ => N1
    have hp1 := Int.emod_nonneg (cell.fdiv 64) (show (41 : Int) ≠ 0 by decide)
    have hp2 := Int.emod_lt_of_pos (cell.fdiv 64) (show (0 : Int) < 41 by decide)
    have hp3 := Int.fmod_eq_emod_of_nonneg (cell.fdiv 64) (show (0 : Int) ≤ 41 by decide)
    have hq1 := Int.emod_nonneg (cell.fdiv 4096) (show (41 : Int) ≠ 0 by decide)
    have hq2 := Int.emod_lt_of_pos (cell.fdiv 4096) (show (0 : Int) < 41 by decide)
    have hq3 := Int.fmod_eq_emod_of_nonneg (cell.fdiv 4096) (show (0 : Int) ≤ 41 by decide)
    have hbp : -60 < ((cell.fdiv 64).fmod 41 - 20) ∧ ((cell.fdiv 64).fmod 41 - 20) < 60 ∧ -60 < ((cell.fdiv 4096).fmod 41 - 20) ∧ ((cell.fdiv 4096).fmod 41 - 20) < 60 := by omega
    clear hp1 hp2 hp3 hq1 hq2 hq3
    have hclB : ∀ h'' (cl' : List (Addr × Obj)), Kp s.heap h'' → News g L h'' cl' → (∀ p ∈ cl', p.1 ≠ D ∧ p.1 ≠ r ∧ IsOther s0 s1 s2 p.2) → ∀ p ∈ cl', IsOther s0 s1 s2 p.2 ∧ h''.get? p.1 = some p.2 ∧ s.heap.get? p.1 = none := fun h'' cl' _ N hO p hp => ⟨(hO p hp).2.2, (N p hp).1, fresh_of N (o := p.2) hp hk ((fac (Ne.symm (hO p hp).2.1) (fun _ h => nomatch h)))⟩
    by_cases hpq : [(cell.fdiv 64).fmod 41 - 20, (cell.fdiv 4096).fmod 41 - 20] = [0, 0]
    · refine ne_ints_same (by is_list) (by is_list) (by l_ints) (by l_ints) (by (try simp only [units_in1, units_deeper, Around.mark_units]); (try dsimp only); omega) hpq fun tk9 => ?_
      dsimp only
      k_steps
      rename Fr _ _ _ _ => F2
      rename News _ _ _ _ => N2
      have kp := kp_end F2 N2 hk ((fac hr (fun _ h => nomatch h))) ((fac (by k_mem) (fun _ h => nomatch h)))
      exact hQ _ _ D cl nl kp ⟨by omega, by omega⟩ (hclB _ cl kp (fun p hp => N2 p (.tail _ (.tail _ (.tail _ (.tail _ (.tail _ hp)))))) hoth) (N2 (D, _) (by k_mem)).1 (fresh_of N2 (D := D) (by k_mem) hk ((fac (Nat.ne_of_lt l1) (fun _ h => nomatch h))))
    · refine ne_ints_diff (by is_list) (by is_list) (by l_ints) (by l_ints) (by (try simp only [units_in1, units_deeper, Around.mark_units]); (try dsimp only); omega) hpq fun tk9 => ?_
      dsimp only
      k_steps
      refine Stop.go ?_
      rename Fr _ _ _ _ => F2
      rename News _ _ _ _ => N2
      rename_i O _ lO
      have hAD : ∀ p ∈ cl, p.1 ≠ D := fun p hp => (hoth p hp).1
      obtain ⟨ob, hO, N2⟩ : ∃ ob, IsOther s0 s1 s2 ob ∧ News g L _ ((O, ob) :: _) := ⟨_, ⟨_, _, _, _, _, _, _, rfl, ((cell.fdiv 64).fmod 41 - 20), ((cell.fdiv 4096).fmod 41 - 20), fun hz => hpq (by rw [hz.1, hz.2]), rfl, rfl, rfl, hbp.1, hbp.2.1, hbp.2.2.1, hbp.2.2.2⟩, N2⟩
      refine append_K F2 N2 (by k_upd) (fun h7 F7 N7 => ?_) (size_small (by simp; omega))
      clear F2 N2
      k_steps
      have kp := kp_end F7 N7 hk ((fac hr (fun _ h => nomatch h))) ((fac (by k_mem) (fun _ h => nomatch h)))
      have epush : (List.map (fun p => Value.ref p.fst) cl).toArray.push (Value.ref O) = (List.map (fun p : Addr × Obj => Value.ref p.fst) (cl ++ [(O, ob)])).toArray := by rw [List.map_append, List.push_toArray]; rfl
      have hDN := (N7 (D, _) (.tail _ (.tail _ (.tail _ (.tail _ (.head _)))))).1
      rw [epush] at hDN
      show Q _ _
      refine hQ _ _ D (cl ++ [(O, ob)]) (nl + 1) ?a1 ?a2 ?a3 ?a4 ?a5
      case a1 => exact kp
      case a2 => rw [List.length_append, List.length_singleton]; exact ⟨by omega, by omega⟩
      case a3 =>
        have hD7 : O ≠ D := Nat.ne_of_gt lO.2.2.2.1
        have hr7 : O ≠ r := Nat.ne_of_gt lO.2.2.2.2.1
        have hall : ∀ p ∈ cl ++ [(O, ob)], p.1 ≠ D ∧ p.1 ≠ r ∧ IsOther s0 s1 s2 p.2 := (faa hoth ((fac (⟨hD7, hr7, hO⟩) (fun _ h => nomatch h))))
        have hnews : News g L h7 (cl ++ [(O, ob)]) := (faa (fun p hp => N7 p (.tail _ (.tail _ (.tail _ (.tail _ (.tail _ (.tail _ hp))))))) ((fac (N7 (O, ob) (.head _)) (fun _ h => nomatch h))))
        exact hclB h7 (cl ++ [(O, ob)]) kp hnews hall
      case a4 => exact hDN
      case a5 => exact fresh_of N7 (D := D) (o := listOf ((List.map (fun p => Value.ref p.fst) cl).toArray.push (Value.ref O)) (nl + 1)) (.tail _ (.tail _ (.tail _ (.tail _ (.head _))))) hk ((fac (Nat.ne_of_lt l1) (fun _ h => nomatch h)))
end
section
open PySem PySem.W PySem.Calls PyProof.Rows PySem.Spec
section
variable {prog : Program} {w : World} {A : Around} {E : Value → Shared → Prop} {s : Shared} {h₀ : Heap} {L : Addr} {m : Str → Option Value} {env : Env}
theorem restP_inv {σ : Type} {elt : Expr} {x x₂ : Str} {scope : Scope} {cl : List (Str × Addr)} {S : List (Addr × Obj) → Prop} {P : Nat → Value → Prop} {Fin : List Value → List (Addr × Obj) → Prop} {n : Nat} (nn : σ → List (Addr × Obj)) (J : Nat → List Value → σ → Prop)
    (turn : ∀ i ys c v, i < n → J i ys c → P i v → ∃ (t : Addr) (ot : Obj) (v₁ v₂ : Value) (nt : Nat), v = .ref t ∧ (t, ot) ∈ nn c ∧ ot.cls = .type "tuple" ∧ ot.data = .seq #[v₁, v₂] nt ∧
      ∀ I oI C oC D m₂ h tk (E' : Value → Shared → Prop), LCg.NsObj oC m₂ → m₂ x = some v₁ → m₂ x₂ = some v₂ → Fr h₀ L h m → News h₀ L h ((I, oI) :: (C, oC) :: (D, LCg.lst ys) :: nn c) → LCg.Off3 I C D (nn c) → ((@Ne Nat I C) ∧ (@Ne Nat I D) ∧ (@Ne Nat C D)) →
      wpAny (model prog w) A (eval elt (compEnvC scope cl C env)) (LCg.CompEnd h₀ L m { s with heap := h, toks := tk } I oI C oC D (LCg.lst ys) (fun _ => True) (fun y news' => ∃ c', (∀ p ∈ nn c', p ∈ news') ∧ S (nn c') ∧ J (i + 1) (ys ++ [y]) c')) E' { s with heap := h, toks := tk })
    (fin : ∀ ys c, J n ys c → Fin ys (nn c)) :
    ∀ k i ys c, i + k = n → J i ys c → LCp.CompRestP prog w A h₀ L m env elt x x₂ scope cl s S P Fin k i ys (nn c)
  | 0, i, ys, c, hk, hJ => LCp.CompRestP.zero (by
    have : i = n := by omega
    subst this
    exact fin ys c hJ)
  | k + 1, i, ys, c, hk, hJ => LCp.CompRestP.succ fun v hv => by
    obtain ⟨t, ot, v₁, v₂, nt, e, hm, hc, hd, go⟩ := turn i ys c v (by omega) hJ hv
    refine ⟨t, ot, v₁, v₂, nt, e, hm, hc, hd, fun I oI C oC D m₂ h tk E' hC h1 h2 F N off ne => ?_⟩
    refine wpAny_mono (go I oI C oC D m₂ h tk E' hC h1 h2 F N off ne) (fun y s₂ z => ?_) fun _ _ e => e
    obtain ⟨h', tk', news', rfl, F', N', off', -, c', hsub, hS, hJ'⟩ := z
    refine ⟨h', tk', nn c', rfl, F', fun p hp => N' p ?_, LCg.Off3.of fun p hp => off'.mem p (hsub p hp), hS, restP_inv nn J turn fin k (i + 1) _ c' (by omega) hJ'⟩
    rcases List.mem_cons.mp hp with rfl | hp
    · exact .head _
    rcases List.mem_cons.mp hp with rfl | hp
    · exact .tail _ (.head _)
    rcases List.mem_cons.mp hp with rfl | hp
    · exact .tail _ (.tail _ (.head _))
    exact .tail _ (.tail _ (.tail _ (hsub p hp)))
end
end
section
open PySem PySem.W PySem.Calls PyProof.Rows
noncomputable def lexB : List Int → List Int → Bool
  | [], [] => false
  | [], _ :: _ => true
  | _ :: _, [] => false
  | a :: r, b :: t => if a = b then lexB r t else decide (a < b)
open PySem PySem.SeqAt MeetsSeq MeetsSeq3
theorem lt_loopAt (l b : Addr) (items items2 : Array Value) (ns ms : List Int) (n n2 : Nat) (dd dd2 : Option Addr) (sl sl2 : Array (Option Value)) (hsz : items.size = items2.size) (hn : ns.length = items.size) (hm : ms.length = items2.size)
    (h1 : ∀ (j : Nat) (v : Value), items[j]? = some v → ∃ a t, ns[j]? = some a ∧ v = .int a t) (h2 : ∀ (j : Nat) (v : Value), items2[j]? = some v → ∃ a t, ms[j]? = some a ∧ v = .int a t) (k : Nat) :
    ∀ i : Nat, items.size - i = k → Meets (Builtin.«list.__eq__.loop» ⟨[.ref l, .ref b, rawInt i, rawInt 0], []⟩)
      (fun _ R s => s.heap.get? l = some { cls := .type "list", dict := dd, data := .seq items n, slots := sl } ∧ s.heap.get? b = some { cls := .type "list", dict := dd2, data := .seq items2 n2, slots := sl2 } ∧
        R (.ok (.ret (.bool (lexB (ns.drop i) (ms.drop i))))) s) := by
  induction k with
  | zero =>
    intro i hk prog w A R s h
    obtain ⟨hp, g, d, tk, os⟩ := s; obtain ⟨hl, hb, h⟩ := h
    wp_walk using AutoSeq1.wpAny_loadPart' hl, AutoSeq1.wpAny_loadPart' hb
    have hi1 : items[((i : Nat) : Int).toNat]? = none := by simp; omega
    have hi2 : items2[((i : Nat) : Int).toNat]? = none := by simp; omega
    have hd : ns.drop i = [] := by simp; omega
    have hd2 : ms.drop i = [] := by simp; omega
    rw [hd, hd2] at h
    rw [hi1, hi2]
    wp_walk using AutoSeq1.wpAny_loadPart' hl, AutoSeq1.wpAny_loadPart' hb
    show R (.ok (.ret (.bool (decide (items.size < items2.size))))) _
    rw [hsz]
    simpa [lexB] using h
  | succ k ih =>
    intro i hk prog w A R s h
    obtain ⟨hp, g, d, tk, os⟩ := s; obtain ⟨hl, hb, h⟩ := h
    wp_walk using AutoSeq1.wpAny_loadPart' hl, AutoSeq1.wpAny_loadPart' hb
    have hlt : i < items.size := by omega
    have hlt2 : i < items2.size := by omega
    obtain ⟨a, t, ha, he⟩ := h1 i items[i] (by simp [hlt])
    obtain ⟨b', t', hb', he'⟩ := h2 i items2[i] (by simp [hlt2])
    have hi1 : items[((i : Nat) : Int).toNat]? = some (.int a t) := by simp [hlt, he]
    have hi2 : items2[((i : Nat) : Int).toNat]? = some (.int b' t') := by simp [hlt2, he']
    have hd : ns.drop i = a :: ns.drop (i + 1) := by
      have := (List.getElem?_eq_some_iff.mp ha)
      obtain ⟨hx, hy⟩ := this
      rw [List.drop_eq_getElem_cons hx, hy]
    have hd2 : ms.drop i = b' :: ms.drop (i + 1) := by
      have := (List.getElem?_eq_some_iff.mp hb')
      obtain ⟨hx, hy⟩ := this
      rw [List.drop_eq_getElem_cons hx, hy]
    have hc : ((i : Int) + 1) = ((i + 1 : Nat) : Int) := by push_cast; rfl
    rw [hd, hd2] at h
    rw [hi1, hi2]
    refine wpAny_bind (EqAt.int_int a t b' t' prog w _ _ ?_)
    by_cases hab : a = b'
    · have hb1 : (a == b') = true := by simp [hab]
      have e1 : lexB (a :: ns.drop (i + 1)) (b' :: ms.drop (i + 1)) = lexB (ns.drop (i + 1)) (ms.drop (i + 1)) := by simp [lexB, hab]
      rw [e1] at h
      rw [hb1]
      wp_walk
      rw [hc]
      exact ⟨plainId_quiet plain_eq_loop _, codeAny_builtin entry_eq_loop (by
        rw [Around.under_plainId plain_eq_loop _]
        exact ih (i + 1) (by omega) prog w A R _ ⟨hl, hb, h⟩)⟩
    · have hb1 : (a == b') = false := by simp [hab]
      have e1 : lexB (a :: ns.drop (i + 1)) (b' :: ms.drop (i + 1)) = decide (a < b') := by simp [lexB, hab]
      rw [e1] at h
      rw [hb1]
      wp_walk using AutoSeq1.wpAny_loadPart' hl, AutoSeq1.wpAny_loadPart' hb
      rw [hi1, hi2]
      dsimp only
      refine wpAny_bind ?_
      show wpAny _ _ (compareOp .Lt (.int a t) (.int b' t')) _ _ _
      refine wpAny_lt_int ?_
      wp_walk
      exact h
theorem list_ltAt (l b : Addr) (items items2 : Array Value) (ns ms : List Int) (n n2 : Nat) (dd dd2 : Option Addr) (sl sl2 : Array (Option Value)) (hsz : items.size = items2.size) (hn : ns.length = items.size) (hm : ms.length = items2.size)
    (h1 : ∀ (j : Nat) (v : Value), items[j]? = some v → ∃ a t, ns[j]? = some a ∧ v = .int a t) (h2 : ∀ (j : Nat) (v : Value), items2[j]? = some v → ∃ a t, ms[j]? = some a ∧ v = .int a t) :
    Meets (Builtin.«list.__lt__» ⟨[.ref l, .ref b], []⟩)
      (fun _ R s => s.heap.get? l = some { cls := .type "list", dict := dd, data := .seq items n, slots := sl } ∧ s.heap.get? b = some { cls := .type "list", dict := dd2, data := .seq items2 n2, slots := sl2 } ∧
        R (.ok (.ret (.bool (lexB ns ms)))) s) := by
  intro prog w A R s h
  obtain ⟨hp, g, d, tk, os⟩ := s; obtain ⟨hl, hb, h⟩ := h
  have f3 := AutoSeq1.sub_list_list
  wp_walk using AutoSeq1.wpAny_loadPart' hl, AutoSeq1.wpAny_loadPart' hb
  exact ⟨plainId_quiet plain_eq_loop _, codeAny_builtin entry_eq_loop (by
    rw [Around.under_plainId plain_eq_loop _]
    exact lt_loopAt l b items items2 ns ms n n2 dd dd2 sl sl2 hsz hn hm h1 h2 _ 0 rfl prog w A R _ ⟨hl, hb, by simpa using h⟩)⟩
theorem intsAt0 : ∀ {vs : List Value} {ks : List Int}, IntsAre vs ks → ∀ {i : Nat} {v : Value}, vs[i]? = some v → ∃ k t, ks[i]? = some k ∧ v = .int k t
  | _, _, .nil, _, _, h => nomatch h
  | _, _, .cons k t r, 0, v, h => ⟨k, t, rfl, (Option.some.inj h).symm⟩
  | _, _, .cons k t r, i + 1, v, h => intsAt0 r (i := i) h
theorem lt_ints {prog : Program} {w : World} {A : Around} {E : Value → Shared → Prop} {s : Shared} {a b : Addr} {xs ys : List Value} {ns ms : List Int} {Q : Value → Shared → Prop} (ha : s.heap.IsList a xs.toArray) (hb : s.heap.IsList b ys.toArray) (hi : IntsAre xs ns) (hj : IntsAre ys ms) (hlen : ns.length = ms.length) (hu : A.units < cLine) (h : Q (.bool (lexB ns ms)) s) :
    wpAny (model prog w) A (compareOp .Lt (.ref a) (.ref b)) Q E s := by
  refine cmp_ofLt ?_
  obtain ⟨⟨cls, dd, data, sl⟩, ho, hc, n, hd⟩ := id ha
  obtain ⟨⟨cls2, dd2, data2, sl2⟩, ho2, hc2, n2, hd2⟩ := id hb
  simp only at hc hd hc2 hd2
  subst hc hd hc2 hd2
  have l1 := hi.length
  have l2 := hj.length
  exact richCompare_meets_room (op := .Lt) ⟨_, ho, rfl⟩ ⟨_, ho2, rfl⟩ F.slot_list_lt F.entry_list_lt (F.args_list_lt_2 _ _) (list_ltAt a b xs.toArray ys.toArray ns ms n n2 dd dd2 sl sl2 (by simp; omega) (by simp; omega) (by simp; omega) (fun j v hv => intsAt0 hi (by simpa using hv)) (fun j v hv => intsAt0 hj (by simpa using hv)))
    ⟨ho, ho2, show Value.bool (lexB ns ms) ≠ Value.notImplemented ∧ Q (.bool (lexB ns ms)) s from ⟨(fun x => nomatch x), h⟩⟩ hu
end
section
open PySem PySem.W PySem.Calls PyProof.Rows PySem.Spec
theorem ex5 {α0 α1 α2 α3 α4 : Type} {p : α0 → α1 → α2 → α3 → α4 → Prop} {G : Prop} (h : ∃ a0 a1 a2 a3 a4, p a0 a1 a2 a3 a4) (k : ∀ a0 a1 a2 a3 a4, p a0 a1 a2 a3 a4 → G) : G := by
  obtain ⟨a0, a1, a2, a3, a4, h⟩ := h
  exact k a0 a1 a2 a3 a4 h
theorem ex8 {α0 α1 α2 α3 α4 α5 α6 α7 : Type} {p : α0 → α1 → α2 → α3 → α4 → α5 → α6 → α7 → Prop} {G : Prop} (h : ∃ a0 a1 a2 a3 a4 a5 a6 a7, p a0 a1 a2 a3 a4 a5 a6 a7) (k : ∀ a0 a1 a2 a3 a4 a5 a6 a7, p a0 a1 a2 a3 a4 a5 a6 a7 → G) : G := by
  obtain ⟨a0, a1, a2, a3, a4, a5, a6, a7, h⟩ := h
  exact k a0 a1 a2 a3 a4 a5 a6 a7 h
theorem an8 {p0 p1 p2 p3 p4 p5 p6 p7 G : Prop} (h : p0 ∧ p1 ∧ p2 ∧ p3 ∧ p4 ∧ p5 ∧ p6 ∧ p7) (k : p0 → p1 → p2 → p3 → p4 → p5 → p6 → p7 → G) : G := k h.1 h.2.1 h.2.2.1 h.2.2.2.1 h.2.2.2.2.1 h.2.2.2.2.2.1 h.2.2.2.2.2.2.1 h.2.2.2.2.2.2.2
theorem an11 {p0 p1 p2 p3 p4 p5 p6 p7 p8 p9 p10 G : Prop} (h : p0 ∧ p1 ∧ p2 ∧ p3 ∧ p4 ∧ p5 ∧ p6 ∧ p7 ∧ p8 ∧ p9 ∧ p10) (k : p0 → p1 → p2 → p3 → p4 → p5 → p6 → p7 → p8 → p9 → p10 → G) : G := k h.1 h.2.1 h.2.2.1 h.2.2.2.1 h.2.2.2.2.1 h.2.2.2.2.2.1 h.2.2.2.2.2.2.1 h.2.2.2.2.2.2.2.1 h.2.2.2.2.2.2.2.2.1 h.2.2.2.2.2.2.2.2.2.1 h.2.2.2.2.2.2.2.2.2.2
section
variable {prog : Program} {w : World} {A : Around} {E : Value → Shared → Prop} {s : Shared} {h₀ : Heap} {L : Addr} {m : Str → Option Value} {env : Env}
theorem newEnv_1 {M : Model} {scope : Scope} {x y : Str} {globals : Addr} {cl : List (Str × Addr)} {qual : Str} {outer : Env} {Q : Env → Shared → Prop}
    (hn : scope.names = [(Str.ofString ".0", .local), (x, .cell), (y, .free)])
    (hQ : Q (newEnv scope s.heap.objs.size globals ((x, s.heap.objs.size + 1) :: cl) qual none .none (some outer) builtinsNs) { s with heap := (s.heap.push { cls := .type "dict", data := .dict #[] }).push { cls := .type "cell", data := .cell none } }) :
    wpAny M A (newFunctionEnv scope globals cl [] qual none .none (some outer)) Q E s := by
  simp only [newFunctionEnv, Option.isSome_some, if_true]
  refine wpAny_bind (wpAny_alloc ?_)
  rw [hn]
  refine wpAny_bind (wpAny_layCells _ (fun name kind cells => by cases hkc : kind == NameKind.cell <;> simp [hkc]) _ _ _ _ ?_)
  rw [List.forIn_nil]
  refine wpAny_bind (wpAny_pure (wpAny_pure ?_))
  rw [show ({ s with heap := s.heap.push { cls := .type "dict", data := .dict #[] } } : Shared).heap.objs.size = s.heap.objs.size + 1 from Heap.size_push ..]
  exact hQ
/-- what the source of such a comprehension hands on -/
noncomputable def CSrcC {σ : Type} (prog : Program) (w : World) (A : Around) (h₀ : Heap) (L : Addr) (m : Str → Option Value) (env : Env) (elt : Expr) (x : Str) (scope : Scope) (cl : List (Str × Addr)) (Q : Value → Shared → Prop) (n : Nat) (a : Int) (nn : σ → List (Addr × Obj)) (J : Nat → List Value → σ → Prop) (c₀ : σ) (xv : Value) (s₁ : Shared) : Prop :=
  ∃ (r : Addr) (b : Int) (t u v : Tok), xv = .ref r ∧ Fr h₀ L s₁.heap m ∧ News h₀ L s₁.heap (nn c₀) ∧ IsRange s₁.heap r a b 1 t u v ∧ Builtin.Range.small a b 1 = true ∧ Builtin.Range.rangeSize a b 1 = (n : Int) ∧
      (∀ (i : Nat) ys c (t : Tok) (I C D K : Addr) oI oC oK h tk (E' : Value → Shared → Prop), i < n → J i ys c → oK.data = .cell (some (.int (a + (i : Int)) t)) → Fr h₀ L h m → News h₀ L h ((I, oI) :: (C, oC) :: (D, LCg.lst ys) :: (K, oK) :: nn c) →
        wpAny (model prog w) A (eval elt (compEnvC scope ((x, K) :: cl) C env)) (fun z s₂ => ∃ h' tk' c', s₂ = { s₁ with heap := h', toks := tk' } ∧ Fr h₀ L h' m ∧ News h₀ L h' ((I, oI) :: (C, oC) :: (D, LCg.lst ys) :: (K, oK) :: nn c') ∧ (∀ p ∈ nn c', p ∈ nn c ∨ (@Ne Nat p.1 I ∧ @Ne Nat p.1 C ∧ @Ne Nat p.1 D ∧ @Ne Nat p.1 K)) ∧ J (i + 1) (ys ++ [z]) c') E' { s₁ with heap := h, toks := tk }) ∧
      (∀ ys c (D : Addr) h tk, J n ys c → Fr h₀ L h m → News h₀ L h ((D, LCg.lst ys) :: nn c) → Q (.ref D) { s₁ with heap := h, toks := tk })
/-- a comprehension over a range whose variable is a cell (a comprehension within reads it) -/
theorem ListComp_C {σ : Type} {elt iter : Expr} {x y : Str} {px : Pos} {scope : Scope} {cl : List (Str × Addr)} {pos : Pos} {Q : Value → Shared → Prop} (n : Nat) (a : Int) (nn : σ → List (Addr × Obj)) (J : Nat → List Value → σ → Prop) (c₀ : σ)
    (F₀ : Fr h₀ L s.heap m) (hclos : closureFor scope env = pure cl) (hn : scope.names = [(Str.ofString ".0", .local), (x, .cell), (y, .free)]) (hkind : scope.kind = .function)
    (hx : ∀ C K : Addr, (compEnvC scope ((x, K) :: cl) C env).kindOf x = some .cell) (hsz : n ≤ sizeLine) (hh : A.handled = none) (hJ : J 0 [] c₀)
    (h : wpAny (model prog w) A (eval iter env) (CSrcC prog w A h₀ L m env elt x scope cl Q n a nn J c₀) E s)
    (hs : ∀ x, foldedSetIterable iter env x = pure x := by intro _; rfl) :
    wpAny (model prog w) A (eval (.ListComp elt [⟨.Name x px, iter, [], 0⟩] scope pos) env) Q E s := by
  rw [eval_ListComp]
  refine wpAny_comprehension_free (use := none) rfl hs hclos hkind (fun z hz hz2 => ?_) (wpAny_mono h (fun xv s₁ h₁ => ?_) fun _ _ e => e)
  · rw [hn] at hz ⊢
    simp only [List.mem_cons, List.not_mem_nil, or_false] at hz
    rcases hz with rfl | rfl | rfl
    · rfl
    · cases hz2
    · cases hz2
  refine ex5 h₁ ?_
  clear h₁
  intro r b t u v h₁
  refine an8 h₁ ?_
  clear h₁
  intro e9 F N hr hsm hrs turn fin
  subst e9
  refine wpAny_pyIter_range hr hsm ?_
  refine wpAny_newObj_type (newEnv_1 hn ?_)
  dsimp only
  generalize hH1 : s₁.heap.push _ = H1
  generalize hH2 : H1.push _ = H2
  generalize hH3 : H2.push _ = H3
  generalize hH4 : H3.push _ = H4
  have e1 : H1.objs.size = s₁.heap.objs.size + 1 := by rw [← hH1, Heap.size_push]
  have e2 : H2.objs.size = s₁.heap.objs.size + 2 := by rw [← hH2, Heap.size_push, e1]
  have e3 : H3.objs.size = s₁.heap.objs.size + 3 := by rw [← hH3, Heap.size_push, e2]
  have gI : H4.get? s₁.heap.objs.size = some _ := hH4 ▸ Heap.get?_push_of_some _ (hH3 ▸ Heap.get?_push_of_some _ (hH2 ▸ Heap.get?_push_of_some _ (hH1 ▸ Heap.get?_push_size _ rfl)))
  have gD : H4.get? H1.objs.size = some (LCg.lst []) := hH4 ▸ Heap.get?_push_of_some _ (hH3 ▸ Heap.get?_push_of_some _ (hH2 ▸ Heap.get?_push_size _ rfl))
  have gC : H4.get? H2.objs.size = some { cls := .type "dict", data := .dict #[] } := hH4 ▸ Heap.get?_push_of_some _ (hH3 ▸ Heap.get?_push_size _ rfl)
  have gK : H4.get? (H2.objs.size + 1) = some { cls := .type "cell", data := .cell none } := by
    rw [show H2.objs.size + 1 = H3.objs.size by omega]
    exact hH4 ▸ Heap.get?_push_size _ rfl
  have old : ∀ b o, s₁.heap.get? b = some o → H4.get? b = some o := fun b o e => hH4 ▸ Heap.get?_push_of_some _ (hH3 ▸ Heap.get?_push_of_some _ (hH2 ▸ Heap.get?_push_of_some _ (hH1 ▸ Heap.get?_push_of_some _ e)))
  clear hH1 hH2 hH3 hH4
  generalize hI : s₁.heap.objs.size = I at *
  generalize hD : H1.objs.size = D at *
  generalize hC : H2.objs.size = C at *
  generalize hK : C + 1 = K at *
  have hLI : @LT.lt Nat instLTNat L I := hI ▸ F.ns.lt
  have hz : ∀ b : Addr, @LE.le Nat instLENat I b → h₀.get? b = none := fun b hb => Heap.get?_none_of_le (Nat.le_trans F.above (Nat.le_trans (Nat.le_of_lt hLI) hb))
  have hlt : ∀ p ∈ nn c₀, @LT.lt Nat instLTNat p.1 I := fun p hp => hI ▸ Heap.lt_size (N p hp).1
  have W := LCg.range_walks (prog := prog) (w := w) (A := A) (I := I) hh a n
  have lDI : D = I + 1 := e1
  have lCI : C = I + 2 := e2
  have lKI : K = I + 3 := by rw [← hK, lCI]
  have kI : @Ne Nat L I := by omega
  have kD : @Ne Nat L D := by omega
  have kC : @Ne Nat L C := by omega
  have kK : @Ne Nat L K := by omega
  have neCI : @Ne Nat C I := by omega
  have neDI : @Ne Nat D I := by omega
  have neKI : @Ne Nat K I := by omega
  have neCK : @Ne Nat C K := by omega
  have neDK : @Ne Nat D K := by omega
  have neCD : @Ne Nat C D := by omega
  have fin9 : ∀ (h' : Heap) (tk' : Tok) ys c oC oK, Fr h₀ L h' m → News h₀ L h' ((C, oC) :: (D, LCg.lst ys) :: (K, oK) :: nn c) → (∃ m', LCg.NsObj oC m') → (∀ p ∈ nn c, @Ne Nat p.1 C) → J n ys c → compPost (model prog w) A E none Q (.ref D) C (.ok .next) { s₁ with heap := h', toks := tk' } := by
    rintro h' tk' ys c oC oK F' N' ⟨m', hm⟩ hoff hJ'
    refine ⟨m', hm.ns (N' _ (.head _)).1, fun h'' hs'' => fin ys c D h'' tk' hJ' (F'.change hs'' (Ne.symm kC) (hz C (by omega))) fun p hp => ?_⟩
    rcases List.mem_cons.mp hp with rfl | hp
    · have z := N' (D, LCg.lst ys) (.tail _ (.head _))
      exact ⟨hs''.extBut _ _ (by show @Ne Nat D C; omega) z.1, z.2⟩
    · have z := N' p (.tail _ (.tail _ (.tail _ hp)))
      exact ⟨hs''.extBut _ _ (hoff p hp) z.1, z.2⟩
  have hst0 : IsRangeIter H4 I (a + ((0 : Nat) : Int) * 1) ((n : Int) - ((0 : Nat) : Int)) 1 := by
    rw [← hrs]
    simpa [IsRangeIter] using gI
  have hNs0 : LCg.NsObj { cls := .type "dict", data := .dict #[] } (fun _ => none) := by
    obtain ⟨o0, g0, n0⟩ := LCg.ns_obj (Heap.Ns.new s₁.heap (.type "dict"))
    rw [Heap.get?_push_size _ rfl] at g0
    rw [Option.some.inj g0]; exact n0
  have loop : codeAny (model prog w) A (.compLoop (.ListComp elt [⟨.Name x px, iter, [], 0⟩] scope pos) 0 (.ref I) (.ref D) (compEnvC scope ((x, K) :: cl) C env)) (compPost (model prog w) A E none Q (.ref D) C) { s₁ with heap := H4 } := by
    refine codeAny_compLoop_tests
      (fun k s' => ∃ h' tk i ys c oC oK m', s' = { s₁ with heap := h', toks := tk } ∧ i ≤ n ∧ k = n + 1 - i ∧ ys.length = i ∧ IsRangeIter h' I (a + (i : Nat) * 1) ((n : Int) - (i : Nat)) 1 ∧ Fr h₀ L h' m ∧ News h₀ L h' ((C, oC) :: (D, LCg.lst ys) :: (K, oK) :: nn c) ∧ LCg.NsObj oC m' ∧ (∃ v₀, oK.data = .cell v₀) ∧
        (∀ p ∈ nn c, @Ne Nat p.1 I ∧ @Ne Nat p.1 C ∧ @Ne Nat p.1 D ∧ @Ne Nat p.1 K) ∧ J i ys c) ?_ (n + 1) ?_
    · intro k s' hh
      refine ex8 hh ?_
      clear hh
      intro h' tk i ys c oC oK m' hh
      refine an11 hh ?_
      clear hh
      intro es hi ek hyl hst' F' N' hoC hv9 off' hJ'
      subst es
      subst ek
      obtain ⟨v₀, hoK⟩ := hv9
      by_cases hlt9 : i < n
      · refine W.item i _ _ _ hlt9 hst' fun v9 h₂ tk₂ hPv hst₂ hk₂ => ?_
        obtain ⟨t9, rfl⟩ := hPv
        have F₂ := LCg.fr_but F' hk₂ kI (hz I (Nat.le_refl _))
        have N₂ := LCg.news_but N' hk₂ ((fac neCI ((fac neDI ((fac neKI (fun p hp => (off' p hp).1)))))))
        have z3 := N₂ (K, oK) (.tail _ (.tail _ (.head _)))
        refine wpAny_assign_Name (wpAny_storeName_cell (by show scope.kind = _; exact hkind) (hx C K) (by simp [compEnvC]) ⟨oK, z3.1, hoK⟩ fun h₃ hK₃ hs₃ => ?_)
        refine wpAny_tests_nil ?_
        simp only [if_true]
        obtain ⟨oK3, gK3, dK3⟩ := hK₃
        have gI3 : h₃.get? I = _ := (hs₃.2 I (Ne.symm neKI)).trans hst₂
        have F₃ : Fr h₀ L h₃ m := F₂.change hs₃ (Ne.symm kK) (hz K (by omega))
        have N₃ : News h₀ L h₃ ((I, _) :: (C, oC) :: (D, LCg.lst ys) :: (K, oK3) :: nn c) := (fac (⟨gI3, Ne.symm kI, hz I (Nat.le_refl _)⟩) ((fac ((let z := N₂ (C, oC) (.head _); ⟨(hs₃.2 C neCK).trans z.1, z.2⟩)) ((fac ((let z := N₂ (D, LCg.lst ys) (.tail _ (.head _)); ⟨(hs₃.2 D neDK).trans z.1, z.2⟩)) ((fac (⟨gK3, z3.2⟩) (fun p hp => (let z := N₂ p (.tail _ (.tail _ (.tail _ hp))); ⟨(hs₃.2 p.1 (off' p hp).2.2.2).trans z.1, z.2⟩)))))))))
        refine wpAny_mono (turn i ys c t9 I C D K _ oC oK3 h₃ _ _ hlt9 hJ' dK3 F₃ N₃) (fun z s₄ h₄ => ?_) fun _ _ e => e
        obtain ⟨h₄, tk₄, c', rfl, F₄, N₄, hnew, hJ₄⟩ := h₄
        have off4 : ∀ p ∈ nn c', @Ne Nat p.1 I ∧ @Ne Nat p.1 C ∧ @Ne Nat p.1 D ∧ @Ne Nat p.1 K := fun p hp => by
          rcases hnew p hp with hp | hp
          · exact off' p hp
          · exact hp
        have zD := (N₄ (D, LCg.lst ys) (.tail _ (.tail _ (.head _)))).1
        refine append_at (hsz := by show ys.toArray.size ≤ sizeLine; rw [List.size_toArray, hyl]; exact Nat.le_trans hi hsz) zD fun h₅ hs₅ hD₅ => ?_
        refine ⟨n + 1 - (i + 1), by omega, h₅, tk₄, i + 1, ys ++ [z], c', oC, oK3, m', rfl, hlt9, rfl, by rw [List.length_append, List.length_singleton, hyl], (hs₅.2 I (Ne.symm neDI)).trans (N₄ _ (.head _)).1, F₄.change hs₅ (Ne.symm kD) (hz D (by omega)), ?_, hoC, ⟨_, dK3⟩, off4, hJ₄⟩
        refine (fac ((let z := N₄ (C, oC) (.tail _ (.head _)); ⟨(hs₅.2 C neCD).trans z.1, z.2⟩)) ((fac (⟨hD₅.trans (congrArg some (LCg.lst_snoc ys z)), Ne.symm kD, hz D (by omega)⟩) ((fac ((let z := N₄ (K, oK3) (.tail _ (.tail _ (.tail _ (.head _)))); ⟨(hs₅.2 K (Ne.symm neDK)).trans z.1, z.2⟩)) (fun p hp => (let z := N₄ p (.tail _ (.tail _ (.tail _ (.tail _ hp)))); ⟨(hs₅.2 p.1 (off4 p hp).2.2.1).trans z.1, z.2⟩)))))))
      · obtain rfl : i = n := Nat.le_antisymm hi (Nat.not_lt.mp hlt9)
        refine W.done _ _ _ hst' fun h₂ tk₂ hk₂ => ?_
        refine fin9 h₂ tk₂ ys c oC oK (LCg.fr_but F' hk₂ kI (hz I (Nat.le_refl _))) (LCg.news_but N' hk₂ ?_) ⟨m', hoC⟩ (fun p hp => (off' p hp).2.1) hJ'
        exact (fac neCI ((fac neDI ((fac neKI (fun p hp => (off' p hp).1))))))
    · refine ⟨H4, s₁.toks, 0, [], c₀, { cls := .type "dict", data := .dict #[] }, { cls := .type "cell", data := .cell none }, _, rfl, Nat.zero_le _, rfl, rfl, hst0, F.keeps old, ?_, hNs0, ⟨none, rfl⟩, fun p hp => ?_, hJ⟩
      · refine (fac (⟨gC, Ne.symm kC, hz C (by omega)⟩) ((fac (⟨gD, Ne.symm kD, hz D (by omega)⟩) ((fac (⟨gK, Ne.symm kK, hz K (by omega)⟩) (fun p hp => ⟨old _ _ (N p hp).1, (N p hp).2⟩))))))
      · have := hlt p hp
        exact ⟨Nat.ne_of_lt this, by show @Ne Nat p.1 C; omega, by show @Ne Nat p.1 D; omega, by show @Ne Nat p.1 K; omega⟩
  exact codeAny_compStart_list loop (W.self 0 _ _ _ hst0 loop)
end
end
section
open PySem PySem.W PySem.Calls PyProof.Rows
noncomputable def fhas (P : List Nat) (c : Nat) : Bool := P.any (Nat.beq c)
noncomputable def fcode (a b : Nat) : Nat := (a * 6 + b) * 2
noncomputable def ltd (P : List Nat) (a b : Nat) : Bool := fhas P (fcode a b + 1)
noncomputable def le1 (P : List Nat) (a b : Nat) : Bool := fhas P (fcode b a) || fhas P (fcode a b + 1) || Nat.beq a b
noncomputable def six : List Nat := [0, 1, 2, 3, 4, 5]
noncomputable def thru (r q : Nat → Nat → Bool) (a b : Nat) : Bool := six.any fun c => r a c && q c b
noncomputable def le2 (P : List Nat) : Nat → Nat → Bool := thru (le1 P) (le1 P)
noncomputable def le4 (P : List Nat) : Nat → Nat → Bool := thru (le2 P) (le2 P)
noncomputable def lt2 (P : List Nat) (a b : Nat) : Bool := thru (ltd P) (le1 P) a b || thru (le1 P) (ltd P) a b
noncomputable def lt4 (P : List Nat) (a b : Nat) : Bool := thru (lt2 P) (le2 P) a b || thru (le2 P) (lt2 P) a b
noncomputable def nxt (P : List Nat) (a b : Nat) : Bool := (le1 P a b && (Nat.blt a b || ltd P a b)) || (le2 P a b && (Nat.blt a b || lt2 P a b)) || (le4 P a b && (Nat.blt a b || lt4 P a b)) || thru (le4 P) (thru (ltd P) (le4 P)) a b
noncomputable def adjOk (P : List Nat) : List Nat → Bool
  | [] => true
  | [_] => true
  | a :: b :: r => nxt P a b && adjOk P (b :: r)
noncomputable def chkT : KasT (Array Nat) → List Nat → Bool
  | .ret p, P => p.toList.isPerm (List.range 6) && adjOk P p.toList
  | .ask i j k, P => Nat.blt i 6 && Nat.blt j 6 && chkT (k true) ((fcode i j + 1) :: P) && chkT (k false) (fcode i j :: P)
/-- the check along the answers that a list tells, then of all that lies behind -/
noncomputable def chkA : List Bool → KasT (Array Nat) → List Nat → Bool
  | [], T, P => chkT T P
  | _ :: _, .ret p, P => p.toList.isPerm (List.range 6) && adjOk P p.toList
  | true :: r, .ask i j k, P => Nat.blt i 6 && Nat.blt j 6 && chkA r (k true) ((fcode i j + 1) :: P)
  | false :: r, .ask i j k, P => Nat.blt i 6 && Nat.blt j 6 && chkA r (k false) (fcode i j :: P)
/-- p of every list of d answers -/
noncomputable def AllB : Nat → (List Bool → Prop) → Prop
  | 0, p => p []
  | d + 1, p => AllB d (fun r => p (true :: r)) ∧ AllB d (fun r => p (false :: r))
theorem AllB.mono {p q : List Bool → Prop} (f : ∀ r, p r → q r) : ∀ {d : Nat}, AllB d p → AllB d q
  | 0, h => f _ h
  | _ + 1, h => ⟨h.1.mono fun r => f _, h.2.mono fun r => f _⟩
theorem AllB.one {p : Prop} : ∀ {d : Nat}, AllB d (fun _ => p) → p
  | 0, h => h
  | _ + 1, h => h.1.one
theorem chkA_all : ∀ {d : Nat} {T : KasT (Array Nat)} {P : List Nat}, AllB d (fun r => chkA r T P = true) → chkT T P = true
  | 0, _, _, h => h
  | _ + 1, .ret _, _, h => h.1.one
  | d + 1, .ask i j k, P, h => by
    have ht : AllB d (fun r => (Nat.blt i 6 && Nat.blt j 6) = true ∧ chkA r (k true) ((fcode i j + 1) :: P) = true) := h.1.mono fun r => Bool.and_eq_true_iff.mp
    have hf : AllB d (fun r => (Nat.blt i 6 && Nat.blt j 6) = true ∧ chkA r (k false) (fcode i j :: P) = true) := h.2.mono fun r => Bool.and_eq_true_iff.mp
    exact Bool.and_eq_true_iff.mpr ⟨Bool.and_eq_true_iff.mpr ⟨(ht.mono fun r => And.left).one, chkA_all (ht.mono fun r => And.right)⟩, chkA_all (hf.mono fun r => And.right)⟩
theorem chk_tttt : chkA [true, true, true, true] (kas_sort 6) [] = true := by decide +kernel
theorem chk_tttf : chkA [true, true, true, false] (kas_sort 6) [] = true := by decide +kernel
theorem chk_ttft : chkA [true, true, false, true] (kas_sort 6) [] = true := by decide +kernel
theorem chk_ttff : chkA [true, true, false, false] (kas_sort 6) [] = true := by decide +kernel
theorem chk_tftt : chkA [true, false, true, true] (kas_sort 6) [] = true := by decide +kernel
theorem chk_tftf : chkA [true, false, true, false] (kas_sort 6) [] = true := by decide +kernel
theorem chk_tfft : chkA [true, false, false, true] (kas_sort 6) [] = true := by decide +kernel
theorem chk_tfff : chkA [true, false, false, false] (kas_sort 6) [] = true := by decide +kernel
theorem chk_fttt : chkA [false, true, true, true] (kas_sort 6) [] = true := by decide +kernel
theorem chk_fttf : chkA [false, true, true, false] (kas_sort 6) [] = true := by decide +kernel
theorem chk_ftft : chkA [false, true, false, true] (kas_sort 6) [] = true := by decide +kernel
theorem chk_ftff : chkA [false, true, false, false] (kas_sort 6) [] = true := by decide +kernel
theorem chk_fftt : chkA [false, false, true, true] (kas_sort 6) [] = true := by decide +kernel
theorem chk_fftf : chkA [false, false, true, false] (kas_sort 6) [] = true := by decide +kernel
theorem chk_ffft : chkA [false, false, false, true] (kas_sort 6) [] = true := by decide +kernel
theorem chk_ffff : chkA [false, false, false, false] (kas_sort 6) [] = true := by decide +kernel
theorem chk6 : chkT (kas_sort 6) [] = true := chkA_all (d := 4) ⟨⟨⟨⟨chk_tttt, chk_tttf⟩, ⟨chk_ttft, chk_ttff⟩⟩, ⟨⟨chk_tftt, chk_tftf⟩, ⟨chk_tfft, chk_tfff⟩⟩⟩, ⟨⟨⟨chk_fttt, chk_fttf⟩, ⟨chk_ftft, chk_ftff⟩⟩, ⟨⟨chk_fftt, chk_fftf⟩, ⟨chk_ffft, chk_ffff⟩⟩⟩⟩
/-- the facts of a path hold of κ -/
noncomputable def FactAt (κ : Nat → Int) (c : Nat) : Prop := ∃ i j, i < 6 ∧ j < 6 ∧ ((c = fcode i j + 1 ∧ κ i < κ j) ∨ (c = fcode i j ∧ ¬ κ i < κ j))
noncomputable def PathOf (κ : Nat → Int) (P : List Nat) : Prop := ∀ c ∈ P, FactAt κ c
section
variable {κ : Nat → Int} {P : List Nat}
theorem six_lt {c : Nat} (h : c ∈ six) : c < 6 := by
  unfold six at h
  simp only [List.mem_cons, List.not_mem_nil, or_false] at h
  omega
theorem fhas_mem {c : Nat} (h : fhas P c = true) : c ∈ P := by
  obtain ⟨x, hx, e⟩ := List.any_eq_true.mp h
  rw [Nat.eq_of_beq_eq_true e]; exact hx
theorem ltd_ok (h : PathOf κ P) {a b : Nat} (ha : a < 6) (hb : b < 6) (e : ltd P a b = true) : κ a < κ b := by
  obtain ⟨i, j, hi, hj, ⟨h1, h2⟩ | ⟨h1, h2⟩⟩ := h _ (fhas_mem e)
  · unfold fcode at h1
    have e1 : a = i := by omega
    have e2 : b = j := by omega
    rw [e1, e2]; exact h2
  · unfold fcode at h1; omega
theorem le1_ok (h : PathOf κ P) {a b : Nat} (ha : a < 6) (hb : b < 6) (e : le1 P a b = true) : κ a ≤ κ b := by
  unfold le1 at e
  rw [Bool.or_eq_true, Bool.or_eq_true] at e
  rcases e with (e | e) | e
  · obtain ⟨i, j, hi, hj, ⟨h1, h2⟩ | ⟨h1, h2⟩⟩ := h _ (fhas_mem e)
    · unfold fcode at h1; omega
    · unfold fcode at h1
      have e1 : b = i := by omega
      have e2 : a = j := by omega
      rw [e1, e2]; omega
  · have := ltd_ok h ha hb e; omega
  · rw [Nat.eq_of_beq_eq_true e]; exact Int.le_refl _
noncomputable def LeR (κ : Nat → Int) (r : Nat → Nat → Bool) : Prop := ∀ {a b : Nat}, a < 6 → b < 6 → r a b = true → κ a ≤ κ b
noncomputable def LtR (κ : Nat → Int) (r : Nat → Nat → Bool) : Prop := ∀ {a b : Nat}, a < 6 → b < 6 → r a b = true → κ a < κ b
theorem thru_ok {r q : Nat → Nat → Bool} {a b : Nat} (e : thru r q a b = true) : ∃ c, c < 6 ∧ r a c = true ∧ q c b = true := by
  obtain ⟨c, hm, hc⟩ := List.any_eq_true.mp e
  exact ⟨c, six_lt hm, Bool.and_eq_true_iff.mp hc⟩
theorem thru_le {r q : Nat → Nat → Bool} (hr : LeR κ r) (hq : LeR κ q) : LeR κ (thru r q) := fun ha hb e => by
  obtain ⟨c, hc, h1, h2⟩ := thru_ok e
  exact Int.le_trans (hr ha hc h1) (hq hc hb h2)
theorem thru_lt1 {r q : Nat → Nat → Bool} (hr : LtR κ r) (hq : LeR κ q) : LtR κ (thru r q) := fun ha hb e => by
  obtain ⟨c, hc, h1, h2⟩ := thru_ok e
  exact Int.lt_of_lt_of_le (hr ha hc h1) (hq hc hb h2)
theorem thru_lt2 {r q : Nat → Nat → Bool} (hr : LeR κ r) (hq : LtR κ q) : LtR κ (thru r q) := fun ha hb e => by
  obtain ⟨c, hc, h1, h2⟩ := thru_ok e
  exact Int.lt_of_le_of_lt (hr ha hc h1) (hq hc hb h2)
theorem ltd_R (h : PathOf κ P) : LtR κ (ltd P) := fun ha hb e => ltd_ok h ha hb e
theorem le1_R (h : PathOf κ P) : LeR κ (le1 P) := fun ha hb e => le1_ok h ha hb e
theorem le2_ok (h : PathOf κ P) : LeR κ (le2 P) := thru_le (r := le1 P) (q := le1 P) (le1_R h) (le1_R h)
theorem le4_ok (h : PathOf κ P) : LeR κ (le4 P) := thru_le (r := le2 P) (q := le2 P) (le2_ok h) (le2_ok h)
theorem or_lt {r q : Nat → Nat → Bool} (hr : LtR κ r) (hq : LtR κ q) : LtR κ (fun a b => r a b || q a b) := fun ha hb e => ((Bool.or_eq_true _ _).mp e).elim (hr ha hb) (hq ha hb)
theorem lt2_ok (h : PathOf κ P) : LtR κ (lt2 P) := or_lt (r := thru (ltd P) (le1 P)) (q := thru (le1 P) (ltd P)) (thru_lt1 (ltd_R h) (le1_R h)) (thru_lt2 (le1_R h) (ltd_R h))
theorem lt4_ok (h : PathOf κ P) : LtR κ (lt4 P) := or_lt (r := thru (lt2 P) (le2 P)) (q := thru (le2 P) (lt2 P)) (thru_lt1 (lt2_ok h) (le2_ok h)) (thru_lt2 (le2_ok h) (lt2_ok h))
theorem lt9_ok (h : PathOf κ P) : LtR κ (thru (le4 P) (thru (ltd P) (le4 P))) := thru_lt2 (le4_ok h) (thru_lt1 (ltd_R h) (le4_ok h))
theorem lex_of_le {a b : Nat} (h1 : κ a ≤ κ b) (h2 : a < b ∨ κ a < κ b) : LexLt κ a b := by
  rcases h2 with h2 | h2
  · rcases Int.lt_or_eq_of_le h1 with h | h
    · exact .inl h
    · exact .inr ⟨h, h2⟩
  · exact .inl h2
theorem nxt_cases {x1 x2 x3 x4 y1 y2 y3 b : Bool} (e : ((x1 && (b || y1)) || (x2 && (b || y2)) || (x3 && (b || y3)) || x4) = true) : (x1 = true ∧ (b = true ∨ y1 = true)) ∨ (x2 = true ∧ (b = true ∨ y2 = true)) ∨ (x3 = true ∧ (b = true ∨ y3 = true)) ∨ x4 = true := by
  rw [Bool.or_eq_true, Bool.or_eq_true, Bool.or_eq_true, Bool.and_eq_true, Bool.and_eq_true, Bool.and_eq_true, Bool.or_eq_true, Bool.or_eq_true, Bool.or_eq_true] at e
  rcases e with ((e | e) | e) | e
  · exact .inl e
  · exact .inr (.inl e)
  · exact .inr (.inr (.inl e))
  · exact .inr (.inr (.inr e))
theorem nxt_ok (h : PathOf κ P) {a b : Nat} (ha : a < 6) (hb : b < 6) (e : nxt P a b = true) : LexLt κ a b := by
  rcases nxt_cases e with ⟨e1, e2⟩ | ⟨e1, e2⟩ | ⟨e1, e2⟩ | e
  · exact lex_of_le (le1_ok h ha hb e1) (e2.imp (fun x => Nat.blt_eq.mp x) fun x => ltd_ok h ha hb x)
  · exact lex_of_le (le2_ok h ha hb e1) (e2.imp (fun x => Nat.blt_eq.mp x) fun x => lt2_ok h ha hb x)
  · exact lex_of_le (le4_ok h ha hb e1) (e2.imp (fun x => Nat.blt_eq.mp x) fun x => lt4_ok h ha hb x)
  · exact Or.inl (lt9_ok h ha hb e)
theorem lex_trans {a b c : Nat} (h1 : LexLt κ a b) (h2 : LexLt κ b c) : LexLt κ a c := by
  unfold LexLt at *
  rcases h1 with h1 | ⟨h1, h3⟩ <;> rcases h2 with h2 | ⟨h2, h4⟩
  · exact .inl (by omega)
  · exact .inl (by omega)
  · exact .inl (by omega)
  · exact .inr ⟨by omega, by omega⟩
theorem adj_ok (h : PathOf κ P) : ∀ (l : List Nat), (∀ x ∈ l, x < 6) → adjOk P l = true → l.Pairwise (LexLt κ)
  | [], _, _ => .nil
  | [a], _, _ => .cons (fun _ h => nomatch h) .nil
  | a :: b :: r, hm, e => by
    have e := Bool.and_eq_true_iff.mp (show (nxt P a b && adjOk P (b :: r)) = true from e)
    have ih := adj_ok h (b :: r) (fun x hx => hm x (.tail _ hx)) e.2
    have hab := nxt_ok h (hm a (.head _)) (hm b (.tail _ (.head _))) e.1
    refine List.pairwise_cons.mpr ⟨fun x hx => ?_, ih⟩
    rcases List.mem_cons.mp hx with rfl | hx
    · exact hab
    · exact lex_trans hab ((List.pairwise_cons.mp ih).1 x hx)
end
section
variable {prog : Program} {w : World} {A : Around} {G : Array Nat → Shared → Prop} {ks : List Value} {κ : Nat → Int}
theorem kas_run6 (hk : ∀ i, i < 6 → ∃ t, ks[i]? = some (.int (κ i) t)) {s : Shared} (hG : ∀ p : Array Nat, p.toList.Perm (List.range 6) → p.toList.Pairwise (LexLt κ) → G p s) : ∀ (T : KasT (Array Nat)) (P : List Nat), PathOf κ P → chkT T P = true → T.kasWp (kas_ask prog w A oneType' ks) G s
  | .ret p, P, hP, e => by
    have e := Bool.and_eq_true_iff.mp (show (p.toList.isPerm (List.range 6) && adjOk P p.toList) = true from e)
    have hp := List.isPerm_iff.mp e.1
    exact hG p hp (adj_ok hP _ (fun x hx => List.mem_range.mp (hp.mem_iff.mp hx)) e.2)
  | .ask i j k, P, hP, e => by
    have e : (Nat.blt i 6 && Nat.blt j 6 && chkT (k true) ((fcode i j + 1) :: P) && chkT (k false) (fcode i j :: P)) = true := e
    rw [Bool.and_eq_true, Bool.and_eq_true, Bool.and_eq_true] at e
    obtain ⟨⟨⟨e1, e2⟩, e3⟩, e4⟩ := e
    have hi := Nat.blt_eq.mp e1
    have hj := Nat.blt_eq.mp e2
    obtain ⟨t, ht⟩ := hk i hi
    obtain ⟨u, hu⟩ := hk j hj
    show kas_ask prog w A oneType' ks i j (fun b s' => (k b).kasWp (kas_ask prog w A oneType' ks) G s') s
    unfold kas_ask
    have gi : ks.getD i Value.none = .int (κ i) t := by rw [List.getD_eq_getElem?_getD, ht]; rfl
    have gj : ks.getD j Value.none = .int (κ j) u := by rw [List.getD_eq_getElem?_getD, hu]; rfl
    rw [gi, gj]
    refine kat_lt_int ?_
    by_cases h : κ i < κ j
    · rw [decide_eq_true h]
      exact kas_run6 hk hG (k true) _ (List.forall_mem_cons.mpr ⟨⟨i, j, hi, hj, .inl ⟨rfl, h⟩⟩, hP⟩) e3
    · rw [decide_eq_false h]
      exact kas_run6 hk hG (k false) _ (List.forall_mem_cons.mpr ⟨⟨i, j, hi, hj, .inr ⟨rfl, h⟩⟩, hP⟩) e4
end
end
section
open PySem PySem.W PySem.Calls PyProof.Rows
section
variable {w : World} {A : Around} {E : Value → Shared → Prop} {s : Shared} {h₀ : Heap} {L : Addr} {m : Str → Option Value} {news : List (Addr × Obj)} {vs : List Value} {κ : Nat → Int} {fa : Addr} {d u' : Nat}
theorem keys_run {kS D : Addr} {oD : Obj} {Fin : List Value → Nat → Shared → Prop} (hkey : ∀ h', Fr h₀ L h' m → News h₀ L h' news → KeyOk w h' fa vs κ d u') (hA : A.handled = none) (hd : A.depth + d < recursionLimit) (hu : A.units + u' < cLine) (hk1 : ∀ p ∈ (D, oD) :: news, p.1 ≠ kS)
    (hF : ∀ ks' e' h' tk', ks'.length = vs.length → (∀ i, i < vs.length → ∃ t, ks'[i]? = some (.int (κ i) t)) → Fr h₀ L h' m → News h₀ L h' ((kS, seqObj "list" (List.toArray ks') e') :: (D, oD) :: news) → Fin ks' e' { s with heap := h', toks := tk' }) :
    ∀ (r ks : List Value) (e : Nat) (h : Heap) (tk : Tok), ks.length + r.length = vs.length → vs.drop ks.length = r → (∀ i, i < ks.length → ∃ t, ks[i]? = some (.int (κ i) t)) → Fr h₀ L h m → News h₀ L h ((kS, seqObj "list" (List.toArray ks) e) :: (D, oD) :: news) →
      KatKeys prg w A h₀ L m kS (.ref fa) Fin r ks e { s with heap := h, toks := tk }
  | [], ks, e, h, tk, hl, _, hk, F, N => KatKeys.nil (hF ks e h tk (by simpa using hl) (fun i hi => hk i (by simp at hl; omega)) F N)
  | v :: r, ks, e, h, tk, hl, hr, hk, F, N => by
    have hv : vs[ks.length]? = some v := by
      have : (vs.drop ks.length)[0]? = some v := by rw [hr]; rfl
      rw [List.getElem?_drop] at this
      exact this
    refine KatKeys.cons (hkey h F (fun p hp => N p (.tail _ (.tail _ hp))) ks.length v hv A _ _ _ hA hd hu (fun _ _ x => x) fun h' tk' t' k' => ?_)
    refine KatBack.intro (F.keeps k') (N.grown k') (UpdF.head hk1) fun h2 c F2 N2 => ?_
    refine keys_run hkey hA hd hu hk1 hF r (ks ++ [.int (κ ks.length) t']) c h2 tk' ?_ ?_ ?_ F2 N2
    · simp at hl ⊢; omega
    · rw [List.length_append, List.length_singleton]
      have : vs.drop (ks.length + 1) = (vs.drop ks.length).drop 1 := by rw [List.drop_drop]
      rw [this, hr]; rfl
    · intro i hi
      rw [List.length_append, List.length_singleton] at hi
      by_cases h : i < ks.length
      · rw [List.getElem?_append_left h]; exact hk i h
      · have e : i = ks.length := by omega
        rw [e, List.getElem?_append_right (Nat.le_refl _), Nat.sub_self]
        exact ⟨t', rfl⟩
theorem sortK6 {l : Addr} {Q : Value → Shared → Prop} (hA : A.handled = none) (hd : A.depth + 2 + d < recursionLimit) (hu : A.units + 80 + u' < cLine) (F : Fr h₀ L s.heap m) (N : News h₀ L s.heap news) (hl : s.heap.IsList l vs.toArray) (h6 : vs.length = 6)
    (hkey : ∀ h', Fr h₀ L h' m → News h₀ L h' news → KeyOk w h' fa vs κ d u')
    (h : ∀ h' tk' D ord n', List.Perm ord (List.range 6) → ord.Pairwise (LexLt κ) → Fr h₀ L h' m → News h₀ L h' ((D, listOf (ord.map fun i => vs.getD i Value.none).toArray n') :: news) → Q (.ref D) { s with heap := h', toks := tk' }) :
    wpAny (model prg w) A (call (.builtin "sorted") [.ref l] [(Str.ofString "key", .ref fa)]) Q E s := by
  refine kat_sortedK (b := false) F N hl (by omega) (by omega) (by ksk_a1) (fun _ => by ksk_a2) (fun _ => by ksk_a3) fun D kS e1 h' F' N' lt hq => ?_
  have hk1 : ∀ p ∈ (D, seqObj "list" #[] e1) :: news, p.1 ≠ kS := List.forall_mem_cons.mpr ⟨Nat.ne_of_lt lt, fun p hp => Nat.ne_of_lt (Nat.lt_trans (hq p hp) lt)⟩
  refine keys_run hkey (by first | exact hA | rfl) (by (try simp only [depth_in1]); omega) (by (try simp only [units_in1]); omega) hk1 ?_ vs [] 0 h' s.toks (by simp) rfl (fun i hi => absurd hi (by simp)) F' N'
  intro ks e2 h2 tk2 hl2 hk2 F2 N2
  refine kas_kind (T := .type "int") (by omega) (fun v hv => ?_) (by decide) (by decide) ?_
  · obtain ⟨i, hi⟩ := List.getElem?_of_mem hv
    have hi6 : i < vs.length := by rw [← hl2]; exact (List.getElem?_eq_some_iff.mp hi).1
    obtain ⟨t, ht⟩ := hk2 i hi6
    rw [ht] at hi
    rw [← Option.some.inj hi]
    exact fun A Q E s _ q => wpAny_typeOf (typeIs_int s _ _) q
  · rw [h6]
    refine kas_run6 (ks := katRev false ks) (κ := κ) (fun i hi => hk2 i (by omega)) (fun p hp hw => ?_) _ [] (fun c hc => nomatch hc) chk6
    refine KatFin.intro F2 N2 (UpdF.head hk1) fun h3 c F3 N3 => ?_
    refine KasFin.intro F3 N3 (UpdF.tail (Nat.ne_of_gt lt) (UpdF.head fun p hp => Nat.ne_of_lt (hq p hp))) fun h4 c4 F4 N4 => ?_
    exact h h4 tk2 D p.toList c4 hp hw F4 (fun q hq => N4 q (.tail _ hq))
end
end
section
theorem lex_count (t : Int) : ∀ (X Y : List Int), X.length = Y.length → X.Pairwise (fun a b => b ≤ a) → Y.Pairwise (fun a b => b ≤ a) → (∀ y, t < y → X.count y = Y.count y) → X.count t < Y.count t → lexB X Y = true
  | [], [], _, _, _, _, h => by simp at h
  | [], _ :: _, h, _, _, _, _ => by simp at h
  | _ :: _, [], h, _, _, _, _ => by simp at h
  | x :: X, y :: Y, hl, hx, hy, hc, ht => by
    have hx2 := List.pairwise_cons.mp hx
    have hy2 := List.pairwise_cons.mp hy
    have ge : ∀ z, z ∈ x :: X → z ≤ x := fun z hz => by
      rcases List.mem_cons.mp hz with e | hz
      · omega
      · exact hx2.1 z hz
    have ge2 : ∀ z, z ∈ y :: Y → z ≤ y := fun z hz => by
      rcases List.mem_cons.mp hz with e | hz
      · omega
      · exact hy2.1 z hz
    have hty : t ≤ y := ge2 t (List.count_pos_iff.mp (by omega))
    have hxy : x ≤ y := by
      by_cases h : t < x
      · have h1 : 0 < (x :: X).count x := List.count_pos_iff.mpr (.head _)
        rw [hc x h] at h1
        exact ge2 x (List.count_pos_iff.mp h1)
      · omega
    unfold lexB
    by_cases e : x = y
    · rw [if_pos e]
      subst e
      refine lex_count t X Y (by simpa using hl) hx2.2 hy2.2 (fun z hz => ?_) ?_
      · have := hc z hz
        simpa [List.count_cons] using this
      · simpa [List.count_cons] using ht
    · rw [if_neg e]
      exact decide_eq_true (by omega)
theorem count_same {α : Type} (f f' : α → Int) (t y : Int) (hy : t < y) : ∀ (l : List α), (∀ i ∈ l, f i = f' i ∨ (f i < t ∧ f' i ≤ t)) → (l.map f).count y = (l.map f').count y
  | [], _ => rfl
  | a :: l, h => by
    have ih := count_same f f' t y hy l fun i hi => h i (.tail _ hi)
    rw [List.map_cons, List.map_cons, List.count_cons, List.count_cons, ih]
    rcases h a (.head _) with e | ⟨e1, e2⟩
    · rw [e]
    · have a1 : (f a == y) = false := beq_eq_false_iff_ne.mpr (by omega)
      have a2 : (f' a == y) = false := beq_eq_false_iff_ne.mpr (by omega)
      rw [a1, a2]
theorem count_le {α : Type} (f f' : α → Int) (t : Int) : ∀ (l : List α), (∀ i ∈ l, f i = f' i ∨ (f i < t ∧ f' i ≤ t)) → (l.map f).count t ≤ (l.map f').count t
  | [], _ => Nat.le_refl _
  | a :: l, h => by
    have ih := count_le f f' t l fun i hi => h i (.tail _ hi)
    rw [List.map_cons, List.map_cons, List.count_cons, List.count_cons]
    rcases h a (.head _) with e | ⟨e1, e2⟩
    · rw [e]; omega
    · have a1 : (f a == t) = false := beq_eq_false_iff_ne.mpr (by omega)
      rw [a1]
      simp only [Bool.false_eq_true, if_false]
      omega
theorem count_lt {α : Type} (f f' : α → Int) (t : Int) : ∀ (l : List α), (∀ i ∈ l, f i = f' i ∨ (f i < t ∧ f' i ≤ t)) → (∃ i ∈ l, f i < t ∧ f' i = t) → (l.map f).count t < (l.map f').count t
  | [], _, ⟨_, h, _⟩ => nomatch h
  | a :: l, h, ⟨i, hi, h1, h2⟩ => by
    rw [List.map_cons, List.map_cons, List.count_cons, List.count_cons]
    rcases List.mem_cons.mp hi with e | hi
    · subst e
      have ih := count_le f f' t l fun i hi => h i (.tail _ hi)
      have a1 : (f i == t) = false := beq_eq_false_iff_ne.mpr (by omega)
      have a2 : (f' i == t) = true := beq_iff_eq.mpr h2
      rw [a1, a2]
      simp only [Bool.false_eq_true, if_false, if_true]
      omega
    · have ih := count_lt f f' t l (fun i hi => h i (.tail _ hi)) ⟨i, hi, h1, h2⟩
      rcases h a (.head _) with e | ⟨e1, e2⟩
      · rw [e]; omega
      · have a1 : (f a == t) = false := beq_eq_false_iff_ne.mpr (by omega)
        rw [a1]
        simp only [Bool.false_eq_true, if_false]
        omega
theorem lex_of {α : Type} (l : List α) (f f' : α → Int) (t : Int) (X Y : List Int) (pX : X.Perm (l.map f)) (pY : Y.Perm (l.map f')) (hx : X.Pairwise (fun a b => b ≤ a)) (hy : Y.Pairwise (fun a b => b ≤ a))
    (h : ∀ i ∈ l, f i = f' i ∨ (f i < t ∧ f' i ≤ t)) (h2 : ∃ i ∈ l, f i < t ∧ f' i = t) : lexB X Y = true := by
  refine lex_count t X Y (by rw [pX.length_eq, pY.length_eq, List.length_map, List.length_map]) hx hy (fun y hy => ?_) ?_
  · rw [pX.count_eq, pY.count_eq]; exact count_same f f' t y hy l h
  · rw [pX.count_eq, pY.count_eq]; exact count_lt f f' t l h h2
theorem lowered {x y0 y1 y2 e0 e1 e2 t : Int} (hs : e0 + e1 + e2 = 0) (h0 : 0 < e0) (p1 : x ≤ y0 ∨ x ≤ y1) (p2 : x ≤ y0 ∨ x ≤ y2) (t0 : 0 < e0 → y0 + e0 ≤ t) (t1 : e1 < 0 → y1 - e1 ≤ t) (t2 : e2 < 0 → y2 - e2 ≤ t) : x < t := by
  have := t0 h0
  by_cases h : x ≤ y0
  · omega
  · have q1 := p1.resolve_left h
    have q2 := p2.resolve_left h
    by_cases h1 : e1 < 0
    · have := t1 h1; omega
    · have := t2 (by omega); omega
theorem top_of (x0 x1 x2 : Int) (z0 z1 z2 : Prop) [Decidable z0] [Decidable z1] [Decidable z2] (h : z0 ∨ z1 ∨ z2) : ∃ t, (z0 → x0 ≤ t) ∧ (z1 → x1 ≤ t) ∧ (z2 → x2 ≤ t) ∧ ((z0 ∧ t = x0) ∨ (z1 ∧ t = x1) ∨ (z2 ∧ t = x2)) := by
  have m2 : ∀ (x y : Int) (a b : Prop) [Decidable a] [Decidable b], a ∨ b → ∃ m, (a → x ≤ m) ∧ (b → y ≤ m) ∧ ((a ∧ m = x) ∨ (b ∧ m = y)) := fun x y a b _ _ hab => by
    by_cases ha : a
    · by_cases hb : b
      · by_cases h : x ≤ y
        · exact ⟨y, fun _ => h, fun _ => Int.le_refl _, .inr ⟨hb, rfl⟩⟩
        · exact ⟨x, fun _ => Int.le_refl _, fun _ => by omega, .inl ⟨ha, rfl⟩⟩
      · exact ⟨x, fun _ => Int.le_refl _, fun h => absurd h hb, .inl ⟨ha, rfl⟩⟩
    · exact ⟨y, fun h => absurd h ha, fun _ => Int.le_refl _, .inr ⟨hab.resolve_left ha, rfl⟩⟩
  by_cases h12 : z1 ∨ z2
  · obtain ⟨m, h1, h2, h3⟩ := m2 x1 x2 z1 z2 h12
    obtain ⟨n, k1, k2, k3⟩ := m2 x0 m z0 (z1 ∨ z2) (.inr h12)
    refine ⟨n, k1, fun h => Int.le_trans (h1 h) (k2 h12), fun h => Int.le_trans (h2 h) (k2 h12), ?_⟩
    rcases k3 with k3 | ⟨-, k3⟩
    · exact .inl k3
    · rw [k3]; exact .inr h3
  · have h0 := h.resolve_right h12
    exact ⟨x0, fun _ => Int.le_refl _, fun h => absurd (.inl h) h12, fun h => absurd (.inr h) h12, .inl ⟨h0, rfl⟩⟩
section
variable {t a b d : Int}
theorem n_up (h : d ≠ 0 → (if 0 < d then b + d else a - d) ≤ t) (hd : 0 < d) : b + d ≤ t := by
  have := h (by omega); rwa [if_pos hd] at this
theorem n_dn (h : d ≠ 0 → (if 0 < d then b + d else a - d) ≤ t) (hd : d < 0) : a - d ≤ t := by
  have := h (by omega); rwa [if_neg (by omega)] at this
theorem n_un (h : d ≠ 0 → (if 0 < d then b + d else a - d) ≤ t) (hd : -d < 0) : b - -d ≤ t := by
  have := n_up h (by omega); omega
theorem n_dp (h : d ≠ 0 → (if 0 < d then b + d else a - d) ≤ t) (hd : 0 < -d) : a + -d ≤ t := by
  have := n_dn h (by omega); omega
theorem n_A (h : d ≠ 0 → (if 0 < d then b + d else a - d) ≤ t) (hl : 0 < d → a < t) : a = a - d ∨ (a < t ∧ a - d ≤ t) := by
  by_cases z : d = 0
  · exact .inl (by omega)
  · by_cases hp : 0 < d
    · have := hl hp; exact .inr ⟨this, by omega⟩
    · have := n_dn h (by omega); exact .inr ⟨by omega, this⟩
theorem n_B (h : d ≠ 0 → (if 0 < d then b + d else a - d) ≤ t) (hl : 0 < -d → b < t) : b = b + d ∨ (b < t ∧ b + d ≤ t) := by
  by_cases z : d = 0
  · exact .inl (by omega)
  · by_cases hp : 0 < d
    · have := n_up h hp; exact .inr ⟨by omega, this⟩
    · have := hl (by omega); exact .inr ⟨this, by omega⟩
theorem n_T (h : d ≠ 0) (e : t = (if 0 < d then b + d else a - d)) : (a < t ∧ a - d = t) ∨ (b < t ∧ b + d = t) := by
  by_cases hp : 0 < d
  · rw [if_pos hp] at e; exact .inr ⟨by omega, e.symm⟩
  · rw [if_neg hp] at e; exact .inl ⟨by omega, e.symm⟩
end
section
variable {x y z : Int}
theorem ns1 (h : x + y + z = 0) : y + x + z = 0 := by omega
theorem ns2 (h : x + y + z = 0) : z + x + y = 0 := by omega
theorem ns3 (h : x + y + z = 0) : -x + -y + -z = 0 := by omega
theorem ns4 (h : x + y + z = 0) : -y + -x + -z = 0 := by omega
theorem ns5 (h : x + y + z = 0) : -z + -x + -y = 0 := by omega
end
theorem nucl (a0 a1 a2 b0 b1 b2 d0 d1 d2 : Int) (hs : d0 + d1 + d2 = 0) (hz : ¬ (d0 = 0 ∧ d1 = 0))
    (p01 : a0 ≤ b0 ∨ a0 ≤ a1) (p02 : a0 ≤ b0 ∨ a0 ≤ a2) (p10 : a1 ≤ b1 ∨ a1 ≤ a0) (p12 : a1 ≤ b1 ∨ a1 ≤ a2) (p20 : a2 ≤ b2 ∨ a2 ≤ a0) (p21 : a2 ≤ b2 ∨ a2 ≤ a1)
    (q01 : b0 ≤ a0 ∨ b0 ≤ b1) (q02 : b0 ≤ a0 ∨ b0 ≤ b2) (q10 : b1 ≤ a1 ∨ b1 ≤ b0) (q12 : b1 ≤ a1 ∨ b1 ≤ b2) (q20 : b2 ≤ a2 ∨ b2 ≤ b0) (q21 : b2 ≤ a2 ∨ b2 ≤ b1) :
    ∃ t, (a0 = a0 - d0 ∨ (a0 < t ∧ a0 - d0 ≤ t)) ∧ (a1 = a1 - d1 ∨ (a1 < t ∧ a1 - d1 ≤ t)) ∧ (a2 = a2 - d2 ∨ (a2 < t ∧ a2 - d2 ≤ t)) ∧ (b0 = b0 + d0 ∨ (b0 < t ∧ b0 + d0 ≤ t)) ∧ (b1 = b1 + d1 ∨ (b1 < t ∧ b1 + d1 ≤ t)) ∧ (b2 = b2 + d2 ∨ (b2 < t ∧ b2 + d2 ≤ t)) ∧
      ((a0 < t ∧ a0 - d0 = t) ∨ (a1 < t ∧ a1 - d1 = t) ∨ (a2 < t ∧ a2 - d2 = t) ∨ (b0 < t ∧ b0 + d0 = t) ∨ (b1 < t ∧ b1 + d1 = t) ∨ (b2 < t ∧ b2 + d2 = t)) := by
  obtain ⟨t, t0, t1, t2, tt⟩ := top_of (if 0 < d0 then b0 + d0 else a0 - d0) (if 0 < d1 then b1 + d1 else a1 - d1) (if 0 < d2 then b2 + d2 else a2 - d2) (d0 ≠ 0) (d1 ≠ 0) (d2 ≠ 0) (by clear p01 p02 p10 p12 p20 p21 q01 q02 q10 q12 q20 q21; omega)
  refine ⟨t, n_A t0 fun h => ?_, n_A t1 fun h => ?_, n_A t2 fun h => ?_, n_B t0 fun h => ?_, n_B t1 fun h => ?_, n_B t2 fun h => ?_, ?_⟩
  · exact lowered hs h p01 p02 (n_up t0) (n_dn t1) (n_dn t2)
  · exact lowered (e1 := d0) (e2 := d2) (ns1 hs) h p10 p12 (n_up t1) (n_dn t0) (n_dn t2)
  · exact lowered (e1 := d0) (e2 := d1) (ns2 hs) h p20 p21 (n_up t2) (n_dn t0) (n_dn t1)
  · exact lowered (e1 := -d1) (e2 := -d2) (ns3 hs) h q01 q02 (n_dp t0) (n_un t1) (n_un t2)
  · exact lowered (e1 := -d0) (e2 := -d2) (ns4 hs) h q10 q12 (n_dp t1) (n_un t0) (n_un t2)
  · exact lowered (e1 := -d0) (e2 := -d1) (ns5 hs) h q20 q21 (n_dp t2) (n_un t0) (n_un t1)
  · rcases tt with ⟨h, e⟩ | ⟨h, e⟩ | ⟨h, e⟩
    · exact (n_T h e).elim .inl fun x => .inr (.inr (.inr (.inl x)))
    · exact (n_T h e).elim (fun x => .inr (.inl x)) fun x => .inr (.inr (.inr (.inr (.inl x))))
    · exact (n_T h e).elim (fun x => .inr (.inr (.inl x))) fun x => .inr (.inr (.inr (.inr (.inr x))))
end
section
local macro_rules | `(tactic| walk_at $k:str) => if ["CompRest", "CompEnd", "call ref", "exec Assign cons ListComp", "CompSrc"].contains k.getString then `(tactic| refine stop_of ?_) else Lean.Macro.throwUnsupported
local macro_rules | `(tactic| k_all) => `(tactic| with_reducible assumption)
section
set_option maxHeartbeats 4000000
open PySem PySem.W PySem.Calls PyProof.Rows
theorem fillL1 : PySem.Challenge.rw_uc0030_01 = PySem.Challenge.rw_uc0030_01 ∧ Mine.hd.heap_1 = Mine.hd.heap_1 := by k_fill; exact ⟨rfl, rfl⟩
local macro_rules | `(tactic| walk_at "binaryOp Mult str int") => `(tactic| (refine' r_mul (Int.toNat_of_nonneg ?hn).symm ?hk ?_; (case hn => omega); (case hk => omega); intro t' j'))
theorem at_snoc {α : Type} {Q : Nat → α → Prop} {cl : List α} {a : α} (h : ∀ i p, cl[i]? = some p → Q i p) (ha : Q cl.length a) : ∀ i p, (cl ++ [a])[i]? = some p → Q i p := by
  intro i p hp
  by_cases hi : i < cl.length
  · rw [List.getElem?_append_left hi] at hp; exact h i p hp
  · rw [List.getElem?_append_right (Nat.not_lt.mp hi)] at hp
    cases e : i - cl.length with
    | zero =>
      rw [e] at hp
      have e1 : i = cl.length := by omega
      have e2 : a = p := Option.some.inj hp
      rw [e1, ← e2]; exact ha
    | succ k => rw [e] at hp; cases hp
noncomputable def dkk (c : Int) : Nat := (c.fmod 3).toNat
noncomputable def dgg (c : Int) : Bool := decide (c.fmod 6 > 2)
noncomputable def dmm (c : Int) : Nat := ((c.fdiv 6).fmod 3 * 12).toNat
noncomputable def IsDebt (c : Int) (o : Obj) : Prop := ∃ t u, o = tupO (.str (nmS (dkk c) (dgg c)) t) (.str (spc (dmm c)) u)
theorem st1 {w : World} {mean : ExcName → Option Value} {mg mb : Str → Option Value} {dp un : Nat} {fr : Option (List Env)} {gd : Option (List Code)} {s : Shared} {Q : Flow → Shared → Prop} {g : Heap} {L S : Addr} {R : List (Addr × Obj)} (Wg : Wd w mean mg mb g) (C : Addr) (o1 : Obj) (ws : List Value) (ks : List Int) (n : Nat)
   (F : Fr g L s.heap (mp [(Str.ofString "script", .ref S)])) (N : News g L s.heap ((L + 1, o1) :: (C, listOf ws.toArray n) :: R))
   (d1 : o1.data = .cell (some (.ref C))) (hI : IntsAre ws ks) (hl7 : ks.length = 7) (hd : dp + 30 < recursionLimit) (hu : un + 400 < cLine)
   (next : ∀ h' tk' (D : Addr) (cl : List (Addr × Obj)) nd, Fr g L h' (mp [(Str.ofString "debts", .ref D), (Str.ofString "script", .ref S)]) → News g L h' ((D, listOf (cl.map fun p => Value.ref p.1).toArray nd) :: cl ++ ((L + 1, o1) :: (C, listOf ws.toArray n) :: R)) → cl.length = 5 → (∀ (j : Nat) (p : Addr × Obj), cl[j]? = some p → ∃ c, ks[j]? = some c ∧ IsDebt c p.2) →  wpAny (model prg w) (Ar dp fr gd un) (execs (lawRest 2) (lawEnv L)) Q Fls { s with heap := h', toks := tk' }) :
   wpAny (model prg w) (Ar dp fr gd un) (execs (lawRest 1) (lawEnv L)) Q Fls s := by
  have X := Wg.X
  obtain ⟨p9, l9, T⟩ := Wg.T
  with_unfolding_all show wpAny _ _ (execs (_ :: lawRest 2) (envOfC (Str.ofString "law") _ L 305 (.ref 304))) _ _ _
  w_on
  k_steps
  refine Stop.go ?_
  k_dflt (refine LCg.Assign_ListComp_U (F₀ := by k_asm) (by rfl) (by with_unfolding_all rfl) (by with_unfolding_all rfl) (by decide) (by rfl) (by decide) (by rfl) (by rfl) (by rfl) ?_)
  k_steps
  refine Stop.go ?_
  rename Fr _ _ _ _ => F1
  rename News _ _ _ _ => N1
  rename (IntsAre _ (List.take 5 ks)) => hI5
  rename (_ ∧ _ ∧ AllLt _ _) => l1
  rename_i D5 ws5 h5 _ _
  have hw5 : ws5.length = 5 := by rw [hI5.length, List.length_take, hl7]; rfl
  refine LCg.CompSrc.ledger (ax := D5) (its := ws5.toArray) (k := 0) rfl F1 N1 (by k_mem) (size_small (by simp; omega)) ?_
  intro g'
  with_unfolding_all refine rest_inv (n := ws5.toArray.size) (fun cl : List (Addr × Obj) => (D5, listOf ws5.toArray 0) :: (L + 1, o1) :: (C, listOf ws.toArray n) :: (cl ++ R)) (fun j ys cl => cl.length = j ∧ ys = cl.map (fun p : Addr × Obj => Value.ref p.1) ∧ ∀ (i : Nat) (p : Addr × Obj), cl[i]? = some p → ∃ c, ks[i]? = some c ∧ IsDebt c p.2) ?turn ?fin _ 0 [] [] (Nat.zero_add _) ⟨rfl, rfl, fun i p h => nomatch h⟩
  case turn =>
    rintro j ys cl v I oI C2 oC D m₂ h2 tk2 E' hj ⟨hj1, hj2, hj3⟩ hv hC hx F2 N2 off2 ne2
    clear F1 N1
    have hj5 : j < 5 := by simpa [hw5] using hj
    have hv0 : ws5[j]? = some v := by simpa using hv
    obtain ⟨c, tv, hc5, rfl⟩ := intsAt hI5 hv0
    have hcj : ks[j]? = some c := by rw [List.getElem?_take, if_pos hj5] at hc5; exact hc5
    have hk0 : 0 ≤ c.fmod 3 := Int.fmod_nonneg_of_pos _ (by decide)
    have hk3 : c.fmod 3 < 3 := Int.fmod_lt_of_pos _ (by decide)
    have hm0 : 0 ≤ (c.fdiv 6).fmod 3 := Int.fmod_nonneg_of_pos _ (by decide)
    have hm3 : (c.fdiv 6).fmod 3 < 3 := Int.fmod_lt_of_pos _ (by decide)
    k_steps
    refine Stop.go ?_
    rename Fr _ _ _ _ => F1
    rename News _ _ _ _ => N1
    refine name_wp rfl Wg F1 N1 (by k_room) hk0 hk3 fun h9 tk9 t9 F9 N9 => ?_
    clear F1 N1
    k_steps
    refine Stop.go ?_
    rename Fr _ _ _ _ => F1
    rename News _ _ _ _ => N1
    rename (_ ∧ _ ∧ _ ∧ _ ∧ _ ∧ _ ∧ AllLt _ _) => lT
    rename_i T9 _
    obtain ⟨t8, N1⟩ : ∃ t8, News g L _ ((T9, tupO (.str (nmS (dkk c) (dgg c)) t9) (.str (spc (dmm c)) t8)) :: _) := ⟨_, N1⟩
    refine LCg.CompEnd.intro F1 N1 ((D5, listOf ws5.toArray 0) :: (L + 1, o1) :: (C, listOf ws.toArray n) :: ((cl ++ [(T9, tupO (.str (nmS (dkk c) (dgg c)) t9) (.str (spc (dmm c)) t8))]) ++ R)) ?_ ?_ trivial ⟨cl ++ [(T9, tupO (.str (nmS (dkk c) (dgg c)) t9) (.str (spc (dmm c)) t8))], fun _ h => h, .inr ⟨_, .head _, rfl, _, rfl⟩, ?_, ?_, ?_⟩
    · exact List.forall_mem_cons.mpr ⟨.tail _ (.head _), List.forall_mem_cons.mpr ⟨.tail _ (.tail _ (.head _)), List.forall_mem_cons.mpr ⟨.tail _ (.tail _ (.tail _ (.head _))), List.forall_mem_cons.mpr ⟨.tail _ (.tail _ (.tail _ (.tail _ (.head _)))), List.forall_mem_cons.mpr ⟨.tail _ (.tail _ (.tail _ (.tail _ (.tail _ (.head _))))), List.forall_mem_cons.mpr ⟨.tail _ (.tail _ (.tail _ (.tail _ (.tail _ (.tail _ (.head _)))))), List.forall_mem_append.mpr ⟨List.forall_mem_append.mpr ⟨fun p hp => .tail _ (.tail _ (.tail _ (.tail _ (.tail _ (.tail _ (.tail _ (List.mem_append_left _ hp))))))), List.forall_mem_cons.mpr ⟨.head _, fun _ h => nomatch h⟩⟩, fun p hp => .tail _ (.tail _ (.tail _ (.tail _ (.tail _ (.tail _ (.tail _ (List.mem_append_right _ hp)))))))⟩⟩⟩⟩⟩⟩⟩
    · refine LCg.Off3.of (List.forall_mem_cons.mpr ⟨off2.mem _ (.head _), List.forall_mem_cons.mpr ⟨off2.mem _ (.tail _ (.head _)), List.forall_mem_cons.mpr ⟨off2.mem _ (.tail _ (.tail _ (.head _))), List.forall_mem_append.mpr ⟨List.forall_mem_append.mpr ⟨fun p hp => off2.mem p (.tail _ (.tail _ (.tail _ (List.mem_append_left _ hp)))), List.forall_mem_cons.mpr ⟨⟨Nat.ne_of_gt lT.1, Nat.ne_of_gt lT.2.1, Nat.ne_of_gt lT.2.2.1⟩, fun _ h => nomatch h⟩⟩, fun p hp => off2.mem p (.tail _ (.tail _ (.tail _ (List.mem_append_right _ hp))))⟩⟩⟩⟩)
    · show (cl ++ [_]).length = j + 1
      rw [List.length_append, List.length_singleton, hj1]
    · rw [hj2, List.map_append]; rfl
    · exact at_snoc (Q := fun i (p : Addr × Obj) => ∃ c, ks[i]? = some c ∧ IsDebt c p.2) hj3 (by rw [hj1]; exact ⟨c, hcj, _, _, rfl⟩)
  case fin =>
    rintro ys cl ⟨hj1, hj2, hj3⟩
    clear F1 N1
    unfold LCg.FinA
    intro D h9 tk9 F9 N9 o9
    have N9' : News g L h9 ((D, listOf (cl.map fun p : Addr × Obj => Value.ref p.1).toArray (cl.map fun p : Addr × Obj => Value.ref p.1).length) :: cl ++ ((L + 1, o1) :: (C, listOf ws.toArray n) :: R)) := by
      rw [hj2] at N9
      refine List.forall_mem_cons.mpr ⟨N9 _ (.head _), List.forall_mem_append.mpr ⟨fun p hp => N9 p (.tail _ (.tail _ (.tail _ (.tail _ (List.mem_append_left _ hp))))), List.forall_mem_cons.mpr ⟨N9 _ (.tail _ (.tail _ (.head _))), List.forall_mem_cons.mpr ⟨N9 _ (.tail _ (.tail _ (.tail _ (.head _)))), fun p hp => N9 p (.tail _ (.tail _ (.tail _ (.tail _ (List.mem_append_right _ hp)))))⟩⟩⟩⟩
    exact next h9 tk9 D cl _ (frc F9 (by ktn_open)) N9' (by rw [hj1, List.size_toArray, hw5]) hj3
end
section
local macro_rules | `(tactic| walk_at "subscriptTail") => `(tactic| (with_reducible show wpAny _ _ (subscriptTail _ _ (Value.ref _) (Value.int _ _)) _ _ _; refine stop_of ?_))
section
local macro_rules | `(tactic| walk_at "none") => `(tactic| skip)
set_option maxHeartbeats 4000000
open PySem PySem.W PySem.Calls PyProof.Rows
theorem fillL2 : PySem.Challenge.rw_uc0030_01 = PySem.Challenge.rw_uc0030_01 ∧ Mine.hd.heap_1 = Mine.hd.heap_1 := by k_fill; exact ⟨rfl, rfl⟩
noncomputable def nGr (c : Int) (k : Nat) : Bool := (c.fdiv (2 ^ k)).fmod 2 == 1
theorem ints_at {vs : List Value} {ns : List Int} (h : IntsAre vs ns) {i : Nat} {a : Int} (hi : ns[i]? = some a) : ∃ t, vs[i]? = some (.int a t) := by
  have hl : i < vs.length := by rw [h.length]; exact (List.getElem?_eq_some_iff.mp hi).1
  obtain ⟨b, t, e⟩ := ints_item h hl
  obtain ⟨k, t', e2, e3⟩ := intsAt h e
  rw [hi] at e2
  injection e3 with e3 e4
  exact ⟨t, by rw [e, Option.some.inj e2, e3]⟩
theorem st2 {w : World} {mean : ExcName → Option Value} {mg mb : Str → Option Value} {dp un : Nat} {fr : Option (List Env)} {gd : Option (List Code)} {s : Shared} {Q : Flow → Shared → Prop} {g : Heap} {L S : Addr} {R : List (Addr × Obj)} (Wg : Wd w mean mg mb g) (C D : Addr) (o1 : Obj) (ws : List Value) (ks : List Int) (n : Nat) (c6 : Int)
   (F : Fr g L s.heap (mp [(Str.ofString "debts", .ref D), (Str.ofString "script", .ref S)])) (N : News g L s.heap ((L + 1, o1) :: (C, listOf ws.toArray n) :: R))
   (d1 : o1.data = .cell (some (.ref C))) (hI : IntsAre ws ks) (h6 : ks[6]? = some c6) (hd : dp + 30 < recursionLimit) (hu : un + 400 < cLine)
   (next : ∀ h' tk' (M : Addr) (vs : List Value) nm, Fr g L h' (mp [(Str.ofString "names", .ref M), (Str.ofString "debts", .ref D), (Str.ofString "script", .ref S)]) → News g L h' ((M, listOf vs.toArray nm) :: (L + 1, o1) :: (C, listOf ws.toArray n) :: R) → vs.length = 3 → (∀ k, k < 3 → ∃ t, vs[k]? = some (.str (nmS k (nGr c6 k)) t)) →  wpAny (model prg w) (Ar dp fr gd un) (execs (lawRest 3) (lawEnv L)) Q Fls { s with heap := h', toks := tk' }) :
   wpAny (model prg w) (Ar dp fr gd un) (execs (lawRest 2) (lawEnv L)) Q Fls s := by
  have X := Wg.X
  obtain ⟨p9, l9, T⟩ := Wg.T
  with_unfolding_all show wpAny _ _ (execs (_ :: lawRest 3) (envOfC (Str.ofString "law") _ L 305 (.ref 304))) _ _ _
  w_on
  obtain ⟨t6, hw6⟩ := Mine.ints_at hI h6
  k_steps
  refine Stop.go ?_
  k_dflt (refine LCg.Assign_ListComp_U (F₀ := by k_asm) (by rfl) (by with_unfolding_all rfl) (by with_unfolding_all rfl) (by decide) (by rfl) (by decide) (by rfl) (by rfl) (by rfl) ?_)
  k_steps
  refine Stop.go ?_
  rename Fr _ _ _ _ => F1
  rename News _ _ _ _ => N1
  rename IsRange _ _ _ _ _ _ _ _ => hrr
  refine LCg.CompSrc.range (n := 3) rfl F1 N1 hrr (by decide) (by decide) (by decide) ?_
  intro g'
  with_unfolding_all refine rest_inv (n := 3) (fun _ : Unit => _) (fun j ys _ => ys.length = j ∧ ∀ (k : Nat) v, ys[k]? = some v → ∃ t, v = .str (nmS k (nGr c6 k)) t) ?turn ?fin _ 0 [] () (Nat.zero_add _) ⟨rfl, fun i p h => nomatch h⟩
  case turn =>
    rintro j ys _ v I oI C2 oC D m₂ h2 tk2 E' hj ⟨hj1, hj2⟩ ⟨tv, rfl⟩ hC hx F2 N2 off2 ne2
    clear F1 N1 hrr
    have hk0 : 0 ≤ 0 + (j : Int) := by omega
    have hk3 : 0 + (j : Int) < 3 := by omega
    k_steps
    refine Stop.go ?_
    refine my_item (by is_list) (by omega) (by omega) hw6 ?_
    k_steps
    refine Stop.go ?_
    rename Fr _ _ _ _ => F1
    rename News _ _ _ _ => N1
    refine name_wp rfl Wg F1 N1 (by k_room) hk0 hk3 fun h9 tk9 t9 F9 N9 => ?_
    clear F1 N1
    k_steps
    refine Stop.go ?_
    refine LCg.CompEnd.intro F9 N9 _ (fun _ h => h) off2 trivial ⟨(), fun _ h => h, trivial, ?_, ?_⟩
    · rw [List.length_append, List.length_singleton, hj1]
    · refine at_snoc (Q := fun k (v : Value) => ∃ t, v = .str (nmS k (nGr c6 k)) t) hj2 ⟨t9, ?_⟩
      have ej : (0 + (j : Int)).toNat = j := by omega
      show Value.str (nmS (0 + (j : Int)).toNat ((c6.fdiv (2 ^ (0 + (j : Int)).toNat)).fmod 2 == 1)) t9 = _
      rw [ej, hj1]; rfl
  case fin =>
    rintro ys _ ⟨hj1, hj2⟩
    clear F1 N1 hrr
    unfold LCg.FinA
    intro D h9 tk9 F9 N9 o9
    refine next h9 tk9 D ys _ (frc F9 (by ktn_open)) N9 hj1 fun k hk => ?_
    obtain ⟨v, hv⟩ : ∃ v, ys[k]? = some v := ⟨_, List.getElem?_eq_getElem (by rw [hj1]; exact hk)⟩
    obtain ⟨t, e⟩ := hj2 k v hv
    exact ⟨t, by rw [hv, e]⟩
end
section
set_option maxHeartbeats 4000000
open PySem PySem.W PySem.Calls PyProof.Rows
theorem fillL3 : PySem.Challenge.rw_uc0030_01 = PySem.Challenge.rw_uc0030_01 ∧ Mine.hd.heap_1 = Mine.hd.heap_1 := by k_fill; exact ⟨rfl, rfl⟩
theorem new_wp {w : World} {mean : ExcName → Option Value} {mg mb : Str → Option Value} {A : Around} {s : Shared} {Q E : Value → Shared → Prop} {h₀ : Heap} {L : Addr} {m : Str → Option Value} {news : List (Addr × Obj)}
   (hA : A.handled = none) (W : Wd w mean mg mb h₀) (F : Fr h₀ L s.heap m) (N : News h₀ L s.heap news) (hd : A.depth + 8 < recursionLimit) (hu : A.units + 100 < cLine)
   (hQ : ∀ h' tk' x dx H tb, Fr h₀ L h' m → News h₀ L h' ((H, listOf #[] 0) :: (x, instObj 216 dx) :: (dx, bkD w.params tb H) :: news) → (∀ p ∈ news, p.1 ≠ H ∧ @LT.lt Nat instLTNat p.1 dx) → @LT.lt Nat instLTNat dx x → x ≠ H → dx ≠ H → Q (.ref x) { s with heap := h', toks := tk' }) :
   wpAny (model prg w) A (call (.ref 216) []) Q E s := by
  refine call_cls (fI := 110) (C := 216) F W.X N (by k_is) (by k_is) (by k_is) fun x dx h' F' N' lt1 lt2 => ?_
  rw [ar_of (A := Around.under _ _) hA]
  have zx := N' _ (.head _)
  have zd := N' _ (.tail _ (.head _))
  refine codeAny_mono (init_call (s := { s with heap := h' }) (Q := fun v s' => v = .none ∧ Q (.ref x) s') W F'.keep ?_ ?_ x dx zx.1 zx.2.2 zd.1 zd.2.2 lt2 fun h9 tk9 H t9 k9 gd gH fH => ⟨rfl, ?_⟩) ?_
  · k_room
  · show (A.under _).units + 40 < cLine
    rw [units_under_make]; omega
  · have F9 := LCg.fr_but F' (h' := h9) (I := dx) (fun b o hb e => k9 b o (by simpa using hb) e) (Ne.symm zd.2.1) zd.2.2
    have neH : ∀ (a : Addr) (o : Obj), h'.get? a = some o → a ≠ H := fun a o e q => by
      rw [q] at e
      rw [show h'.get? H = none from fH] at e; cases e
    refine hQ h9 tk9 x dx H t9 F9 (List.forall_mem_cons.mpr ⟨⟨gH, new_off F' fH⟩, List.forall_mem_cons.mpr ⟨⟨k9 _ _ (Nat.ne_of_gt lt2) zx.1, zx.2⟩, List.forall_mem_cons.mpr ⟨⟨gd, zd.2⟩, fun p hp => ⟨k9 _ _ (Nat.ne_of_lt (lt1 p hp)) (N' p (.tail _ (.tail _ hp))).1, (N' p (.tail _ (.tail _ hp))).2⟩⟩⟩⟩) (fun p hp => ⟨neH _ _ (N' p (.tail _ (.tail _ hp))).1, lt1 p hp⟩) lt2 (neH _ _ zx.1) (neH _ _ zd.1)
  · intro r s' z
    cases r with
    | error e => exact z.elim
    | ok f => cases f <;> first | exact z | exact z.elim
theorem st3 {w : World} {mean : ExcName → Option Value} {mg mb : Str → Option Value} {dp un : Nat} {fr : Option (List Env)} {gd : Option (List Code)} {s : Shared} {Q : Flow → Shared → Prop} {g : Heap} {L S : Addr} {R : List (Addr × Obj)} (Wg : Wd w mean mg mb g) (D M : Addr) (o2 : Obj)
   (F : Fr g L s.heap (mp [(Str.ofString "names", .ref M), (Str.ofString "debts", .ref D), (Str.ofString "script", .ref S)])) (N : News g L s.heap ((L + 1 + 1, o2) :: R))
   (d2 : o2.data = .cell none) (hR2 : ∀ p ∈ R, p.1 ≠ L + 1 + 1) (hd : dp + 30 < recursionLimit) (hu : un + 400 < cLine)
   (next : ∀ h' tk' (x dx H : Addr) (tb : Tok) (o2' : Obj), Fr g L h' (mp [(Str.ofString "names", .ref M), (Str.ofString "debts", .ref D), (Str.ofString "script", .ref S)]) → News g L h' ((L + 1 + 1, o2') :: (H, listOf #[] 0) :: (x, instObj 216 dx) :: (dx, bkD w.params tb H) :: R) → o2'.data = .cell (some (.ref x)) → (∀ p ∈ (L + 1 + 1, o2') :: (x, instObj 216 dx) :: (dx, bkD w.params tb H) :: R, p.1 ≠ H) →  wpAny (model prg w) (Ar dp fr gd un) (execs (lawRest 4) (lawEnv L)) Q Fls { s with heap := h', toks := tk' }) :
   wpAny (model prg w) (Ar dp fr gd un) (execs (lawRest 3) (lawEnv L)) Q Fls s := by
  have X := Wg.X
  obtain ⟨p9, l9, T⟩ := Wg.T
  with_unfolding_all show wpAny _ _ (execs (_ :: lawRest 4) (envOfC (Str.ofString "law") _ L 305 (.ref 304))) _ _ _
  w_on
  k_steps
  refine Stop.go ?_
  refine new_wp rfl Wg F N (by k_room) (by (try simp only [units_in1, units_deeper, Around.mark_units]); (try dsimp only); omega) fun h9 tk9 x dx H tb F9 N9 lR ldx hxH hdH => ?_
  clear F N
  have l2 := lR (L + 1 + 1, o2) (.head _)
  have n1 : H ≠ L + 1 + 1 := Ne.symm l2.1
  have n2 : dx ≠ L + 1 + 1 := Nat.ne_of_gt l2.2
  have n3 : x ≠ L + 1 + 1 := Nat.ne_of_gt (Nat.lt_trans l2.2 ldx)
  k_steps
  rename Fr _ _ _ _ => F8
  rename News _ _ _ _ => N8
  refine next _ _ x dx H tb _ F8 (List.forall_mem_cons.mpr ⟨N8 _ (.tail _ (.tail _ (.tail _ (.head _)))), List.forall_mem_cons.mpr ⟨N8 _ (.head _), List.forall_mem_cons.mpr ⟨N8 _ (.tail _ (.head _)), List.forall_mem_cons.mpr ⟨N8 _ (.tail _ (.tail _ (.head _))), fun p hp => N8 _ (.tail _ (.tail _ (.tail _ (.tail _ (hp)))))⟩⟩⟩⟩) (by assumption) (List.forall_mem_cons.mpr ⟨l2.1, List.forall_mem_cons.mpr ⟨hxH, List.forall_mem_cons.mpr ⟨hdH, fun p hp => (lR p (.tail _ hp)).1⟩⟩⟩)
end
section
set_option maxHeartbeats 4000000
open PySem PySem.W PySem.Calls PyProof.Rows
theorem fillL00 : PySem.Challenge.rw_uc0030_01 = PySem.Challenge.rw_uc0030_01 ∧ Mine.hd.heap_1 = Mine.hd.heap_1 := by k_fill; exact ⟨rfl, rfl⟩
theorem cells_wp {w : World} {mean : ExcName → Option Value} {mg mb : Str → Option Value} {A : Around} {s : Shared} {Q E : Value → Shared → Prop} {h₀ : Heap} (hA : A.handled = none) (W : Wd w mean mg mb h₀) (kB : Kp h₀ s.heap)
   (hd : A.depth + 8 < recursionLimit) (hu : A.units + 120 < cLine) (l : Addr) (vs : List Value) (ns : List Int) (hlB : h₀.IsList l vs.toArray) (hI : IntsAre vs ns) (hlen : ns.length ≤ 63)
   (hQ : ∀ h' tk' D ws ks n', Kp s.heap h' → IntsAre ws ks → ks.length = 7 → h'.get? D = some (listOf ws.toArray n') → s.heap.get? D = none → Q (.ref D) { s with heap := h', toks := tk' }) :
   wpAny (model prg w) A (call (.ref 227) [.ref l]) Q E s := by
  rw [ar_of hA]
  exact call_of (cells_call W kB hd hu l vs ns hlB hI hlen hQ)
theorem st0 {w : World} {mean : ExcName → Option Value} {mg mb : Str → Option Value} {dp un : Nat} {fr : Option (List Env)} {gd : Option (List Code)} {s : Shared} {Q : Flow → Shared → Prop} {g : Heap} {L S : Addr} {R : List (Addr × Obj)} (Wg : Wd w mean mg mb g) (o1 : Obj) (vs : List Value) (ns : List Int)
   (F : Fr g L s.heap (mp [(Str.ofString "script", .ref S)])) (N : News g L s.heap ((L + 1, o1) :: R))
   (d1 : o1.data = .cell none) (hR : ∀ p ∈ R, p.1 ≠ L + 1) (hS : g.IsList S vs.toArray) (hI : IntsAre vs ns) (hlen : ns.length ≤ 63) (hd : dp + 30 < recursionLimit) (hu : un + 400 < cLine)
   (next : ∀ h' tk' (o1' : Obj) (C : Addr) (ws : List Value) (ks : List Int) (n : Nat), Fr g L h' (mp [(Str.ofString "script", .ref S)]) → News g L h' ((L + 1, o1') :: (C, listOf ws.toArray n) :: R) → o1'.data = .cell (some (.ref C)) → IntsAre ws ks → ks.length = 7 →  wpAny (model prg w) (Ar dp fr gd un) (execs (lawRest 1) (lawEnv L)) Q Fls { s with heap := h', toks := tk' }) :
   wpAny (model prg w) (Ar dp fr gd un) (execs (lawRest 0) (lawEnv L)) Q Fls s := by
  have X := Wg.X
  obtain ⟨p9, l9, T⟩ := Wg.T
  with_unfolding_all show wpAny _ _ (execs (_ :: lawRest 1) (envOfC (Str.ofString "law") _ L 305 (.ref 304))) _ _ _
  w_on
  k_steps
  refine Stop.go ?_
  rename Fr _ _ _ _ => F1
  rename News _ _ _ _ => N1
  refine cells_wp rfl Wg ?kB (by k_room) (by (try simp only [units_in1, units_deeper, Around.mark_units]); (try dsimp only); omega) S vs ns hS hI hlen fun h7 tk7 C ws ks n7 k7 hIk hl7 gC fC => ?_
  case kB => exact F1.keep
  have F7 := Fr.keeps F1 k7
  have N7 : News g L h7 ((C, listOf ws.toArray n7) :: (L + 1, o1) :: R) := List.forall_mem_cons.mpr ⟨⟨gC, new_off F1 fC⟩, News.grown N1 k7⟩
  have hC1 : @Ne Nat C (L + 1) := fun q => by
    have z := (N1 (L + 1, o1) (.head _)).1
    rw [← show C = L + 1 from q, fC] at z; cases z
  clear F1 N1
  k_steps
  rename Fr _ _ _ _ => F8
  rename News _ _ _ _ => N8
  exact next _ _ _ C ws ks n7 F8 (List.forall_mem_cons.mpr ⟨N8 _ (.tail _ (.head _)), List.forall_mem_cons.mpr ⟨N8 _ (.head _), fun p hp => N8 _ (.tail _ (.tail _ hp))⟩⟩) (by assumption) hIk hl7
end
section
set_option maxHeartbeats 4000000
open PySem PySem.W PySem.Calls PyProof.Rows
theorem fillL4 : PySem.Challenge.rw_uc0030_01 = PySem.Challenge.rw_uc0030_01 ∧ Mine.hd.heap_1 = Mine.hd.heap_1 := by k_fill; exact ⟨rfl, rfl⟩
local macro_rules | `(tactic| walk_at $k:str) => if ["eval ListComp", "binaryOp Mult ref int", "SrcLP", "compareOp NotEq ref ref"].contains k.getString then `(tactic| refine stop_of ?_) else Lean.Macro.throwUnsupported
section
variable {prog : Program} {w : World} {A : Around} {E : Value → Shared → Prop} {s : Shared} {h₀ : Heap} {L a b : Addr} {news n₁ n₂ : List (Addr × Obj)} {oa ob : Obj} {xs ys : List Value} {ka kb : Nat} {ds es : List Dat} {Q : Value → Shared → Prop}
open Classical in
theorem kqd_ne_f (N : News h₀ L s.heap news) (ma : (a, oa) ∈ news) (ca : oa.cls = .type "list") (da : oa.data = .seq xs.toArray ka) (Da : DatAll n₁ xs ds) (sa : ∀ p ∈ n₁, p ∈ news)
    (mb : (b, ob) ∈ news) (cb : ob.cls = .type "list") (db : ob.data = .seq ys.toArray kb) (Db : DatAll n₂ ys ds) (sb : ∀ p ∈ n₂, p ∈ news)
    (ha : ∀ d ∈ ds, kqdOk 8 d = true) (hu : A.units + 64 < cLine) (h : Q (.bool false) s) : wpAny (model prog w) A (compareOp .NotEq (.ref a) (.ref b)) Q E s := by
  refine kqd_ne N ma ca da Da sa mb cb db Db sb ha ha hu ?_
  rw [@decide_eq_true (ds = ds) _ rfl]; exact h
open Classical in
theorem kqd_eq_t (N : News h₀ L s.heap news) (ma : (a, oa) ∈ news) (ca : oa.cls = .type "list") (da : oa.data = .seq xs.toArray ka) (Da : DatAll n₁ xs ds) (sa : ∀ p ∈ n₁, p ∈ news)
    (mb : (b, ob) ∈ news) (cb : ob.cls = .type "list") (db : ob.data = .seq ys.toArray kb) (Db : DatAll n₂ ys ds) (sb : ∀ p ∈ n₂, p ∈ news)
    (ha : ∀ d ∈ ds, kqdOk 8 d = true) (hu : A.units + 64 < cLine) (h : Q (.bool true) s) : wpAny (model prog w) A (compareOp .Eq (.ref a) (.ref b)) Q E s := by
  refine kqd_eq N ma ca da Da sa mb cb db Db sb ha ha hu ?_
  rw [@decide_eq_true (ds = ds) _ rfl]; exact h
end
theorem dat_nones : ∀ (n : Nat) (ys : List Value), ys = List.replicate n .none → DatAll [] ys (List.replicate n Dat.none)
  | 0, _, e => by rw [e]; exact .nil
  | n + 1, _, e => by rw [e]; exact .cons .none (dat_nones n _ rfl)
theorem add_wp {w : World} {mean : ExcName → Option Value} {mg mb : Str → Option Value} {B : Heap} {A : Around} {s : Shared} {Q E : Value → Shared → Prop} (hA : A.handled = none) (W : Wd w mean mg mb B) (kB : Kp B s.heap)
   (hd : A.depth + 10 < recursionLimit) (hu : A.units + 120 < cLine) (x dx H : Addr) (tb : Tok) (n : Nat) (cl : List (Addr × Obj)) (hs : List (Nat × Bool × Str)) (hlen : cl.length = hs.length) (hl10 : cl.length < 10) (hk3 : ∀ q ∈ hs, q.1 < 3) (hcl : ∀ (j : Nat) (p : Addr × Obj), cl[j]? = some p → ∃ q t u, hs[j]? = some q ∧ p.2 = tupO (.str (nmS q.1 q.2.1) t) (.str q.2.2 u))
   (hx : s.heap.get? x = some (instObj 216 dx)) (hxB : B.get? x = none) (hdx : s.heap.get? dx = some (bkD w.params tb H)) (hdB : B.get? dx = none) (hH : s.heap.get? H = some (listOf (cl.map fun p => Value.ref p.1).toArray n)) (hHB : B.get? H = none) (hcs : ∀ p ∈ cl, s.heap.get? p.1 = some p.2 ∧ B.get? p.1 = none) (k9 : Nat) (g9 : Bool) (t9 : Tok) (hk9 : k9 < 3) (y9 : Str) (u9 : Tok) (hy : Clean false y9) (hyl : ([y9].map (·.length)).sum + [y9].length * (Str.ofString "; ").length ≤ 16777216)
   (hQ : ∀ h' tk' T t u, (∀ b o, b ≠ H → s.heap.get? b = some o → h'.get? b = some o) → h'.get? T = some (tupO (.str (nmS k9 g9) t) (.str y9 u)) → s.heap.get? T = none → h'.get? H = some (listOf ((cl.map fun p : Addr × Obj => Value.ref p.1) ++ [Value.ref T]).toArray (n + 1)) → Q .none { s with heap := h', toks := tk' }) :
   wpAny (model prg w) A (call (.ref 213) [.ref x, .str (nmS k9 g9) t9, .str y9 u9]) Q E s := by
  rw [ar_of hA]
  exact call_of (add_call W kB hd hu x dx H tb n cl hs hlen hl10 hk3 hcl hx hxB hdx hdB hH hHB hcs k9 g9 t9 hk9 y9 u9 hy hyl hQ)
theorem st4 {w : World} {mean : ExcName → Option Value} {mg mb : Str → Option Value} {dp un : Nat} {fr : Option (List Env)} {gd : Option (List Code)} {s : Shared} {Q : Flow → Shared → Prop} {g : Heap} {L S : Addr} {R : List (Addr × Obj)} (Wg : Wd w mean mg mb g) (D M x dx H : Addr) (tb : Tok) (o2 : Obj) (dl : List (Addr × Obj)) (nd : Nat) (hs : List (Nat × Bool × Str)) 
   (F : Fr g L s.heap (mp [(Str.ofString "names", .ref M), (Str.ofString "debts", .ref D), (Str.ofString "script", .ref S)])) (N : News g L s.heap ((L + 1 + 1, o2) :: (H, listOf #[] 0) :: (x, instObj 216 dx) :: (dx, bkD w.params tb H) :: (D, listOf (dl.map fun p => Value.ref p.1).toArray nd) :: (dl ++ R)))
   (d2 : o2.data = .cell (some (.ref x))) (hdl : dl.length = hs.length) (hdr : (∀ (j : Nat) (p : Addr × Obj), dl[j]? = some p → ∃ q t u, hs[j]? = some q ∧ p.2 = tupO (.str (nmS q.1 q.2.1) t) (.str q.2.2 u))) (hl5 : hs.length = 5) (hk3 : ∀ q ∈ hs, q.1 < 3) (hcl : ∀ q ∈ hs, Clean false q.2.2) (hsm : ∀ q ∈ hs, q.2.2.length ≤ 1000) (hne : ∀ p ∈ (L + 1 + 1, o2) :: (x, instObj 216 dx) :: (dx, bkD w.params tb H) :: (D, listOf (dl.map fun p => Value.ref p.1).toArray nd) :: (dl ++ R), p.1 ≠ H) (hd : dp + 30 < recursionLimit) (hu : un + 400 < cLine)
   (next : ∀ h' tk' (cl : List (Addr × Obj)) (n : Nat), Fr g L h' (mp [(Str.ofString "names", .ref M), (Str.ofString "debts", .ref D), (Str.ofString "script", .ref S)]) → News g L h' ((L + 1 + 1, o2) :: (H, listOf (cl.map fun p => Value.ref p.1).toArray n) :: (x, instObj 216 dx) :: (dx, bkD w.params tb H) :: (D, listOf (dl.map fun p => Value.ref p.1).toArray nd) :: (cl ++ (dl ++ R))) → cl.length = hs.length → (∀ (j : Nat) (p : Addr × Obj), cl[j]? = some p → ∃ q t u, hs[j]? = some q ∧ p.2 = tupO (.str (nmS q.1 q.2.1) t) (.str q.2.2 u)) →  wpAny (model prg w) (Ar dp fr gd un) (execs (lawRest 5) (lawEnv L)) Q Fls { s with heap := h', toks := tk' }) :
   wpAny (model prg w) (Ar dp fr gd un) (execs (lawRest 4) (lawEnv L)) Q Fls s := by
  have X := Wg.X
  obtain ⟨p9, l9, T⟩ := Wg.T
  with_unfolding_all show wpAny _ _ (execs (_ :: lawRest 5) (envOfC (Str.ofString "law") _ L 305 (.ref 304))) _ _ _
  w_on
  k_steps
  refine Stop.go ?_
  k_dflt (refine LCp.ListComp_P (F₀ := by k_asm) (by with_unfolding_all rfl) (by decide) (by rfl) (by decide) (by rfl) (by rfl) (by decide) ?_)
  k_steps
  refine Stop.go ?_
  refine LCp.SrcLP.ledger (ax := D) (its := (dl.map fun p => Value.ref p.1).toArray) (k := nd) rfl F N (by k_mem) (size_small (by simp; omega)) ?_
  intro g'
  with_unfolding_all refine restP_inv (n := (dl.map fun p => Value.ref p.1).toArray.size) (fun c : List (Addr × Obj) × Nat => (L + 1 + 1, o2) :: (H, listOf (c.1.map fun p => Value.ref p.1).toArray c.2) :: (x, instObj 216 dx) :: (dx, bkD w.params tb H) :: (D, listOf (dl.map fun p => Value.ref p.1).toArray nd) :: (c.1 ++ (dl ++ R))) (fun j ys c => ys = List.replicate j .none ∧ c.1.length = j ∧ (∀ (j : Nat) (p : Addr × Obj), c.1[j]? = some p → ∃ q t u, hs[j]? = some q ∧ p.2 = tupO (.str (nmS q.1 q.2.1) t) (.str q.2.2 u)) ∧ (∀ p ∈ c.1, p.1 ≠ H)) ?turn ?fin _ 0 [] ([], 0) (Nat.zero_add _) ⟨rfl, rfl, (fun j p h => nomatch h), fun p h => nomatch h⟩
  case turn =>
    rintro j ys ⟨cl, n⟩ v hj ⟨hj1, hj2, hj3, hj4⟩ hv
    dsimp only at hj1 hj2 hj3 hj4
    have hj5 : j < dl.length := by simpa using hj
    obtain ⟨pj, hpj⟩ : ∃ p, dl[j]? = some p := ⟨_, List.getElem?_eq_getElem hj5⟩
    obtain ⟨q, t, u, hq, hpo⟩ := hdr j pj hpj
    have hvp : v = .ref pj.1 := by
      have : (dl.map fun p : Addr × Obj => Value.ref p.1)[j]? = some v := by simpa using hv
      rw [List.getElem?_map, hpj] at this
      exact (Option.some.inj this).symm
    have hpm : pj ∈ dl := List.mem_of_getElem? hpj
    have hqm := List.mem_of_getElem? hq
    refine ⟨pj.1, pj.2, .str (nmS q.1 q.2.1) t, .str q.2.2 u, _, hvp, .tail _ (.tail _ (.tail _ (.tail _ (.tail _ (List.mem_append_right _ (List.mem_append_left _ hpm)))))), by rw [hpo]; rfl, by rw [hpo]; rfl, fun I oI C oC Dd m₂ h2 tk2 E' hC h1 h2' F2 N2 off2 ne2 => ?_⟩
    dsimp only at N2 off2
    clear F N
    k_steps
    refine Stop.go ?_
    refine add_wp rfl Wg ?kB9 (by k_room) (by (try simp only [units_in1, units_deeper, Around.mark_units]); (try dsimp only); omega) x dx H tb n cl (hs.take j) (by rw [hj2, List.length_take]; omega) (by omega) (fun q hq => hk3 q (List.mem_of_mem_take hq)) ?hcl (N2 (x, _) (by k_mem)).1 (N2 (x, instObj 216 dx) (by k_mem)).2.2 (N2 (dx, _) (by k_mem)).1 (N2 (dx, bkD w.params tb H) (by k_mem)).2.2 (N2 (H, _) (by k_mem)).1 (N2 (H, listOf (cl.map fun p => Value.ref p.1).toArray n) (by k_mem)).2.2 (fun p hp => ⟨(N2 p (.tail _ (.tail _ (.tail _ (.tail _ (.tail _ (.tail _ (.tail _ (.tail _ (List.mem_append_left _ (hp))))))))))).1, (N2 p (.tail _ (.tail _ (.tail _ (.tail _ (.tail _ (.tail _ (.tail _ (.tail _ (List.mem_append_left _ (hp))))))))))).2.2⟩) q.1 q.2.1 t (hk3 q hqm) q.2.2 u (hcl q hqm) ?hyl fun h7 tk7 T t7 u7 k7 gT fT gH => ?_
    case kB9 => exact F2.keep
    case hcl =>
      intro i p hp
      obtain ⟨q', t', u', hq', he⟩ := hj3 i p hp
      have hi : i < j := by rw [← hj2]; exact (List.getElem?_eq_some_iff.mp hp).1
      exact ⟨q', t', u', by rw [List.getElem?_take, if_pos hi]; exact hq', he⟩
    case hyl =>
      have := hsm q hqm
      have e2 : (Str.ofString "; ").length = 2 := by decide
      simp only [List.map_cons, List.map_nil, List.sum_cons, List.sum_nil, List.length_cons, List.length_nil]
      rw [e2]; omega
    have zH := (N2 (H, listOf (cl.map fun p => Value.ref p.1).toArray n) (by k_mem)).2
    have oH := off2.mem (H, listOf (cl.map fun p => Value.ref p.1).toArray n) (by k_mem)
    have oT := new_off F2 fT
    have F7 := LCg.fr_but F2 (h' := h7) (I := H) (fun b o hb e => k7 b o (by simpa using hb) e) (Ne.symm zH.1) zH.2
    have K7 : ∀ p : Addr × Obj, (h2.get? p.1 = some p.2 ∧ p.1 ≠ L ∧ g.get? p.1 = none) → p.1 ≠ H → h7.get? p.1 = some p.2 ∧ p.1 ≠ L ∧ g.get? p.1 = none := fun p z ne => ⟨k7 _ _ ne z.1, z.2⟩
    have neT : ∀ (a : Addr) (o : Obj), h2.get? a = some o → a ≠ T := fun a o e q => by
      rw [q] at e
      rw [show h2.get? T = none from fT] at e; cases e
    have epush : (cl.map fun p : Addr × Obj => Value.ref p.1) ++ [Value.ref T] = (cl ++ [(T, tupO (.str (nmS q.1 q.2.1) t7) (.str q.2.2 u7))]).map fun p : Addr × Obj => Value.ref p.1 := by rw [List.map_append]; rfl
    rw [epush] at gH
    have N7 : News g L h7 ((I, oI) :: (C, oC) :: (Dd, LCg.lst ys) :: (L + 1 + 1, o2) :: (H, listOf ((cl ++ [(T, tupO (.str (nmS q.1 q.2.1) t7) (.str q.2.2 u7))]).map fun p : Addr × Obj => Value.ref p.1).toArray (n + 1)) :: (x, instObj 216 dx) :: (dx, bkD w.params tb H) :: (D, listOf (dl.map fun p => Value.ref p.1).toArray nd) :: ((cl ++ [(T, tupO (.str (nmS q.1 q.2.1) t7) (.str q.2.2 u7))]) ++ (dl ++ R))) := (fac (K7 _ (N2 _ (.head _)) (Ne.symm oH.1)) ((fac (K7 _ (N2 _ (.tail _ (.head _))) (Ne.symm oH.2.1)) ((fac (K7 _ (N2 _ (.tail _ (.tail _ (.head _)))) (Ne.symm oH.2.2)) ((fac (K7 _ (N2 _ (.tail _ (.tail _ (.tail _ (.head _))))) (hne _ (.head _))) ((fac (⟨gH, zH⟩) ((fac (K7 _ (N2 _ (.tail _ (.tail _ (.tail _ (.tail _ (.tail _ (.head _))))))) (hne _ (.tail _ (.head _)))) ((fac (K7 _ (N2 _ (.tail _ (.tail _ (.tail _ (.tail _ (.tail _ (.tail _ (.head _)))))))) (hne _ (.tail _ (.tail _ (.head _))))) ((fac (K7 _ (N2 _ (.tail _ (.tail _ (.tail _ (.tail _ (.tail _ (.tail _ (.tail _ (.head _))))))))) (hne _ (.tail _ (.tail _ (.tail _ (.head _)))))) ((faa ((faa (fun p hp => K7 _ (N2 _ (.tail _ (.tail _ (.tail _ (.tail _ (.tail _ (.tail _ (.tail _ (.tail _ (List.mem_append_left _ (hp))))))))))) (hj4 _ hp)) ((fac (⟨gT, oT⟩) (fun _ h => nomatch h))))) ((faa (fun p hp => K7 _ (N2 _ (.tail _ (.tail _ (.tail _ (.tail _ (.tail _ (.tail _ (.tail _ (.tail _ (List.mem_append_right _ (List.mem_append_left _ (hp)))))))))))) (hne _ (.tail _ (.tail _ (.tail _ (.tail _ (List.mem_append_left _ (hp)))))))) (fun p hp => K7 _ (N2 _ (.tail _ (.tail _ (.tail _ (.tail _ (.tail _ (.tail _ (.tail _ (.tail _ (List.mem_append_right _ (List.mem_append_right _ (hp)))))))))))) (hne _ (.tail _ (.tail _ (.tail _ (.tail _ (List.mem_append_right _ (hp)))))))))))))))))))))))))))
    have oTt : T ≠ I ∧ T ≠ C ∧ T ≠ Dd := ⟨Ne.symm (neT _ _ (N2 _ (.head _)).1), Ne.symm (neT _ _ (N2 _ (.tail _ (.head _))).1), Ne.symm (neT _ _ (N2 _ (.tail _ (.tail _ (.head _)))).1)⟩
    have oTH : T ≠ H := Ne.symm (neT _ _ (N2 (H, listOf (cl.map fun p => Value.ref p.1).toArray n) (by k_mem)).1)
    clear F2 N2
    k_steps
    refine Stop.go ?_
    refine LCg.CompEnd.intro F7 N7 _ (fun _ h => h) (LCg.Off3.of ((fac (off2.mem _ (.head _)) ((fac oH ((fac (off2.mem _ (.tail _ (.tail _ (.head _)))) ((fac (off2.mem _ (.tail _ (.tail _ (.tail _ (.head _))))) ((fac (off2.mem _ (.tail _ (.tail _ (.tail _ (.tail _ (.head _)))))) ((faa ((faa (fun p hp => off2.mem _ (.tail _ (.tail _ (.tail _ (.tail _ (.tail _ (List.mem_append_left _ (hp)))))))) ((fac oTt (fun _ h => nomatch h))))) ((faa (fun p hp => off2.mem _ (.tail _ (.tail _ (.tail _ (.tail _ (.tail _ (List.mem_append_right _ (List.mem_append_left _ (hp))))))))) (fun p hp => off2.mem _ (.tail _ (.tail _ (.tail _ (.tail _ (.tail _ (List.mem_append_right _ (List.mem_append_right _ (hp)))))))))))))))))))))))) trivial ⟨(cl ++ [(T, tupO (.str (nmS q.1 q.2.1) t7) (.str q.2.2 u7))], n + 1), fun _ h => h, .inr ⟨_, by k_mem, rfl, _, rfl⟩, ?_, ?_, ?_, ?_⟩
    · rw [hj1]; exact List.replicate_succ'.symm
    · show (cl ++ [_]).length = j + 1
      rw [List.length_append, List.length_singleton, hj2]
    · exact at_snoc (Q := fun i (p : Addr × Obj) => ∃ q t u, hs[i]? = some q ∧ p.2 = tupO (.str (nmS q.1 q.2.1) t) (.str q.2.2 u)) hj3 ⟨q, t7, u7, by rw [hj2]; exact hq, rfl⟩
    · exact (faa hj4 ((fac oTH (fun _ h => nomatch h))))
  case fin =>
    rintro ys ⟨cl, n⟩ ⟨hj1, hj2, hj3, hj4⟩
    dsimp only at hj1 hj2 hj3 hj4
    clear F N
    unfold LCg.FinE
    intro Dd h9 tk9 F9 N9 o9
    dsimp only at N9 o9
    k_steps
    refine Stop.go ?_
    rename Fr _ _ _ _ => F1
    rename News _ _ _ _ => N1
    refine KMa.mul (vs := [Value.none]) (ws := List.replicate 5 .none) F1 N1 (News.isList N1 (.head _)) (by decide) (by decide) (by decide) (by rfl) fun D8 h8 F8 N8 l8 => ?_
    clear F1 N1
    k_steps
    refine Stop.go ?_
    have hj0 : ys = List.replicate 5 .none := by rw [hj1, List.size_toArray, List.length_map, hdl, hl5]
    refine kqd_ne_f (n₁ := []) (n₂ := []) N8 (.tail _ (.tail _ (.head _))) rfl rfl (Da := dat_nones 5 ys hj0) (fun p hp => nomatch hp) (.head _) rfl rfl (dat_nones 5 _ rfl) (fun p hp => nomatch hp) (fun d hd => by rw [List.eq_of_mem_replicate hd]; rfl) (by (try simp only [units_in1, units_deeper, Around.mark_units]); (try dsimp only); omega) ?_
    k_steps
    refine next _ _ cl n F8 (fun p hp => N8 p (.tail _ (.tail _ (.tail _ hp)))) ?_ hj3
    rw [hj2, List.size_toArray, List.length_map, hdl]
end
section
local macro_rules | `(tactic| walk_at $k:str) => if ["eval ListComp", "compareOp NotEq ref ref"].contains k.getString then `(tactic| refine stop_of ?_) else Lean.Macro.throwUnsupported
section
local macro_rules | `(tactic| walk_at "none") => `(tactic| skip)
set_option maxHeartbeats 4000000
open PySem PySem.W PySem.Calls PyProof.Rows
theorem fillL5 : PySem.Challenge.rw_uc0030_01 = PySem.Challenge.rw_uc0030_01 ∧ Mine.hd.heap_1 = Mine.hd.heap_1 := by k_fill; exact ⟨rfl, rfl⟩
theorem items_wp {w : World} {mean : ExcName → Option Value} {mg mb : Str → Option Value} {B : Heap} {A : Around} {s : Shared} {Q E : Value → Shared → Prop} (hA : A.handled = none) (W : Wd w mean mg mb B) (kB : Kp B s.heap)
   (hd : A.depth + 10 < recursionLimit) (hu : A.units + 120 < cLine) (x dx H : Addr) (tb : Tok) (n : Nat) (cl : List (Addr × Obj)) (hs : List (Nat × Bool × Str)) (hlen : cl.length = hs.length) (hl10 : cl.length < 10) (hk3 : ∀ q ∈ hs, q.1 < 3) (hcl : ∀ (j : Nat) (p : Addr × Obj), cl[j]? = some p → ∃ q t u, hs[j]? = some q ∧ p.2 = tupO (.str (nmS q.1 q.2.1) t) (.str q.2.2 u))
   (hx : s.heap.get? x = some (instObj 216 dx)) (hxB : B.get? x = none) (hdx : s.heap.get? dx = some (bkD w.params tb H)) (hdB : B.get? dx = none) (hH : s.heap.get? H = some (listOf (cl.map fun p => Value.ref p.1).toArray n)) (hHB : B.get? H = none) (hcs : ∀ p ∈ cl, s.heap.get? p.1 = some p.2 ∧ B.get? p.1 = none) 
   (hQ : ∀ h' tk' D, Kp s.heap h' → h'.get? D = some (listOf (cl.map fun p => Value.ref p.1).toArray 0) → s.heap.get? D = none → Q (.ref D) { s with heap := h', toks := tk' }) :
   wpAny (model prg w) A (call (.ref 180) [.ref x]) Q E s := by
  rw [ar_of hA]
  exact call_of (items_call W kB hd hu x dx H tb n cl hs hlen hl10 hk3 hcl hx hxB hdx hdB hH hHB hcs hQ)
theorem getall_wp {w : World} {mean : ExcName → Option Value} {mg mb : Str → Option Value} {B : Heap} {A : Around} {s : Shared} {Q E : Value → Shared → Prop} (hA : A.handled = none) (W : Wd w mean mg mb B) (kB : Kp B s.heap)
   (hd : A.depth + 10 < recursionLimit) (hu : A.units + 120 < cLine) (x dx H : Addr) (tb : Tok) (n : Nat) (cl : List (Addr × Obj)) (hs : List (Nat × Bool × Str)) (hlen : cl.length = hs.length) (hl10 : cl.length < 10) (hk3 : ∀ q ∈ hs, q.1 < 3) (hcl : ∀ (j : Nat) (p : Addr × Obj), cl[j]? = some p → ∃ q t u, hs[j]? = some q ∧ p.2 = tupO (.str (nmS q.1 q.2.1) t) (.str q.2.2 u))
   (hx : s.heap.get? x = some (instObj 216 dx)) (hxB : B.get? x = none) (hdx : s.heap.get? dx = some (bkD w.params tb H)) (hdB : B.get? dx = none) (hH : s.heap.get? H = some (listOf (cl.map fun p => Value.ref p.1).toArray n)) (hHB : B.get? H = none) (hcs : ∀ p ∈ cl, s.heap.get? p.1 = some p.2 ∧ B.get? p.1 = none) (k9 : Nat) (g9 : Bool) (t9 : Tok) (hk9 : k9 < 3)
   (hQ : ∀ h' tk' D n' vs, Kp s.heap h' → h'.get? D = some (listOf vs.toArray n') → StrsAre vs ((hs.filter fun q => q.1 == k9).map (·.2.2)) → s.heap.get? D = none → Q (.ref D) { s with heap := h', toks := tk' }) :
   wpAny (model prg w) A (call (.ref 155) [.ref x, .str (nmS k9 g9) t9]) Q E s := by
  rw [ar_of hA]
  exact call_of (getall_call W kB hd hu x dx H tb n cl hs hlen hl10 hk3 hcl hx hxB hdx hdB hH hHB hcs k9 g9 t9 hk9 hQ)
theorem get_wp {w : World} {mean : ExcName → Option Value} {mg mb : Str → Option Value} {B : Heap} {A : Around} {s : Shared} {Q E : Value → Shared → Prop} (hA : A.handled = none) (W : Wd w mean mg mb B) (kB : Kp B s.heap)
   (hd : A.depth + 10 < recursionLimit) (hu : A.units + 120 < cLine) (x dx H : Addr) (tb : Tok) (n : Nat) (cl : List (Addr × Obj)) (hs : List (Nat × Bool × Str)) (hlen : cl.length = hs.length) (hl10 : cl.length < 10) (hk3 : ∀ q ∈ hs, q.1 < 3) (hcl : ∀ (j : Nat) (p : Addr × Obj), cl[j]? = some p → ∃ q t u, hs[j]? = some q ∧ p.2 = tupO (.str (nmS q.1 q.2.1) t) (.str q.2.2 u))
   (hx : s.heap.get? x = some (instObj 216 dx)) (hxB : B.get? x = none) (hdx : s.heap.get? dx = some (bkD w.params tb H)) (hdB : B.get? dx = none) (hH : s.heap.get? H = some (listOf (cl.map fun p => Value.ref p.1).toArray n)) (hHB : B.get? H = none) (hcs : ∀ p ∈ cl, s.heap.get? p.1 = some p.2 ∧ B.get? p.1 = none) (k9 : Nat) (g9 : Bool) (t9 : Tok) (hk9 : k9 < 3) (y9 : Value)
   (hQ : ∀ h' tk' v, Kp s.heap h' → (match (hs.filter fun q => q.1 == k9).map (·.2.2) with | [] => v = y9 | a :: _ => ∃ t, v = .str a t) → Q v { s with heap := h', toks := tk' }) :
   wpAny (model prg w) A (call (.ref 163) [.ref x, .str (nmS k9 g9) t9, y9]) Q E s := by
  rw [ar_of hA]
  exact call_of (get_call W kB hd hu x dx H tb n cl hs hlen hl10 hk3 hcl hx hxB hdx hdB hH hHB hcs k9 g9 t9 hk9 y9 hQ)
noncomputable def toldOf (hs : List (Nat × Bool × Str)) (k : Nat) : List Str := (hs.filter fun q => q.1 == k).map (·.2.2)
noncomputable def IsTold (hs : List (Nat × Bool × Str)) (k : Nat) (o : Obj) : Prop := ∃ vs n, o = listOf vs.toArray n ∧ StrsAre vs (toldOf hs k)
theorem st5 {w : World} {mean : ExcName → Option Value} {mg mb : Str → Option Value} {dp un : Nat} {fr : Option (List Env)} {gd : Option (List Code)} {s : Shared} {Q : Flow → Shared → Prop} {g : Heap} {L S : Addr} {R : List (Addr × Obj)} (Wg : Wd w mean mg mb g) (D M x dx H : Addr) (tb : Tok) (o2 : Obj) (cl : List (Addr × Obj)) (n : Nat) (vs : List Value) (nm : Nat) (hs : List (Nat × Bool × Str)) 
   (F : Fr g L s.heap (mp [(Str.ofString "names", .ref M), (Str.ofString "debts", .ref D), (Str.ofString "script", .ref S)])) (N : News g L s.heap ((L + 1 + 1, o2) :: (H, listOf (cl.map fun p => Value.ref p.1).toArray n) :: (x, instObj 216 dx) :: (dx, bkD w.params tb H) :: (M, listOf vs.toArray nm) :: (cl ++ R)))
   (d2 : o2.data = .cell (some (.ref x))) (hlen : cl.length = hs.length) (hcl : (∀ (j : Nat) (p : Addr × Obj), cl[j]? = some p → ∃ q t u, hs[j]? = some q ∧ p.2 = tupO (.str (nmS q.1 q.2.1) t) (.str q.2.2 u))) (hl5 : hs.length = 5) (hk3 : ∀ q ∈ hs, q.1 < 3) (hvl : vs.length = 3) (gr : Nat → Bool) (hv : ∀ k, k < 3 → ∃ t, vs[k]? = some (.str (nmS k (gr k)) t)) (hd : dp + 30 < recursionLimit) (hu : un + 400 < cLine)
   (next : ∀ h' tk' (Fi Td : Addr) (tl : List (Addr × Obj)) (nt : Nat), Fr g L h' (mp [(Str.ofString "told", .ref Td), (Str.ofString "first", .ref Fi), (Str.ofString "names", .ref M), (Str.ofString "debts", .ref D), (Str.ofString "script", .ref S)]) → News g L h' ((Fi, listOf (cl.map fun p => Value.ref p.1).toArray 0) :: (Td, listOf (tl.map fun p => Value.ref p.1).toArray nt) :: (L + 1 + 1, o2) :: (H, listOf (cl.map fun p => Value.ref p.1).toArray n) :: (x, instObj 216 dx) :: (dx, bkD w.params tb H) :: (M, listOf vs.toArray nm) :: (tl ++ (cl ++ R))) → @Ne Nat Fi H → tl.length = 3 → (∀ (j : Nat) (p : Addr × Obj), tl[j]? = some p → IsTold hs j p.2) →  wpAny (model prg w) (Ar dp fr gd un) (execs (lawRest 6) (lawEnv L)) Q Fls { s with heap := h', toks := tk' }) :
   wpAny (model prg w) (Ar dp fr gd un) (execs (lawRest 5) (lawEnv L)) Q Fls s := by
  have X := Wg.X
  obtain ⟨p9, l9, T⟩ := Wg.T
  with_unfolding_all show wpAny _ _ (execs (_ :: lawRest 6) (envOfC (Str.ofString "law") _ L 305 (.ref 304))) _ _ _
  w_on
  have hl10 : cl.length < 10 := by omega
  k_steps
  refine Stop.go ?_
  refine items_wp rfl Wg ?kB (by k_room) (by (try simp only [units_in1, units_deeper, Around.mark_units]); (try dsimp only); omega) x dx H tb n cl hs hlen hl10 hk3 hcl (N _ (.tail _ (.tail _ (.head _)))).1 (N _ (.tail _ (.tail _ (.head _)))).2.2 (N _ (.tail _ (.tail _ (.tail _ (.head _))))).1 (N _ (.tail _ (.tail _ (.tail _ (.head _))))).2.2 (N _ (.tail _ (.head _))).1 (N _ (.tail _ (.head _))).2.2 (fun p hp => ⟨(N _ (.tail _ (.tail _ (.tail _ (.tail _ (.tail _ (List.mem_append_left _ (hp)))))))).1, (N _ (.tail _ (.tail _ (.tail _ (.tail _ (.tail _ (List.mem_append_left _ (hp)))))))).2.2⟩) fun h9 tk9 Fi k9 gF fF => ?_
  case kB => exact F.keep
  have oF := new_off F fF
  have F9 := Fr.keeps F k9
  have N9 : News g L h9 ((Fi, listOf (cl.map fun p => Value.ref p.1).toArray 0) :: (L + 1 + 1, o2) :: (H, listOf (cl.map fun p => Value.ref p.1).toArray n) :: (x, instObj 216 dx) :: (dx, bkD w.params tb H) :: (M, listOf vs.toArray nm) :: (cl ++ R)) := (fac (⟨gF, oF⟩) (News.grown N k9))
  have hFH : @Ne Nat Fi H := fun q => by
    have := (N (H, listOf (cl.map fun p => Value.ref p.1).toArray n) (by k_mem)).1
    rw [← show Fi = H from q, show s.heap.get? Fi = none from fF] at this; cases this
  clear F N
  k_steps
  refine Stop.go ?_
  k_dflt (refine LCg.ListComp_U (F₀ := by k_asm) (by with_unfolding_all rfl) (by decide) (by rfl) (by decide) (by rfl) ?_)
  k_steps
  refine Stop.go ?_
  refine LCg.CompSrc.ledger (ax := M) (its := vs.toArray) (k := nm) rfl F9 N9 (by k_mem) (size_small (by simp; omega)) ?_
  intro g'
  with_unfolding_all refine rest_inv (n := vs.toArray.size) (fun tl : List (Addr × Obj) => (Fi, listOf (cl.map fun p => Value.ref p.1).toArray 0) :: (L + 1 + 1, o2) :: (H, listOf (cl.map fun p => Value.ref p.1).toArray n) :: (x, instObj 216 dx) :: (dx, bkD w.params tb H) :: (M, listOf vs.toArray nm) :: (tl ++ (cl ++ R))) (fun j ys tl => tl.length = j ∧ ys = tl.map (fun p : Addr × Obj => Value.ref p.1) ∧ ∀ (i : Nat) (p : Addr × Obj), tl[i]? = some p → IsTold hs i p.2) ?turn ?fin _ 0 [] [] (Nat.zero_add _) ⟨rfl, rfl, fun i p h => nomatch h⟩
  case turn =>
    rintro j ys tl v I oI C2 oC Dd m₂ h2 tk2 E' hj ⟨hj1, hj2, hj3⟩ hvj hC hx F2 N2 off2 ne2
    clear F9 N9
    have hj4 : j < 3 := by simpa [hvl] using hj
    obtain ⟨tv, hv'⟩ := hv j hj4
    have ev : v = .str (nmS j (gr j)) tv := by
      have : vs[j]? = some v := by simpa using hvj
      rw [hv'] at this; exact (Option.some.inj this).symm
    subst ev
    k_steps
    refine Stop.go ?_
    refine getall_wp rfl Wg ?kB8 (by k_room) (by (try simp only [units_in1, units_deeper, Around.mark_units]); (try dsimp only); omega) x dx H tb n cl hs hlen hl10 hk3 hcl (N2 _ (.tail _ (.tail _ (.tail _ (.tail _ (.tail _ (.tail _ (.head _)))))))).1 (N2 _ (.tail _ (.tail _ (.tail _ (.tail _ (.tail _ (.tail _ (.head _)))))))).2.2 (N2 _ (.tail _ (.tail _ (.tail _ (.tail _ (.tail _ (.tail _ (.tail _ (.head _))))))))).1 (N2 _ (.tail _ (.tail _ (.tail _ (.tail _ (.tail _ (.tail _ (.tail _ (.head _))))))))).2.2 (N2 _ (.tail _ (.tail _ (.tail _ (.tail _ (.tail _ (.head _))))))).1 (N2 _ (.tail _ (.tail _ (.tail _ (.tail _ (.tail _ (.head _))))))).2.2 (fun p hp => ⟨(N2 _ (.tail _ (.tail _ (.tail _ (.tail _ (.tail _ (.tail _ (.tail _ (.tail _ (.tail _ (List.mem_append_right _ (List.mem_append_left _ (hp))))))))))))).1, (N2 _ (.tail _ (.tail _ (.tail _ (.tail _ (.tail _ (.tail _ (.tail _ (.tail _ (.tail _ (List.mem_append_right _ (List.mem_append_left _ (hp))))))))))))).2.2⟩) j (gr j) tv hj4 fun h8 tk8 Tj nj vj k8 gT hS fT => ?_
    case kB8 => exact F2.keep
    have oT := new_off F2 fT
    have F8 := Fr.keeps F2 k8
    have N8 : News g L h8 ((Tj, listOf vj.toArray nj) :: (I, oI) :: (C2, oC) :: (Dd, LCg.lst ys) :: (Fi, listOf (cl.map fun p => Value.ref p.1).toArray 0) :: (L + 1 + 1, o2) :: (H, listOf (cl.map fun p => Value.ref p.1).toArray n) :: (x, instObj 216 dx) :: (dx, bkD w.params tb H) :: (M, listOf vs.toArray nm) :: (tl ++ (cl ++ R))) := (fac (⟨gT, oT⟩) (News.grown N2 k8))
    have neT : ∀ (a : Addr) (o : Obj), h2.get? a = some o → a ≠ Tj := fun a o e q => by
      rw [q] at e
      rw [show h2.get? Tj = none from fT] at e; cases e
    have oTt : Tj ≠ I ∧ Tj ≠ C2 ∧ Tj ≠ Dd := ⟨Ne.symm (neT _ _ (N2 _ (.head _)).1), Ne.symm (neT _ _ (N2 _ (.tail _ (.head _))).1), Ne.symm (neT _ _ (N2 _ (.tail _ (.tail _ (.head _)))).1)⟩
    clear F2 N2
    k_steps
    refine Stop.go ?_
    refine LCg.CompEnd.intro F8 N8 ((Fi, listOf (cl.map fun p => Value.ref p.1).toArray 0) :: (L + 1 + 1, o2) :: (H, listOf (cl.map fun p => Value.ref p.1).toArray n) :: (x, instObj 216 dx) :: (dx, bkD w.params tb H) :: (M, listOf vs.toArray nm) :: ((tl ++ [(Tj, listOf vj.toArray nj)]) ++ (cl ++ R))) ((fac (.tail _ (.head _)) ((fac (.tail _ (.tail _ (.head _))) ((fac (.tail _ (.tail _ (.tail _ (.head _)))) ((fac (.tail _ (.tail _ (.tail _ (.tail _ (.head _))))) ((fac (.tail _ (.tail _ (.tail _ (.tail _ (.tail _ (.head _)))))) ((fac (.tail _ (.tail _ (.tail _ (.tail _ (.tail _ (.tail _ (.head _))))))) ((fac (.tail _ (.tail _ (.tail _ (.tail _ (.tail _ (.tail _ (.tail _ (.head _)))))))) ((fac (.tail _ (.tail _ (.tail _ (.tail _ (.tail _ (.tail _ (.tail _ (.tail _ (.head _))))))))) ((fac (.tail _ (.tail _ (.tail _ (.tail _ (.tail _ (.tail _ (.tail _ (.tail _ (.tail _ (.head _)))))))))) ((faa ((faa (fun p hp => .tail _ (.tail _ (.tail _ (.tail _ (.tail _ (.tail _ (.tail _ (.tail _ (.tail _ (.tail _ (List.mem_append_left _ (hp)))))))))))) ((fac (.head _) (fun _ h => nomatch h))))) ((faa (fun p hp => .tail _ (.tail _ (.tail _ (.tail _ (.tail _ (.tail _ (.tail _ (.tail _ (.tail _ (.tail _ (List.mem_append_right _ (List.mem_append_left _ (hp))))))))))))) (fun p hp => .tail _ (.tail _ (.tail _ (.tail _ (.tail _ (.tail _ (.tail _ (.tail _ (.tail _ (.tail _ (List.mem_append_right _ (List.mem_append_right _ (hp))))))))))))))))))))))))))))))))))) (LCg.Off3.of ((fac (off2.mem _ (.head _)) ((fac (off2.mem _ (.tail _ (.head _))) ((fac (off2.mem _ (.tail _ (.tail _ (.head _)))) ((fac (off2.mem _ (.tail _ (.tail _ (.tail _ (.head _))))) ((fac (off2.mem _ (.tail _ (.tail _ (.tail _ (.tail _ (.head _)))))) ((fac (off2.mem _ (.tail _ (.tail _ (.tail _ (.tail _ (.tail _ (.head _))))))) ((faa ((faa (fun p hp => off2.mem _ (.tail _ (.tail _ (.tail _ (.tail _ (.tail _ (.tail _ (List.mem_append_left _ (hp))))))))) ((fac oTt (fun _ h => nomatch h))))) ((faa (fun p hp => off2.mem _ (.tail _ (.tail _ (.tail _ (.tail _ (.tail _ (.tail _ (List.mem_append_right _ (List.mem_append_left _ (hp)))))))))) (fun p hp => off2.mem _ (.tail _ (.tail _ (.tail _ (.tail _ (.tail _ (.tail _ (List.mem_append_right _ (List.mem_append_right _ (hp))))))))))))))))))))))))))) trivial ⟨tl ++ [(Tj, listOf vj.toArray nj)], fun _ h => h, .inr ⟨_, by k_mem, rfl, _, rfl⟩, ?_, ?_, ?_⟩
    · show (tl ++ [_]).length = j + 1
      rw [List.length_append, List.length_singleton, hj1]
    · rw [hj2, List.map_append]; rfl
    · exact at_snoc (Q := fun i (p : Addr × Obj) => IsTold hs i p.2) hj3 ⟨vj, nj, rfl, by rw [hj1]; exact hS⟩
  case fin =>
    rintro ys tl ⟨hj1, hj2, hj3⟩
    clear F9 N9
    unfold LCg.FinE
    intro Dd h8 tk8 F8 N8 o8
    k_steps
    rename Fr _ _ _ _ => F1
    rename News _ _ _ _ => N1
    refine next _ _ Fi Dd tl (tl.map fun p : Addr × Obj => Value.ref p.1).length (frc F1 (by ktn_open)) ?_ hFH (by rw [hj1, List.size_toArray, hvl]) hj3
    rw [hj2] at N1
    exact (fac (N1 _ (.tail _ (.tail _ (.head _)))) ((fac (N1 _ (.tail _ (.head _))) ((fac (N1 _ (.tail _ (.tail _ (.tail _ (.head _))))) ((fac (N1 _ (.tail _ (.tail _ (.tail _ (.tail _ (.head _)))))) ((fac (N1 _ (.tail _ (.tail _ (.tail _ (.tail _ (.tail _ (.head _))))))) ((fac (N1 _ (.tail _ (.tail _ (.tail _ (.tail _ (.tail _ (.tail _ (.head _)))))))) ((fac (N1 _ (.tail _ (.tail _ (.tail _ (.tail _ (.tail _ (.tail _ (.tail _ (.head _))))))))) ((faa (fun p hp => N1 _ (.tail _ (.tail _ (.tail _ (.tail _ (.tail _ (.tail _ (.tail _ (.tail _ (List.mem_append_left _ (hp))))))))))) ((faa (fun p hp => N1 _ (.tail _ (.tail _ (.tail _ (.tail _ (.tail _ (.tail _ (.tail _ (.tail _ (List.mem_append_right _ (List.mem_append_left _ (hp)))))))))))) (fun p hp => N1 _ (.tail _ (.tail _ (.tail _ (.tail _ (.tail _ (.tail _ (.tail _ (.tail _ (List.mem_append_right _ (List.mem_append_right _ (hp)))))))))))))))))))))))))))))
end
section
local macro_rules | `(tactic| walk_at "none") => `(tactic| skip)
set_option maxHeartbeats 4000000
open PySem PySem.W PySem.Calls PyProof.Rows
theorem fillL7 : PySem.Challenge.rw_uc0030_01 = PySem.Challenge.rw_uc0030_01 ∧ Mine.hd.heap_1 = Mine.hd.heap_1 := by k_fill; exact ⟨rfl, rfl⟩
local macro_rules | `(tactic| walk_at $k:str) => if ["binaryOp Add ref ref"].contains k.getString then `(tactic| refine stop_of ?_) else Lean.Macro.throwUnsupported
noncomputable def frs : List Str → Str
  | [] => Str.ofString "x"
  | a :: _ => a
theorem frs_of {l : List Str} {v : Value} {t0 : Tok} (h : match l with | [] => v = .str (Str.ofString "x") t0 | a :: _ => ∃ t, v = .str a t) : ∃ t, v = .str (frs l) t := by
  cases l with
  | nil => exact ⟨t0, h⟩
  | cons a r => exact h
theorem frs_item {l : List Str} {vs : List Value} {t0 : Tok} (h : StrsAre vs l) : ∃ t, (vs ++ [Value.str (Str.ofString "x") t0])[0]? = some (.str (frs l) t) := by
  cases h with
  | nil => exact ⟨t0, rfl⟩
  | cons a t _ => exact ⟨t, rfl⟩
theorem strs_len {l : List Str} {vs : List Value} (h : StrsAre vs l) : vs.length = l.length := by
  induction h with
  | nil => rfl
  | cons a t _ ih => rw [List.length_cons, List.length_cons, ih]
theorem frs_ok {l : List Str} (h : ∀ a ∈ l, PyData.strOk a = true) : PyData.strOk (frs l) = true := by
  cases l with
  | nil => decide +kernel
  | cons a r => exact h a (.head _)
theorem told_ok {hs : List (Nat × Bool × Str)} {k : Nat} (hok : ∀ q ∈ hs, PyData.strOk q.2.2 = true) {a : Str} (ha : a ∈ toldOf hs k) : PyData.strOk a = true := by
  obtain ⟨q, hq, rfl⟩ := List.mem_map.mp ha
  exact hok q (List.mem_filter.mp hq).1
theorem told_len {hs : List (Nat × Bool × Str)} {k : Nat} : (toldOf hs k).length ≤ hs.length := by
  unfold toldOf
  rw [List.length_map]; exact List.length_filter_le _ _
theorem dat_of {D : Nat → Dat} {P : Nat → Value → Prop} (hP : ∀ i v, P i v → DatIn [] v (D i)) : ∀ (ys : List Value) (k : Nat), (∀ i v, ys[i]? = some v → P (k + i) v) → DatAll [] ys ((List.range' k ys.length).map D)
  | [], _, _ => .nil
  | y :: ys, k, h => .cons (hP _ _ (h 0 y rfl)) (dat_of hP ys (k + 1) fun i v hv => by
      have := h (i + 1) v hv
      rwa [show k + (i + 1) = k + 1 + i by omega] at this)
theorem st7 {w : World} {mean : ExcName → Option Value} {mg mb : Str → Option Value} {dp un : Nat} {fr : Option (List Env)} {gd : Option (List Code)} {s : Shared} {Q : Flow → Shared → Prop} {g : Heap} {L S : Addr} {R : List (Addr × Obj)} (Wg : Wd w mean mg mb g) (D M x dx H : Addr) (tb : Tok) (o2 : Obj) (cl : List (Addr × Obj)) (n : Nat) (vs : List Value) (nm : Nat) (hs : List (Nat × Bool × Str)) (Fi Td : Addr) (tl : List (Addr × Obj)) (nt : Nat)
   (F : Fr g L s.heap (mp [(Str.ofString "told", .ref Td), (Str.ofString "first", .ref Fi), (Str.ofString "names", .ref M), (Str.ofString "debts", .ref D), (Str.ofString "script", .ref S)])) (N : News g L s.heap ((L + 1 + 1, o2) :: (H, listOf (cl.map fun p => Value.ref p.1).toArray n) :: (x, instObj 216 dx) :: (dx, bkD w.params tb H) :: (M, listOf vs.toArray nm) :: (Td, listOf (tl.map fun p => Value.ref p.1).toArray nt) :: (tl ++ (cl ++ R))))
   (d2 : o2.data = .cell (some (.ref x))) (hlen : cl.length = hs.length) (hcl : (∀ (j : Nat) (p : Addr × Obj), cl[j]? = some p → ∃ q t u, hs[j]? = some q ∧ p.2 = tupO (.str (nmS q.1 q.2.1) t) (.str q.2.2 u))) (hl5 : hs.length = 5) (hk3 : ∀ q ∈ hs, q.1 < 3) (hvl : vs.length = 3) (gr : Nat → Bool) (hv : ∀ k, k < 3 → ∃ t, vs[k]? = some (.str (nmS k (gr k)) t)) (htl : tl.length = 3) (ht : ∀ (j : Nat) (p : Addr × Obj), tl[j]? = some p → IsTold hs j p.2) (hok : ∀ q ∈ hs, PyData.strOk q.2.2 = true) (hd : dp + 30 < recursionLimit) (hu : un + 400 < cLine)
   (next : ∀ h' tk', Fr g L h' (mp [(Str.ofString "told", .ref Td), (Str.ofString "first", .ref Fi), (Str.ofString "names", .ref M), (Str.ofString "debts", .ref D), (Str.ofString "script", .ref S)]) → News g L h' ((L + 1 + 1, o2) :: (H, listOf (cl.map fun p => Value.ref p.1).toArray n) :: (x, instObj 216 dx) :: (dx, bkD w.params tb H) :: (M, listOf vs.toArray nm) :: (Td, listOf (tl.map fun p => Value.ref p.1).toArray nt) :: (tl ++ (cl ++ R))) →  wpAny (model prg w) (Ar dp fr gd un) (execs (lawRest 8) (lawEnv L)) Q Fls { s with heap := h', toks := tk' }) :
   wpAny (model prg w) (Ar dp fr gd un) (execs (lawRest 7) (lawEnv L)) Q Fls s := by
  have X := Wg.X
  obtain ⟨p9, l9, T⟩ := Wg.T
  with_unfolding_all show wpAny _ _ (execs (_ :: lawRest 8) (envOfC (Str.ofString "law") _ L 305 (.ref 304))) _ _ _
  w_on
  have hl10 : cl.length < 10 := by omega
  k_steps
  refine Stop.go ?_
  k_dflt (refine LCg.ListComp_U (F₀ := by k_asm) (by with_unfolding_all rfl) (by decide) (by rfl) (by decide) (by rfl) ?_)
  k_steps
  refine Stop.go ?_
  refine LCg.CompSrc.ledger (ax := M) (its := vs.toArray) (k := nm) rfl F N (by k_mem) (size_small (by simp; omega)) ?_
  intro g'
  with_unfolding_all refine rest_inv (n := vs.toArray.size) (fun _ : Unit => _) (fun j ys _ => ys.length = j ∧ ∀ (i : Nat) v, ys[i]? = some v → ∃ t, v = .str (frs (toldOf hs i)) t) ?turn ?fin _ 0 [] () (Nat.zero_add _) ⟨rfl, fun i p h => nomatch h⟩
  case turn =>
    rintro j ys _ v I oI C2 oC Dd m₂ h2 tk2 E' hj ⟨hj1, hj2⟩ hvj hC hx F2 N2 off2 ne2
    clear F N
    have hj4 : j < 3 := by simpa [hvl] using hj
    obtain ⟨tv, hv'⟩ := hv j hj4
    have ev : v = .str (nmS j (gr j)) tv := by
      have : vs[j]? = some v := by simpa using hvj
      rw [hv'] at this; exact (Option.some.inj this).symm
    subst ev
    k_steps
    refine Stop.go ?_
    refine get_wp rfl Wg ?kB8 (by k_room) (by (try simp only [units_in1, units_deeper, Around.mark_units]); (try dsimp only); omega) x dx H tb n cl hs hlen hl10 hk3 hcl (N2 _ (.tail _ (.tail _ (.tail _ (.tail _ (.tail _ (.head _))))))).1 (N2 _ (.tail _ (.tail _ (.tail _ (.tail _ (.tail _ (.head _))))))).2.2 (N2 _ (.tail _ (.tail _ (.tail _ (.tail _ (.tail _ (.tail _ (.head _)))))))).1 (N2 _ (.tail _ (.tail _ (.tail _ (.tail _ (.tail _ (.tail _ (.head _)))))))).2.2 (N2 _ (.tail _ (.tail _ (.tail _ (.tail _ (.head _)))))).1 (N2 _ (.tail _ (.tail _ (.tail _ (.tail _ (.head _)))))).2.2 (fun p hp => ⟨(N2 _ (.tail _ (.tail _ (.tail _ (.tail _ (.tail _ (.tail _ (.tail _ (.tail _ (.tail _ (List.mem_append_right _ (List.mem_append_left _ (hp))))))))))))).1, (N2 _ (.tail _ (.tail _ (.tail _ (.tail _ (.tail _ (.tail _ (.tail _ (.tail _ (.tail _ (List.mem_append_right _ (List.mem_append_left _ (hp))))))))))))).2.2⟩) j (gr j) tv hj4 (.str (Str.ofString "x") _) fun h8 tk8 vj k8 hS => ?_
    case kB8 => exact F2.keep
    have F8 := Fr.keeps F2 k8
    have N8 := News.grown N2 k8
    clear F2 N2
    k_steps
    refine Stop.go ?_
    refine LCg.CompEnd.intro F8 N8 _ (fun _ h => h) off2 trivial ⟨(), fun _ h => h, .inr ⟨_, by k_mem, rfl, _, rfl⟩, ?_, ?_⟩
    · rw [List.length_append, List.length_singleton, hj1]
    · exact at_snoc (Q := fun i (v : Value) => ∃ t, v = .str (frs (toldOf hs i)) t) hj2 (by rw [hj1]; exact frs_of hS)
  case fin =>
    rintro ys _ ⟨hj1, hj2⟩
    clear F N
    unfold LCg.FinE
    intro D1 h8 tk8 F8 N8 o8
    k_steps
    refine Stop.go ?_
    k_dflt (refine LCg.ListComp_U (F₀ := by k_asm) (by with_unfolding_all rfl) (by decide) (by rfl) (by decide) (by rfl) ?_)
    k_steps
    refine Stop.go ?_
    refine LCg.CompSrc.ledger (ax := Td) (its := (tl.map fun p : Addr × Obj => Value.ref p.1).toArray) (k := nt) rfl F8 N8 (by k_mem) (size_small (by simp; omega)) ?_
    intro g''
    with_unfolding_all refine rest_inv (n := (tl.map fun p : Addr × Obj => Value.ref p.1).toArray.size) (fun _ : Unit => _) (fun j zs _ => zs.length = j ∧ ∀ (i : Nat) v, zs[i]? = some v → ∃ t, v = .str (frs (toldOf hs i)) t) ?turn2 ?fin2 _ 0 [] () (Nat.zero_add _) ⟨rfl, fun i p h => nomatch h⟩
    case turn2 =>
      rintro j zs _ v I oI C2 oC Dd m₂ h2 tk2 E' hj ⟨hk1, hk2⟩ hvj hC hx F2 N2 off2 ne2
      clear F8 N8
      have hj4 : j < tl.length := by simpa using hj
      obtain ⟨pj, hpj⟩ : ∃ p, tl[j]? = some p := ⟨_, List.getElem?_eq_getElem hj4⟩
      have ev : v = .ref pj.1 := by
        have : (tl.map fun p : Addr × Obj => Value.ref p.1)[j]? = some v := by simpa using hvj
        rw [List.getElem?_map, hpj] at this
        exact (Option.some.inj this).symm
      subst ev
      obtain ⟨vj, nj, ej, hS⟩ := ht j pj hpj
      have hpN := N2 pj (.tail _ (.tail _ (.tail _ (.tail _ (.tail _ (.tail _ (.tail _ (.tail _ (.tail _ (.tail _ (List.mem_append_left _ ((List.mem_of_getElem? hpj)))))))))))))
      rw [ej] at hpN
      have N3 : News g L h2 ((pj.1, listOf vj.toArray nj) :: _) := List.forall_mem_cons.mpr ⟨hpN, N2⟩
      clear N2
      k_steps
      refine Stop.go ?_
      rename Fr _ _ _ _ => F1
      rename News _ _ _ _ => N1
      have hvl9 : vj.length ≤ 5 := by rw [strs_len hS]; exact Nat.le_trans told_len (Nat.le_of_eq hl5)
      refine kmk_add_lit (its := vj.toArray) (its2 := #[Value.str (Str.ofString "x") _]) (zs := vj ++ [Value.str (Str.ofString "x") _]) F1 N1 (News.isList N1 (.tail _ (.head _))) (News.isList N1 (.head _)) (by rfl) (fun D5 h5 F5 N5 l5 => ?_) (size_small (by simp; omega))
      clear F1 N1
      k_steps
      refine Stop.go ?_
      obtain ⟨t5, h50⟩ := frs_item hS
      refine my_item (News.isList N5 (.head _)) (by decide) (by decide) h50 ?_
      k_steps
      refine Stop.go ?_
      refine LCg.CompEnd.intro F5 N5 _ (fun p hp => .tail _ (.tail _ (.tail _ hp))) off2 trivial ⟨(), fun _ h => h, .inr ⟨_, by k_mem, rfl, _, rfl⟩, ?_, ?_⟩
      · rw [List.length_append, List.length_singleton, hk1]
      · exact at_snoc (Q := fun i (v : Value) => ∃ t, v = .str (frs (toldOf hs i)) t) hk2 (by rw [hk1]; exact ⟨t5, rfl⟩)
    case fin2 =>
      rintro zs _ ⟨hk1, hk2⟩
      clear F8 N8
      unfold LCg.FinE
      intro D2 h7 tk7 F7 N7 o7
      k_steps
      refine Stop.go ?_
      have el1 : ys.length = 3 := by rw [hj1, List.size_toArray, hvl]
      have el2 : zs.length = 3 := by rw [hk1, List.size_toArray, List.length_map, htl]
      have A1 := dat_of (D := fun i => Dat.str (frs (toldOf hs i))) (P := fun i v => ∃ t, v = .str (frs (toldOf hs i)) t) (fun i v ⟨t, e⟩ => e ▸ .str _ t) ys 0 (fun i v hv => by rw [Nat.zero_add]; exact hj2 i v hv)
      have A2 := dat_of (D := fun i => Dat.str (frs (toldOf hs i))) (P := fun i v => ∃ t, v = .str (frs (toldOf hs i)) t) (fun i v ⟨t, e⟩ => e ▸ .str _ t) zs 0 (fun i v hv => by rw [Nat.zero_add]; exact hk2 i v hv)
      rw [el1] at A1
      rw [el2] at A2
      refine kqd_ne_f N7 (.tail _ (.head _)) rfl rfl A1 (fun p hp => nomatch hp) (.head _) rfl rfl A2 (fun p hp => nomatch hp) (fun d hd => ?_) (by (try simp only [units_in1, units_deeper, Around.mark_units]); (try dsimp only); omega) ?_
      · obtain ⟨i, hi, rfl⟩ := List.mem_map.mp hd
        exact frs_ok (fun a ha => told_ok hok ha)
      k_steps
      exact next _ _ F7 (fun p hp => N7 p (.tail _ (.tail _ hp)))
end
section
set_option maxHeartbeats 4000000
open PySem PySem.W PySem.Calls PyProof.Rows
theorem fillL8 : PySem.Challenge.rw_uc0030_01 = PySem.Challenge.rw_uc0030_01 ∧ Mine.hd.heap_1 = Mine.hd.heap_1 := by k_fill; exact ⟨rfl, rfl⟩
local macro_rules | `(tactic| walk_at $k:str) => if ["call builtin:str.join"].contains k.getString then `(tactic| refine stop_of ?_) else Lean.Macro.throwUnsupported
theorem st8 {w : World} {mean : ExcName → Option Value} {mg mb : Str → Option Value} {dp un : Nat} {fr : Option (List Env)} {gd : Option (List Code)} {s : Shared} {Q : Flow → Shared → Prop} {g : Heap} {L S : Addr} {R : List (Addr × Obj)} (Wg : Wd w mean mg mb g) (D M Fi Td : Addr) (o3 : Obj) (tl : List (Addr × Obj)) (nt : Nat) (m : Nat → Nat)
   (F : Fr g L s.heap (mp [(Str.ofString "told", .ref Td), (Str.ofString "first", .ref Fi), (Str.ofString "names", .ref M), (Str.ofString "debts", .ref D), (Str.ofString "script", .ref S)])) (N : News g L s.heap ((L + 1 + 1 + 1, o3) :: (Td, listOf (tl.map fun p => Value.ref p.1).toArray nt) :: (tl ++ R)))
   (d3 : o3.data = .cell none) (hR3 : ∀ p ∈ (Td, listOf (tl.map fun p => Value.ref p.1).toArray nt) :: (tl ++ R), p.1 ≠ L + 1 + 1 + 1) (htl : tl.length = 3) (f : Nat → List Str) (ht : ∀ (j : Nat) (p : Addr × Obj), tl[j]? = some p → ∃ vs n, p.2 = listOf vs.toArray n ∧ StrsAre vs (f j)) (hf : ∀ j, j < 3 → Txt.join (Str.ofString "") (f j) = spc (m j)) (hfl : ∀ j, j < 3 → (f j).length ≤ 5 ∧ ((f j).map (·.length)).sum ≤ 1000) (hd : dp + 30 < recursionLimit) (hu : un + 400 < cLine)
   (next : ∀ h' tk' (o3' : Obj) (l : Addr) (vs : List Value) (nl : Nat), Fr g L h' (mp [(Str.ofString "told", .ref Td), (Str.ofString "first", .ref Fi), (Str.ofString "names", .ref M), (Str.ofString "debts", .ref D), (Str.ofString "script", .ref S)]) → News g L h' ((L + 1 + 1 + 1, o3') :: (l, listOf vs.toArray nl) :: (Td, listOf (tl.map fun p => Value.ref p.1).toArray nt) :: (tl ++ R)) → o3'.data = .cell (some (.ref l)) → vs.length = 3 → (∀ k, k < 3 → ∃ t, vs[k]? = some (.str (spc (m k)) t)) →  wpAny (model prg w) (Ar dp fr gd un) (execs (lawRest 9) (lawEnv L)) Q Fls { s with heap := h', toks := tk' }) :
   wpAny (model prg w) (Ar dp fr gd un) (execs (lawRest 8) (lawEnv L)) Q Fls s := by
  have X := Wg.X
  obtain ⟨p9, l9, T⟩ := Wg.T
  with_unfolding_all show wpAny _ _ (execs (_ :: lawRest 9) (envOfC (Str.ofString "law") _ L 305 (.ref 304))) _ _ _
  w_on
  k_steps
  refine Stop.go ?_
  refine wpAny_Assign_Name ?_ (by with_unfolding_all rfl)
  k_steps
  refine Stop.go ?_
  k_dflt (refine LCg.ListComp_U (F₀ := by k_asm) (by with_unfolding_all rfl) (by decide) (by rfl) (by decide) (by rfl) ?_)
  k_steps
  refine Stop.go ?_
  refine LCg.CompSrc.ledger (ax := Td) (its := (tl.map fun p : Addr × Obj => Value.ref p.1).toArray) (k := nt) rfl F N (by k_mem) (size_small (by simp; omega)) ?_
  intro g'
  with_unfolding_all refine rest_inv (n := (tl.map fun p : Addr × Obj => Value.ref p.1).toArray.size) (fun _ : Unit => _) (fun j zs _ => zs.length = j ∧ ∀ (i : Nat) v, zs[i]? = some v → ∃ t, v = .str (spc (m i)) t) ?turn ?fin _ 0 [] () (Nat.zero_add _) ⟨rfl, fun i p h => nomatch h⟩
  case turn =>
      rintro j zs _ v I oI C2 oC Dd m₂ h2 tk2 E' hj ⟨hk1, hk2⟩ hvj hC hx F2 N2 off2 ne2
      clear F N
      have hj4 : j < tl.length := by simpa using hj
      obtain ⟨pj, hpj⟩ : ∃ p, tl[j]? = some p := ⟨_, List.getElem?_eq_getElem hj4⟩
      have ev : v = .ref pj.1 := by
        have : (tl.map fun p : Addr × Obj => Value.ref p.1)[j]? = some v := by simpa using hvj
        rw [List.getElem?_map, hpj] at this
        exact (Option.some.inj this).symm
      subst ev
      obtain ⟨vj, nj, ej, hS⟩ := ht j pj hpj
      have hpN := N2 pj (.tail _ (.tail _ (.tail _ (.tail _ (.tail _ (List.mem_append_left _ ((List.mem_of_getElem? hpj))))))))
      rw [ej] at hpN
      have N3 : News g L h2 ((pj.1, listOf vj.toArray nj) :: _) := List.forall_mem_cons.mpr ⟨hpN, N2⟩
      clear N2
      have hfj := hf j (by omega)
      have hflj := hfl j (by omega)
      k_steps
      refine Stop.go ?_
      refine join_list (x := Str.ofString "") (items := vj.toArray) (ys := f j) (by is_list) hS ?hyl (fun t8 j8 => ?_)
      case hyl =>
        have e0 : (Str.ofString "").length = 0 := by decide
        rw [e0]; omega
      rw [hfj]
      rename Fr _ _ _ _ => F1
      rename News _ _ _ _ => N1
      k_steps
      refine Stop.go ?_
      refine LCg.CompEnd.intro F1 N1 _ (fun p hp => .tail _ hp) off2 trivial ⟨(), fun _ h => h, .inr ⟨_, by k_mem, rfl, _, rfl⟩, ?_, ?_⟩
      · rw [List.length_append, List.length_singleton, hk1]
      · exact at_snoc (Q := fun i (v : Value) => ∃ t, v = .str (spc (m i)) t) hk2 (by rw [hk1]; exact ⟨_, rfl⟩)
  case fin =>
      rintro zs _ ⟨hk1, hk2⟩
      clear F N
      unfold LCg.FinE
      intro D2 h7 tk7 F7 N7 o7
      have n1 : D2 ≠ L + 1 + 1 + 1 := Ne.symm (off1_mem o7 _ (.head _))
      k_steps
      rename Fr _ _ _ _ => F8
      rename News _ _ _ _ => N8
      have el2 : zs.length = 3 := by rw [hk1, List.size_toArray, List.length_map, htl]
      refine next _ _ _ D2 zs _ F8 (List.forall_mem_cons.mpr ⟨N8 _ (.tail _ (.head _)), List.forall_mem_cons.mpr ⟨N8 _ (.head _), List.forall_mem_cons.mpr ⟨N8 _ (.tail _ (.tail _ (.head _))), List.forall_mem_append.mpr ⟨fun p hp => N8 _ (.tail _ (.tail _ (.tail _ (List.mem_append_left _ (hp))))), fun p hp => N8 _ (.tail _ (.tail _ (.tail _ (List.mem_append_right _ (hp)))))⟩⟩⟩⟩) (by assumption) el2 fun k hk => ?_
      obtain ⟨v, hv⟩ : ∃ v, zs[k]? = some v := ⟨_, List.getElem?_eq_getElem (by rw [el2]; exact hk)⟩
      obtain ⟨t, e⟩ := hk2 k v hv
      exact ⟨t, by rw [hv, e]⟩
end
section
local macro_rules | `(tactic| walk_at "none") => `(tactic| skip)
set_option maxHeartbeats 4000000
open PySem PySem.W PySem.Calls PyProof.Rows
theorem fillL9 : PySem.Challenge.rw_uc0030_01 = PySem.Challenge.rw_uc0030_01 ∧ Mine.hd.heap_1 = Mine.hd.heap_1 := by k_fill; exact ⟨rfl, rfl⟩
local macro_rules | `(tactic| walk_at "call builtin:len") => `(tactic| (refine' r_len (by with_reducible exact spc_len _) ?hs ?_; (case hs => omega)))
theorem st9 {w : World} {mean : ExcName → Option Value} {mg mb : Str → Option Value} {dp un : Nat} {fr : Option (List Env)} {gd : Option (List Code)} {s : Shared} {Q : Flow → Shared → Prop} {g : Heap} {L S : Addr} {R : List (Addr × Obj)} (Wg : Wd w mean mg mb g) (D M Fi Td l : Addr) (o3 o4 : Obj) (vs : List Value) (nl : Nat)
   (F : Fr g L s.heap (mp [(Str.ofString "told", .ref Td), (Str.ofString "first", .ref Fi), (Str.ofString "names", .ref M), (Str.ofString "debts", .ref D), (Str.ofString "script", .ref S)])) (N : News g L s.heap ((L + 1 + 1 + 1 + 1, o4) :: (L + 1 + 1 + 1, o3) :: (l, listOf vs.toArray nl) :: R))
   (d3 : o3.data = .cell (some (.ref l))) (hvl : vs.length = 3) (m : Nat → Nat) (hv : ∀ k, k < 3 → ∃ t, vs[k]? = some (.str (spc (m k)) t)) (hm : ∀ k, k < 3 → m k ≤ 1000) (d4 : o4.data = .cell none) (hR4 : ∀ p ∈ (L + 1 + 1 + 1, o3) :: (l, listOf vs.toArray nl) :: R, p.1 ≠ L + 1 + 1 + 1 + 1) (hd : dp + 30 < recursionLimit) (hu : un + 400 < cLine)
   (next : ∀ h' tk' (o4' : Obj) (q : Addr) (ws : List Value) (nq : Nat), Fr g L h' (mp [(Str.ofString "told", .ref Td), (Str.ofString "first", .ref Fi), (Str.ofString "names", .ref M), (Str.ofString "debts", .ref D), (Str.ofString "script", .ref S)]) → News g L h' ((L + 1 + 1 + 1 + 1, o4') :: (q, listOf ws.toArray nq) :: (L + 1 + 1 + 1, o3) :: (l, listOf vs.toArray nl) :: R) → o4'.data = .cell (some (.ref q)) → ws.length = 3 → (∀ k, k < 3 → ∃ t, ws[k]? = some (.int (m k : Int) t)) →  wpAny (model prg w) (Ar dp fr gd un) (execs (lawRest 10) (lawEnv L)) Q Fls { s with heap := h', toks := tk' }) :
   wpAny (model prg w) (Ar dp fr gd un) (execs (lawRest 9) (lawEnv L)) Q Fls s := by
  have X := Wg.X
  obtain ⟨p9, l9, T⟩ := Wg.T
  with_unfolding_all show wpAny _ _ (execs (_ :: lawRest 10) (envOfC (Str.ofString "law") _ L 305 (.ref 304))) _ _ _
  w_on
  k_steps
  refine Stop.go ?_
  refine wpAny_Assign_Name ?_ (by with_unfolding_all rfl)
  k_steps
  refine Stop.go ?_
  k_dflt (refine LCg.ListComp_U (F₀ := by k_asm) (by with_unfolding_all rfl) (by decide) (by rfl) (by decide) (by rfl) ?_)
  k_steps
  refine Stop.go ?_
  refine LCg.CompSrc.ledger (ax := l) (its := vs.toArray) (k := nl) rfl F N (by k_mem) (size_small (by simp; omega)) ?_
  intro g'
  with_unfolding_all refine rest_inv (n := vs.toArray.size) (fun _ : Unit => _) (fun j zs _ => zs.length = j ∧ ∀ (i : Nat) v, zs[i]? = some v → ∃ t, v = .int (m i : Int) t) ?turn ?fin _ 0 [] () (Nat.zero_add _) ⟨rfl, fun i p h => nomatch h⟩
  case turn =>
    rintro j zs _ v I oI C2 oC Dd m₂ h2 tk2 E' hj ⟨hk1, hk2⟩ hvj hC hx F2 N2 off2 ne2
    clear F N
    have hj4 : j < 3 := by simpa [hvl] using hj
    obtain ⟨tv, hv'⟩ := hv j hj4
    have ev : v = .str (spc (m j)) tv := by
      have : vs[j]? = some v := by simpa using hvj
      rw [hv'] at this; exact (Option.some.inj this).symm
    subst ev
    have hmj := hm j hj4
    k_steps
    refine Stop.go ?_
    refine LCg.CompEnd.intro F2 N2 _ (fun p hp => hp) off2 trivial ⟨(), fun _ h => h, .inr ⟨_, by k_mem, rfl, _, rfl⟩, ?_, ?_⟩
    · rw [List.length_append, List.length_singleton, hk1]
    · exact at_snoc (Q := fun i (v : Value) => ∃ t, v = .int (m i : Int) t) hk2 (by rw [hk1]; exact ⟨_, rfl⟩)
  case fin =>
    rintro zs _ ⟨hk1, hk2⟩
    clear F N
    unfold LCg.FinE
    intro D2 h7 tk7 F7 N7 o7
    have n1 : D2 ≠ L + 1 + 1 + 1 + 1 := Ne.symm (off1_mem o7 _ (.head _))
    k_steps
    rename Fr _ _ _ _ => F8
    rename News _ _ _ _ => N8
    have el2 : zs.length = 3 := by rw [hk1, List.size_toArray, hvl]
    refine next _ _ _ D2 zs _ F8 (List.forall_mem_cons.mpr ⟨N8 _ (.tail _ (.head _)), List.forall_mem_cons.mpr ⟨N8 _ (.head _), List.forall_mem_cons.mpr ⟨N8 _ (.tail _ (.tail _ (.head _))), List.forall_mem_cons.mpr ⟨N8 _ (.tail _ (.tail _ (.tail _ (.head _)))), fun p hp => N8 _ (.tail _ (.tail _ (.tail _ (.tail _ (hp)))))⟩⟩⟩⟩) (by assumption) el2 fun k hk => ?_
    obtain ⟨v, hv⟩ : ∃ v, zs[k]? = some v := ⟨_, List.getElem?_eq_getElem (by rw [el2]; exact hk)⟩
    obtain ⟨t, e⟩ := hk2 k v hv
    exact ⟨t, by rw [hv, e]⟩
end
section
set_option maxHeartbeats 4000000
open PySem PySem.W PySem.Calls PyProof.Rows
theorem fillL10 : PySem.Challenge.rw_uc0030_01 = PySem.Challenge.rw_uc0030_01 ∧ Mine.hd.heap_1 = Mine.hd.heap_1 := by k_fill; exact ⟨rfl, rfl⟩
theorem st10 {w : World} {mean : ExcName → Option Value} {mg mb : Str → Option Value} {dp un : Nat} {fr : Option (List Env)} {gd : Option (List Code)} {s : Shared} {Q : Flow → Shared → Prop} {g : Heap} {L S : Addr} {R : List (Addr × Obj)} (Wg : Wd w mean mg mb g) (D M Fi Td : Addr) (q : Addr) (o4 : Obj) (c0 c1 c2 : Nat) (t0 t1 t2 : Tok) (nq : Nat)
   (F : Fr g L s.heap (mp [(Str.ofString "told", .ref Td), (Str.ofString "first", .ref Fi), (Str.ofString "names", .ref M), (Str.ofString "debts", .ref D), (Str.ofString "script", .ref S)])) (N : News g L s.heap ((L + 1 + 1 + 1 + 1, o4) :: (q, listOf #[.int (c0 : Int) t0, .int (c1 : Int) t1, .int (c2 : Int) t2] nq) :: R))
   (d4 : o4.data = .cell (some (.ref q))) (hc0 : c0 ≤ 120) (hc1 : c1 ≤ 120) (hc2 : c2 ≤ 120) (hd : dp + 30 < recursionLimit) (hu : un + 400 < cLine)
   (next : ∀ h' tk' (tt : Tok), Fr g L h' (mp [(Str.ofString "total", .int ((c0 + c1 + c2 : Nat) : Int) tt), (Str.ofString "told", .ref Td), (Str.ofString "first", .ref Fi), (Str.ofString "names", .ref M), (Str.ofString "debts", .ref D), (Str.ofString "script", .ref S)]) → News g L h' ((L + 1 + 1 + 1 + 1, o4) :: (q, listOf #[.int (c0 : Int) t0, .int (c1 : Int) t1, .int (c2 : Int) t2] nq) :: R) →  wpAny (model prg w) (Ar dp fr gd un) (execs (lawRest 11) (lawEnv L)) Q Fls { s with heap := h', toks := tk' }) :
   wpAny (model prg w) (Ar dp fr gd un) (execs (lawRest 10) (lawEnv L)) Q Fls s := by
  have X := Wg.X
  obtain ⟨p9, l9, T⟩ := Wg.T
  with_unfolding_all show wpAny _ _ (execs (_ :: lawRest 11) (envOfC (Str.ofString "law") _ L 305 (.ref 304))) _ _ _
  w_on
  have hI : IntsAre [.int (c0 : Int) t0, .int (c1 : Int) t1, .int (c2 : Int) t2] [(c0 : Int), (c1 : Int), (c2 : Int)] := .cons _ _ (.cons _ _ (.cons _ _ .nil))
  k_steps
  rename Fr _ _ _ _ => F8
  rename News _ _ _ _ => N8
  rw [show (c0 : Int) + ((c1 : Int) + ((c2 : Int) + 0)) = ((c0 + c1 + c2 : Nat) : Int) by omega] at F8
  exact next _ _ _ (frc F8 (by ktn_open)) N8
theorem st11 {w : World} {mean : ExcName → Option Value} {mg mb : Str → Option Value} {dp un : Nat} {fr : Option (List Env)} {gd : Option (List Code)} {s : Shared} {Q : Flow → Shared → Prop} {g : Heap} {L S : Addr} {R : List (Addr × Obj)} (Wg : Wd w mean mg mb g) (C D M Fi Td : Addr) (o1 : Obj) (ws : List Value) (nw : Nat) (c0 c1 c2 : Nat) (tt t5 : Tok) (c5 : Int) (o5 : Obj)
   (F : Fr g L s.heap (mp [(Str.ofString "total", .int ((c0 + c1 + c2 : Nat) : Int) tt), (Str.ofString "told", .ref Td), (Str.ofString "first", .ref Fi), (Str.ofString "names", .ref M), (Str.ofString "debts", .ref D), (Str.ofString "script", .ref S)])) (N : News g L s.heap ((L + 1 + 1 + 1 + 1 + 1, o5) :: (L + 1, o1) :: (C, listOf ws.toArray nw) :: R))
   (d1 : o1.data = .cell (some (.ref C))) (h5 : ws[5]? = some (.int c5 t5)) (d5 : o5.data = .cell none) (hR5 : ∀ p ∈ (L + 1, o1) :: (C, listOf ws.toArray nw) :: R, p.1 ≠ L + 1 + 1 + 1 + 1 + 1) (hd : dp + 30 < recursionLimit) (hu : un + 400 < cLine)
   (next : ∀ h' tk' (o5' : Obj) te, Fr g L h' (mp [(Str.ofString "total", .int ((c0 + c1 + c2 : Nat) : Int) tt), (Str.ofString "told", .ref Td), (Str.ofString "first", .ref Fi), (Str.ofString "names", .ref M), (Str.ofString "debts", .ref D), (Str.ofString "script", .ref S)]) → News g L h' ((L + 1 + 1 + 1 + 1 + 1, o5') :: (L + 1, o1) :: (C, listOf ws.toArray nw) :: R) → o5'.data = .cell (some (.int (c5.fmod (((c0 + c1 + c2) / 6 + 1 : Nat) : Int) * 6) te)) →  wpAny (model prg w) (Ar dp fr gd un) (execs (lawRest 12) (lawEnv L)) Q Fls { s with heap := h', toks := tk' }) :
   wpAny (model prg w) (Ar dp fr gd un) (execs (lawRest 11) (lawEnv L)) Q Fls s := by
  have X := Wg.X
  obtain ⟨p9, l9, T⟩ := Wg.T
  with_unfolding_all show wpAny _ _ (execs (_ :: lawRest 12) (envOfC (Str.ofString "law") _ L 305 (.ref 304))) _ _ _
  w_on
  have hfd : ((c0 + c1 + c2 : Nat) : Int).fdiv 6 = (((c0 + c1 + c2) / 6 : Nat) : Int) := by
    rw [Int.fdiv_eq_ediv_of_nonneg _ (by decide)]; omega
  have hz : ((c0 + c1 + c2 : Nat) : Int).fdiv 6 + 1 ≠ 0 := by rw [hfd]; omega
  k_steps
  refine Stop.go ?_
  refine my_item (News.isList N (.tail _ (.tail _ (.head _)))) (by decide) (by decide) h5 ?_
  have key : ∀ (o : Obj) t, o.data = .cell (some (.int (c5.fmod (((c0 + c1 + c2 : Nat) : Int).fdiv 6 + 1) * 6) t)) → o.data = .cell (some (.int (c5.fmod (((c0 + c1 + c2) / 6 + 1 : Nat) : Int) * 6) t)) := by
    intro o t h
    rw [h, hfd]; rfl
  k_steps
  rename Fr _ _ _ _ => F8
  rename News _ _ _ _ => N8
  exact next _ _ _ _ F8 N8 (key _ _ (by assumption))
end
section
set_option maxHeartbeats 4000000
open PySem PySem.W PySem.Calls PyProof.Rows
theorem fillL12 : PySem.Challenge.rw_uc0030_01 = PySem.Challenge.rw_uc0030_01 ∧ Mine.hd.heap_1 = Mine.hd.heap_1 := by k_fill; exact ⟨rfl, rfl⟩
theorem left_wp {w : World} {mean : ExcName → Option Value} {mg mb : Str → Option Value} {A : Around} {s : Shared} {Q E : Value → Shared → Prop} {h₀ : Heap} {L : Addr} {m : Str → Option Value} {news : List (Addr × Obj)}
   (hA : A.handled = none) (W : Wd w mean mg mb h₀) (F : Fr h₀ L s.heap m) (N : News h₀ L s.heap news) (hd : A.depth + 4 < recursionLimit) (hu : A.units + 20 < cLine) {e : Nat} {sm : Int} {l : Addr} {c0 c1 c2 : Nat} {t0 t1 t2 u1 u2 : Tok} {n : Nat} (he : e < 500) (hc0 : c0 < 500) (hc1 : c1 < 500) (hc2 : c2 < 500) (h0 : 0 ≤ sm) (h3 : sm < 8)
   (hm : (l, listOf #[.str (spc c0) t0, .str (spc c1) t1, .str (spc c2) t2] n) ∈ news)
   (hQ : ∀ h' tk' t', Fr h₀ L h' m → News h₀ L h' news → Q (.int (lft e (pk3 c0 c1 c2) sm 3 : Nat) t') { s with heap := h', toks := tk' }) :
   wpAny (model prg w) A (call (.ref 248) [.int e u1, .ref l, .int sm u2]) Q E s := by
  rw [ar_of hA]
  exact call_of (left_call W F.keep hd hu e sm l c0 c1 c2 t0 t1 t2 u1 u2 n he hc0 hc1 hc2 h0 h3 (N _ hm).1 (N _ hm).2.2 fun h' tk' t' kp => hQ h' tk' t' (Fr.keeps F kp) (News.grown N kp))
theorem st12 {w : World} {mean : ExcName → Option Value} {mg mb : Str → Option Value} {dp un : Nat} {fr : Option (List Env)} {gd : Option (List Code)} {s : Shared} {Q : Flow → Shared → Prop} {g : Heap} {L S : Addr} {R : List (Addr × Obj)} (Wg : Wd w mean mg mb g) (D M Fi Td : Addr) (c0 c1 c2 : Nat) (tt : Tok) (l : Addr) (o3 : Obj) (a0 a1 a2 : Tok) (nl : Nat) (e : Nat) (te : Tok) (o5 : Obj)
   (F : Fr g L s.heap (mp [(Str.ofString "total", .int ((c0 + c1 + c2 : Nat) : Int) tt), (Str.ofString "told", .ref Td), (Str.ofString "first", .ref Fi), (Str.ofString "names", .ref M), (Str.ofString "debts", .ref D), (Str.ofString "script", .ref S)])) (N : News g L s.heap ((L + 1 + 1 + 1 + 1 + 1, o5) :: (L + 1 + 1 + 1, o3) :: (l, listOf #[.str (spc c0) a0, .str (spc c1) a1, .str (spc c2) a2] nl) :: R))
   (d5 : o5.data = .cell (some (.int (e : Int) te))) (he : e ≤ 360) (d3 : o3.data = .cell (some (.ref l))) (hc0 : c0 ≤ 120) (hc1 : c1 ≤ 120) (hc2 : c2 ≤ 120) (hd : dp + 30 < recursionLimit) (hu : un + 400 < cLine)
   (next : ∀ h' tk' (lf : Addr) (vs : List Value) nf, Fr g L h' (mp [(Str.ofString "left", .ref lf), (Str.ofString "total", .int ((c0 + c1 + c2 : Nat) : Int) tt), (Str.ofString "told", .ref Td), (Str.ofString "first", .ref Fi), (Str.ofString "names", .ref M), (Str.ofString "debts", .ref D), (Str.ofString "script", .ref S)]) → News g L h' ((lf, listOf vs.toArray nf) :: (L + 1 + 1 + 1 + 1 + 1, o5) :: (L + 1 + 1 + 1, o3) :: (l, listOf #[.str (spc c0) a0, .str (spc c1) a1, .str (spc c2) a2] nl) :: R) → vs.length = 7 → (∀ i, i < 7 → ∃ t, vs[i]? = some (.int (lft e (pk3 c0 c1 c2) (i : Int) 3 : Nat) t)) →  wpAny (model prg w) (Ar dp fr gd un) (execs (lawRest 13) (lawEnv L)) Q Fls { s with heap := h', toks := tk' }) :
   wpAny (model prg w) (Ar dp fr gd un) (execs (lawRest 12) (lawEnv L)) Q Fls s := by
  have X := Wg.X
  obtain ⟨p9, l9, T⟩ := Wg.T
  with_unfolding_all show wpAny _ _ (execs (_ :: lawRest 13) (envOfC (Str.ofString "law") _ L 305 (.ref 304))) _ _ _
  w_on
  k_steps
  refine Stop.go ?_
  k_dflt (refine LCg.Assign_ListComp_U (F₀ := by k_asm) (by rfl) (by with_unfolding_all rfl) (by with_unfolding_all rfl) (by decide) (by rfl) (by decide) (by rfl) (by rfl) (by rfl) ?_)
  k_steps
  refine Stop.go ?_
  rename Fr _ _ _ _ => F1
  rename News _ _ _ _ => N1
  rename IsRange _ _ _ _ _ _ _ _ => hrr
  refine LCg.CompSrc.range (n := 7) rfl F1 N1 hrr (by decide) (by decide) (by decide) ?_
  intro g'
  with_unfolding_all refine rest_inv (n := 7) (fun _ : Unit => _) (fun j ys _ => ys.length = j ∧ ∀ (i : Nat) v, ys[i]? = some v → ∃ t, v = .int (lft e (pk3 c0 c1 c2) (i : Int) 3 : Nat) t) ?turn ?fin _ 0 [] () (Nat.zero_add _) ⟨rfl, fun i p h => nomatch h⟩
  case turn =>
    rintro j ys _ v I oI C2 oC Dd m₂ h2 tk2 E' hj ⟨hj1, hj2⟩ ⟨tv, rfl⟩ hC hx F2 N2 off2 ne2
    clear F1 N1 hrr
    k_steps
    refine Stop.go ?_
    rename Fr _ _ _ _ => F1
    rename News _ _ _ _ => N1
    refine left_wp (c0 := c0) (c1 := c1) (c2 := c2) (e := e) rfl Wg F1 N1 (by k_room) (by (try simp only [units_in1, units_deeper, Around.mark_units]); (try dsimp only); omega) (by omega) (by omega) (by omega) (by omega) (by omega) (by omega) (by k_mem) fun h9 tk9 t9 F9 N9 => ?_
    clear F1 N1
    k_steps
    refine Stop.go ?_
    refine LCg.CompEnd.intro F9 N9 _ (fun _ h => h) off2 trivial ⟨(), fun _ h => h, trivial, ?_, ?_⟩
    · rw [List.length_append, List.length_singleton, hj1]
    · refine at_snoc (Q := fun (i : Nat) (v : Value) => ∃ t, v = .int (lft e (pk3 c0 c1 c2) (i : Int) 3 : Nat) t) hj2 ⟨t9, ?_⟩
      rw [hj1, Int.zero_add]
  case fin =>
    rintro ys _ ⟨hj1, hj2⟩
    clear F1 N1 hrr
    unfold LCg.FinA
    intro Dl h9 tk9 F9 N9 o9
    refine next h9 tk9 Dl ys _ (frc F9 (by ktn_open)) N9 hj1 fun k hk => ?_
    obtain ⟨v, hv⟩ : ∃ v, ys[k]? = some v := ⟨_, List.getElem?_eq_getElem (by rw [hj1]; exact hk)⟩
    obtain ⟨t, e⟩ := hj2 k v hv
    exact ⟨t, by rw [hv, e]⟩
end
section
set_option maxHeartbeats 4000000
open PySem PySem.W PySem.Calls PyProof.Rows
theorem fillL13 : PySem.Challenge.rw_uc0030_01 = PySem.Challenge.rw_uc0030_01 ∧ Mine.hd.heap_1 = Mine.hd.heap_1 := by k_fill; exact ⟨rfl, rfl⟩
noncomputable def lowF (e T : Nat) : Int := if ((T : Nat) : Int) - (e : Int) < (e : Int) then ((T : Nat) : Int) - (e : Int) else (e : Int)
theorem levels_wp {w : World} {mean : ExcName → Option Value} {mg mb : Str → Option Value} {A : Around} {s : Shared} {Q E : Value → Shared → Prop} {h₀ : Heap} (hA : A.handled = none) (W : Wd w mean mg mb h₀) (kB : Kp h₀ s.heap)
   (hd : A.depth + 12 < recursionLimit) (hu : A.units + 80 < cLine) (l : Addr) (c0 c1 c2 low : Int) (t0 t1 t2 u2 : Tok) (n : Nat) (hc0 : 0 ≤ c0 ∧ c0 < 200) (hc1 : 0 ≤ c1 ∧ c1 < 200) (hc2 : 0 ≤ c2 ∧ c2 < 200) (he : 0 ≤ low ∧ low < 600)
   (hl : s.heap.get? l = some (listOf #[.int c0 t0, .int c1 t1, .int c2 t2] n)) (hlB : h₀.get? l = none) (ht : s.heap.get? 250 = some (tabObj #[])) (htB : h₀.get? 250 = none)
   (hQ : ∀ h' tk' D v0 v1 n' tab (lv ab : Nat), (∀ b o, b ≠ 250 → s.heap.get? b = some o → h'.get? b = some o) → h'.get? 250 = some (tabObj tab) → h'.get? D = some (listOf #[.int lv v0, .int ab v1] n') → s.heap.get? D = none →
     (lv : Int) ≤ c0 + c1 + c2 + 1 → (∀ i : Nat, i < lv → kap c0 c1 c2 i < low) → (∀ i : Nat, lv ≤ i → (i : Int) < c0 + c1 + c2 + 1 → low ≤ kap c0 c1 c2 i) →
     (ab : Int) ≤ c0 + c1 + c2 + 1 → (∀ i : Nat, i < ab → kap c0 c1 c2 i ≤ low) → (∀ i : Nat, ab ≤ i → (i : Int) < c0 + c1 + c2 + 1 → low < kap c0 c1 c2 i) → Q (.ref D) { s with heap := h', toks := tk' }) :
   wpAny (model prg w) A (call (.ref 255) [.ref l, .int low u2]) Q E s := by
  rw [ar_of hA]
  exact call_of (levels_call W kB hd hu l c0 c1 c2 low t0 t1 t2 u2 n hc0 hc1 hc2 he hl hlB ht htB hQ)
theorem st13 {w : World} {mean : ExcName → Option Value} {mg mb : Str → Option Value} {dp un : Nat} {fr : Option (List Env)} {gd : Option (List Code)} {s : Shared} {Q : Flow → Shared → Prop} {g : Heap} {L S : Addr} {R : List (Addr × Obj)} (Wg : Wd w mean mg mb g) (D M Fi Td lf q : Addr) (o4 : Obj) (c0 c1 c2 nq : Nat) (t0 t1 t2 tt : Tok) (e : Nat) (te : Tok) (o5 : Obj)
   (F : Fr g L s.heap (mp [(Str.ofString "left", .ref lf), (Str.ofString "total", .int ((c0 + c1 + c2 : Nat) : Int) tt), (Str.ofString "told", .ref Td), (Str.ofString "first", .ref Fi), (Str.ofString "names", .ref M), (Str.ofString "debts", .ref D), (Str.ofString "script", .ref S)])) (N : News g L s.heap (((250 : Nat), tabObj #[]) :: (L + 1 + 1 + 1 + 1 + 1, o5) :: (L + 1 + 1 + 1 + 1, o4) :: (q, listOf #[.int (c0 : Int) t0, .int (c1 : Int) t1, .int (c2 : Int) t2] nq) :: R))
   (d5 : o5.data = .cell (some (.int (e : Int) te))) (he : e ≤ 360) (d4 : o4.data = .cell (some (.ref q))) (hle : e ≤ c0 + c1 + c2) (hR2 : ∀ p ∈ (L + 1 + 1 + 1 + 1 + 1, o5) :: (L + 1 + 1 + 1 + 1, o4) :: (q, listOf #[.int (c0 : Int) t0, .int (c1 : Int) t1, .int (c2 : Int) t2] nq) :: R, p.1 ≠ 250) (hc0 : c0 ≤ 120) (hc1 : c1 ≤ 120) (hc2 : c2 ≤ 120) (hd : dp + 30 < recursionLimit) (hu : un + 400 < cLine)
   (next : ∀ h' tk' (lv ab : Nat) (v0 v1 : Tok) (tab : Array Value), Fr g L h' (mp [(Str.ofString "above", .int (ab : Nat) v1), (Str.ofString "level", .int (lv : Nat) v0), (Str.ofString "left", .ref lf), (Str.ofString "total", .int ((c0 + c1 + c2 : Nat) : Int) tt), (Str.ofString "told", .ref Td), (Str.ofString "first", .ref Fi), (Str.ofString "names", .ref M), (Str.ofString "debts", .ref D), (Str.ofString "script", .ref S)]) → News g L h' (((250 : Nat), tabObj tab) :: (L + 1 + 1 + 1 + 1 + 1, o5) :: (L + 1 + 1 + 1 + 1, o4) :: (q, listOf #[.int (c0 : Int) t0, .int (c1 : Int) t1, .int (c2 : Int) t2] nq) :: R) → (lv : Int) ≤ c0 + c1 + c2 + 1 → (∀ i : Nat, i < lv → kap c0 c1 c2 i < lowF e (c0 + c1 + c2)) → (∀ i : Nat, lv ≤ i → (i : Int) < c0 + c1 + c2 + 1 → lowF e (c0 + c1 + c2) ≤ kap c0 c1 c2 i) → (ab : Int) ≤ c0 + c1 + c2 + 1 → (∀ i : Nat, i < ab → kap c0 c1 c2 i ≤ lowF e (c0 + c1 + c2)) → (∀ i : Nat, ab ≤ i → (i : Int) < c0 + c1 + c2 + 1 → lowF e (c0 + c1 + c2) < kap c0 c1 c2 i) →  wpAny (model prg w) (Ar dp fr gd un) (execs (lawRest 14) (lawEnv L)) Q Fls { s with heap := h', toks := tk' }) :
   wpAny (model prg w) (Ar dp fr gd un) (execs (lawRest 13) (lawEnv L)) Q Fls s := by
  have X := Wg.X
  obtain ⟨p9, l9, T⟩ := Wg.T
  with_unfolding_all show wpAny _ _ (execs (_ :: lawRest 14) (envOfC (Str.ofString "law") _ L 305 (.ref 304))) _ _ _
  w_on
  k_steps
  refine Stop.go ?_
  rename Fr _ _ _ _ => F1
  rename News _ _ _ _ => N1
  have zq := N1 (q, listOf #[.int (c0 : Int) t0, .int (c1 : Int) t1, .int (c2 : Int) t2] nq) (by k_mem)
  have zt := N1 ((250 : Nat), tabObj #[]) (.head _)
  have hlw : 0 ≤ lowF e (c0 + c1 + c2) ∧ lowF e (c0 + c1 + c2) < 600 := by unfold lowF; split <;> omega
  refine levels_wp rfl Wg ?kB (by k_room) (by (try simp only [units_in1, units_deeper, Around.mark_units]); (try dsimp only); omega) q c0 c1 c2 (lowF e (c0 + c1 + c2)) t0 t1 t2 _ nq (by omega) (by omega) (by omega) hlw zq.1 zq.2.2 zt.1 zt.2.2 fun h7 tk7 D7 v0 v1 n7 tab lv ab k7 g2 gD fD h1 h2 h3 h4 h5 h6 => ?_
  case kB => exact F1.keep
  have oD := new_off F1 fD
  have F7 := LCg.fr_but F1 (h' := h7) (I := (250 : Nat)) (fun b o hb e => k7 b o (by simpa using hb) e) (Ne.symm zt.2.1) zt.2.2
  have N7 : News g L h7 ((D7, listOf #[.int lv v0, .int ab v1] n7) :: ((250 : Nat), tabObj tab) :: (L + 1 + 1 + 1 + 1 + 1, o5) :: (L + 1 + 1 + 1 + 1, o4) :: (q, listOf #[.int (c0 : Int) t0, .int (c1 : Int) t1, .int (c2 : Int) t2] nq) :: R) := List.forall_mem_cons.mpr ⟨⟨gD, oD⟩, List.forall_mem_cons.mpr ⟨⟨g2, zt.2⟩, fun p hp => ⟨k7 _ _ (hR2 p hp) (N1 p (.tail _ hp)).1, (N1 p (.tail _ hp)).2⟩⟩⟩
  clear F1 N1
  k_steps
  rename Fr _ _ _ _ => F8
  rename News _ _ _ _ => N8
  exact next _ _ lv ab v0 v1 tab (frc F8 (by ktn_open)) (fun p hp => N8 p (.tail _ hp)) h1 h2 h3 h4 h5 h6
end
section
set_option maxHeartbeats 4000000
open PySem PySem.W PySem.Calls PyProof.Rows
theorem fillL14 : PySem.Challenge.rw_uc0030_01 = PySem.Challenge.rw_uc0030_01 ∧ Mine.hd.heap_1 = Mine.hd.heap_1 := by k_fill; exact ⟨rfl, rfl⟩
theorem shares_wp {w : World} {mean : ExcName → Option Value} {mg mb : Str → Option Value} {A : Around} {s : Shared} {Q E : Value → Shared → Prop} {h₀ : Heap} (hA : A.handled = none) (W : Wd w mean mg mb h₀) (kB : Kp h₀ s.heap)
   (hd : A.depth + 4 < recursionLimit) (hu : A.units + 20 < cLine) (l : Addr) (c0 c1 c2 e lv : Int) (t0 t1 t2 u1 u2 : Tok) (n : Nat) (hc0 : 0 ≤ c0 ∧ c0 < 1000) (hc1 : 0 ≤ c1 ∧ c1 < 1000) (hc2 : 0 ≤ c2 ∧ c2 < 1000) (he : 0 ≤ e ∧ e < 1000) (hv : 0 ≤ lv ∧ lv < 1000)
   (hl : s.heap.get? l = some (listOf #[.int c0 t0, .int c1 t1, .int c2 t2] n)) (hlB : h₀.get? l = none)
   (hQ : ∀ h' tk' D v0 v1 v2 n', Kp s.heap h' → h'.get? D = some (listOf #[.int (shF (c0 + c1 + c2) e c0 lv) v0, .int (shF (c0 + c1 + c2) e c1 lv) v1, .int (shF (c0 + c1 + c2) e c2 lv) v2] n') → s.heap.get? D = none → Q (.ref D) { s with heap := h', toks := tk' }) :
   wpAny (model prg w) A (call (.ref 260) [.ref l, .int e u1, .int lv u2]) Q E s := by
  rw [ar_of hA]
  exact call_of (shares_call W kB hd hu l c0 c1 c2 e lv t0 t1 t2 u1 u2 n hc0 hc1 hc2 he hv hl hlB hQ)
theorem st14 {w : World} {mean : ExcName → Option Value} {mg mb : Str → Option Value} {dp un : Nat} {fr : Option (List Env)} {gd : Option (List Code)} {s : Shared} {Q : Flow → Shared → Prop} {g : Heap} {L S : Addr} {R : List (Addr × Obj)} (Wg : Wd w mean mg mb g) (D M Fi Td lf q : Addr) (o4 o6 : Obj) (c0 c1 c2 nq lv ab : Nat) (t0 t1 t2 tt v0 v1 : Tok) (e : Nat) (te : Tok) (o5 : Obj)
   (F : Fr g L s.heap (mp [(Str.ofString "above", .int (ab : Nat) v1), (Str.ofString "level", .int (lv : Nat) v0), (Str.ofString "left", .ref lf), (Str.ofString "total", .int ((c0 + c1 + c2 : Nat) : Int) tt), (Str.ofString "told", .ref Td), (Str.ofString "first", .ref Fi), (Str.ofString "names", .ref M), (Str.ofString "debts", .ref D), (Str.ofString "script", .ref S)])) (N : News g L s.heap ((L + 1 + 1 + 1 + 1 + 1 + 1, o6) :: (L + 1 + 1 + 1 + 1 + 1, o5) :: (L + 1 + 1 + 1 + 1, o4) :: (q, listOf #[.int (c0 : Int) t0, .int (c1 : Int) t1, .int (c2 : Int) t2] nq) :: R))
   (d5 : o5.data = .cell (some (.int (e : Int) te))) (he : e ≤ 360) (d4 : o4.data = .cell (some (.ref q))) (d6 : o6.data = .cell none) (hlv : lv < 1000) (hR6 : ∀ p ∈ (L + 1 + 1 + 1 + 1 + 1, o5) :: (L + 1 + 1 + 1 + 1, o4) :: (q, listOf #[.int (c0 : Int) t0, .int (c1 : Int) t1, .int (c2 : Int) t2] nq) :: R, p.1 ≠ L + 1 + 1 + 1 + 1 + 1 + 1) (hc0 : c0 ≤ 120) (hc1 : c1 ≤ 120) (hc2 : c2 ≤ 120) (hd : dp + 30 < recursionLimit) (hu : un + 400 < cLine)
   (next : ∀ h' tk' (o6' : Obj) (r : Addr) (w0 w1 w2 : Tok) (nr : Nat), Fr g L h' (mp [(Str.ofString "above", .int (ab : Nat) v1), (Str.ofString "level", .int (lv : Nat) v0), (Str.ofString "left", .ref lf), (Str.ofString "total", .int ((c0 + c1 + c2 : Nat) : Int) tt), (Str.ofString "told", .ref Td), (Str.ofString "first", .ref Fi), (Str.ofString "names", .ref M), (Str.ofString "debts", .ref D), (Str.ofString "script", .ref S)]) → News g L h' ((L + 1 + 1 + 1 + 1 + 1 + 1, o6') :: (r, listOf #[.int (shF ((c0 : Int) + c1 + c2) e c0 (lv : Nat)) w0, .int (shF ((c0 : Int) + c1 + c2) e c1 (lv : Nat)) w1, .int (shF ((c0 : Int) + c1 + c2) e c2 (lv : Nat)) w2] nr) :: (L + 1 + 1 + 1 + 1 + 1, o5) :: (L + 1 + 1 + 1 + 1, o4) :: (q, listOf #[.int (c0 : Int) t0, .int (c1 : Int) t1, .int (c2 : Int) t2] nq) :: R) → o6'.data = .cell (some (.ref r)) →  wpAny (model prg w) (Ar dp fr gd un) (execs (lawRest 15) (lawEnv L)) Q Fls { s with heap := h', toks := tk' }) :
   wpAny (model prg w) (Ar dp fr gd un) (execs (lawRest 14) (lawEnv L)) Q Fls s := by
  have X := Wg.X
  obtain ⟨p9, l9, T⟩ := Wg.T
  with_unfolding_all show wpAny _ _ (execs (_ :: lawRest 15) (envOfC (Str.ofString "law") _ L 305 (.ref 304))) _ _ _
  w_on
  k_steps
  refine Stop.go ?_
  have zq := N (q, listOf #[.int (c0 : Int) t0, .int (c1 : Int) t1, .int (c2 : Int) t2] nq) (by k_mem)
  refine shares_wp rfl Wg ?kB (by k_room) (by (try simp only [units_in1, units_deeper, Around.mark_units]); (try dsimp only); omega) q c0 c1 c2 e (lv : Nat) t0 t1 t2 _ _ nq (by omega) (by omega) (by omega) (by omega) (by omega) zq.1 zq.2.2 fun h7 tk7 D7 w0 w1 w2 n7 k7 gD fD => ?_
  case kB => exact F.keep
  have oD := new_off F fD
  have F7 := Fr.keeps F k7
  have n1 : D7 ≠ L + 1 + 1 + 1 + 1 + 1 + 1 := fun q => by
    have z := (N (L + 1 + 1 + 1 + 1 + 1 + 1, o6) (.head _)).1
    rw [← show D7 = L + 1 + 1 + 1 + 1 + 1 + 1 from q, show s.heap.get? D7 = none from fD] at z; cases z
  have N7 : News g L h7 ((D7, listOf #[.int (shF ((c0 : Int) + c1 + c2) e c0 (lv : Nat)) w0, .int (shF ((c0 : Int) + c1 + c2) e c1 (lv : Nat)) w1, .int (shF ((c0 : Int) + c1 + c2) e c2 (lv : Nat)) w2] n7) :: (L + 1 + 1 + 1 + 1 + 1 + 1, o6) :: (L + 1 + 1 + 1 + 1 + 1, o5) :: (L + 1 + 1 + 1 + 1, o4) :: (q, listOf #[.int (c0 : Int) t0, .int (c1 : Int) t1, .int (c2 : Int) t2] nq) :: R) := List.forall_mem_cons.mpr ⟨⟨gD, oD⟩, News.grown N k7⟩
  clear F N
  k_steps
  rename Fr _ _ _ _ => F8
  rename News _ _ _ _ => N8
  exact next _ _ _ D7 w0 w1 w2 n7 F8 (List.forall_mem_cons.mpr ⟨N8 _ (.tail _ (.head _)), List.forall_mem_cons.mpr ⟨N8 _ (.head _), List.forall_mem_cons.mpr ⟨N8 _ (.tail _ (.tail _ (.head _))), List.forall_mem_cons.mpr ⟨N8 _ (.tail _ (.tail _ (.tail _ (.head _)))), List.forall_mem_cons.mpr ⟨N8 _ (.tail _ (.tail _ (.tail _ (.tail _ (.head _))))), fun p hp => N8 _ (.tail _ (.tail _ (.tail _ (.tail _ (.tail _ (hp))))))⟩⟩⟩⟩⟩) (by assumption)
end
section
set_option maxHeartbeats 4000000
open PySem PySem.W PySem.Calls PyProof.Rows
theorem fillL15 : PySem.Challenge.rw_uc0030_01 = PySem.Challenge.rw_uc0030_01 ∧ Mine.hd.heap_1 = Mine.hd.heap_1 := by k_fill; exact ⟨rfl, rfl⟩
theorem max_says {c0 c1 c2 : Nat} {M : Int} (hM : M = (c0 : Int) ∨ M = (c1 : Int) ∨ M = (c2 : Int)) (hb : (c0 : Int) ≤ M ∧ (c1 : Int) ≤ M ∧ (c2 : Int) ≤ M) : M = ((max c0 (max c1 c2) : Nat) : Int) := by
  rcases hM with rfl | rfl | rfl
  · rw [Nat.max_eq_left (Nat.max_le.mpr ⟨Int.ofNat_le.mp hb.2.1, Int.ofNat_le.mp hb.2.2⟩)]
  · rw [Nat.max_left_comm, Nat.max_eq_left (Nat.max_le.mpr ⟨Int.ofNat_le.mp hb.1, Int.ofNat_le.mp hb.2.2⟩)]
  · rw [Nat.max_comm c1, Nat.max_left_comm, Nat.max_eq_left (Nat.max_le.mpr ⟨Int.ofNat_le.mp hb.1, Int.ofNat_le.mp hb.2.1⟩)]
theorem st15 {w : World} {mean : ExcName → Option Value} {mg mb : Str → Option Value} {dp un : Nat} {fr : Option (List Env)} {gd : Option (List Code)} {s : Shared} {Q : Flow → Shared → Prop} {g : Heap} {L S : Addr} {R : List (Addr × Obj)} (Wg : Wd w mean mg mb g) (D M Fi Td lf q : Addr) (o4 : Obj) (c0 c1 c2 nq lv ab : Nat) (t0 t1 t2 tt v0 v1 : Tok) (e : Nat) (te : Tok) (o5 : Obj)
   (F : Fr g L s.heap (mp [(Str.ofString "above", .int (ab : Nat) v1), (Str.ofString "level", .int (lv : Nat) v0), (Str.ofString "left", .ref lf), (Str.ofString "total", .int ((c0 + c1 + c2 : Nat) : Int) tt), (Str.ofString "told", .ref Td), (Str.ofString "first", .ref Fi), (Str.ofString "names", .ref M), (Str.ofString "debts", .ref D), (Str.ofString "script", .ref S)])) (N : News g L s.heap ((L + 1 + 1 + 1 + 1 + 1, o5) :: (L + 1 + 1 + 1 + 1, o4) :: (q, listOf #[.int (c0 : Int) t0, .int (c1 : Int) t1, .int (c2 : Int) t2] nq) :: R))
   (d5 : o5.data = .cell (some (.int (e : Int) te))) (he : e ≤ 360) (d4 : o4.data = .cell (some (.ref q))) (hlv : lv < 1000) (hc0 : c0 ≤ 120) (hc1 : c1 ≤ 120) (hc2 : c2 ≤ 120) (hd : dp + 30 < recursionLimit) (hu : un + 400 < cLine)
   (next : ∀ h' tk' (ft : Addr) (fx fy : Int) (w0 w1 : Tok) (nr : Nat), Fr g L h' (mp [(Str.ofString "fits", .ref ft), (Str.ofString "above", .int (ab : Nat) v1), (Str.ofString "level", .int (lv : Nat) v0), (Str.ofString "left", .ref lf), (Str.ofString "total", .int ((c0 + c1 + c2 : Nat) : Int) tt), (Str.ofString "told", .ref Td), (Str.ofString "first", .ref Fi), (Str.ofString "names", .ref M), (Str.ofString "debts", .ref D), (Str.ofString "script", .ref S)]) → News g L h' ((ft, listOf #[.int fx w0, .int fy w1] nr) :: (L + 1 + 1 + 1 + 1 + 1, o5) :: (L + 1 + 1 + 1 + 1, o4) :: (q, listOf #[.int (c0 : Int) t0, .int (c1 : Int) t1, .int (c2 : Int) t2] nq) :: R) → (2 * e = c0 + c1 + c2 → fx = ((max c0 (max c1 c2) / 2 : Nat) : Int) ∧ fy = ((c0 + c1 + c2 + 1 : Nat) : Int)) → (2 * e ≠ c0 + c1 + c2 → fx = (lv : Int) ∧ fy = (lv : Int) + 1) →  wpAny (model prg w) (Ar dp fr gd un) (execs (lawRest 16) (lawEnv L)) Q Fls { s with heap := h', toks := tk' }) :
   wpAny (model prg w) (Ar dp fr gd un) (execs (lawRest 15) (lawEnv L)) Q Fls s := by
  have X := Wg.X
  obtain ⟨p9, l9, T⟩ := Wg.T
  with_unfolding_all show wpAny _ _ (execs (_ :: lawRest 16) (envOfC (Str.ofString "law") _ L 305 (.ref 304))) _ _ _
  w_on
  have hI : IntsAre [.int (c0 : Int) t0, .int (c1 : Int) t1, .int (c2 : Int) t2] [(c0 : Int), (c1 : Int), (c2 : Int)] := .cons _ _ (.cons _ _ (.cons _ _ .nil))
  k_steps
  · rename Fr _ _ _ _ => F8
    rename News _ _ _ _ => N8
    rename ((2 : Int) * (e : Int) = _) => he1
    rename (_ = (c0 : Int) ∨ _ ∨ _) => hM
    rename ((c0 : Int) ≤ _ ∧ _ ∧ _) => hb
    refine next _ _ _ _ _ _ _ _ (frc F8 (by ktn_open)) N8 (fun _ => ⟨?_, by omega⟩) (fun h => absurd ?_ h)
    · rw [Int.fdiv_eq_ediv_of_nonneg _ (by decide), max_says hM hb]; rfl
    · clear F8 N8 next
      omega
  · rename Fr _ _ _ _ => F8
    rename News _ _ _ _ => N8
    rename ((2 : Int) * (e : Int) ≠ _) => he1
    refine next _ _ _ _ _ _ _ _ (frc F8 (by ktn_open)) N8 (fun h => absurd ?_ he1) (fun _ => ⟨rfl, rfl⟩)
    clear F8 N8 next
    omega
end
section
set_option maxHeartbeats 4000000
open PySem PySem.W PySem.Calls PyProof.Rows
theorem fillL16 : PySem.Challenge.rw_uc0030_01 = PySem.Challenge.rw_uc0030_01 ∧ Mine.hd.heap_1 = Mine.hd.heap_1 := by k_fill; exact ⟨rfl, rfl⟩
local macro_rules | `(tactic| walk_at $k:str) => if ["binaryOp Add ref ref"].contains k.getString then `(tactic| refine stop_of ?_) else Lean.Macro.throwUnsupported
theorem ne_lists {h : Heap} {l r : Addr} {a : Str} {b : Int} {t u : Tok} {x y : List Value} {n m : Nat} (h1 : h.get? l = some (listOf (List.toArray (.str a t :: x)) n)) (h2 : h.get? r = some (listOf (List.toArray (.int b u :: y)) m)) : @Ne Nat l r := by
  intro q
  have q : l = r := q
  subst q
  rw [h1] at h2
  injection h2 with h2
  injection h2 with _ _ h3
  injection h3 with h4
  have := congrArg (fun z : Array Value => z.toList.head?) h4
  simp at this
theorem pk3_lt {c0 c1 c2 B : Nat} (h0 : c0 < B) (h1 : c1 < B) (h2 : c2 < B) : ∀ i, pk3 c0 c1 c2 i < B := by
  intro i
  unfold pk3
  repeat' split
  all_goals assumption
theorem pk3_str {c0 c1 c2 : Nat} (a0 a1 a2 : Tok) : ∀ i, i < 3 → ∃ t, [Value.str (spc c0) a0, .str (spc c1) a1, .str (spc c2) a2][i]? = some (.str (spc (pk3 c0 c1 c2 i)) t)
  | 0, _ => ⟨a0, rfl⟩
  | 1, _ => ⟨a1, rfl⟩
  | 2, _ => ⟨a2, rfl⟩
theorem pk3_int {c0 c1 c2 : Nat} (a0 a1 a2 : Tok) : ∀ i, i < 3 → ∃ t, [Value.int (c0 : Nat) a0, .int (c1 : Nat) a1, .int (c2 : Nat) a2][i]? = some (.int (pk3 c0 c1 c2 i : Nat) t)
  | 0, _ => ⟨a0, rfl⟩
  | 1, _ => ⟨a1, rfl⟩
  | 2, _ => ⟨a2, rfl⟩
theorem dint {news : List (Addr × Obj)} {i j : Int} {t : Tok} (h : i = j) : DatIn news (.int i t) (.int j) := h ▸ .int i t
theorem garments_wp {w : World} {mean : ExcName → Option Value} {mg mb : Str → Option Value} {A : Around} {s : Shared} {Q E : Value → Shared → Prop} {h₀ : Heap} (hA : A.handled = none) (W : Wd w mean mg mb h₀) (kB : Kp h₀ s.heap)
   (hd : A.depth + 8 < recursionLimit) (hu : A.units + 120 < cLine) (l r : Addr) (vs ws : List Value) (n nr : Nat) (c σ : Nat → Nat) (hT : ∀ i, i < 3 → ∃ t, vs[i]? = some (.str (spc (c i)) t)) (hS : ∀ i, i < 3 → ∃ t, ws[i]? = some (.int (σ i : Nat) t)) (hc : ∀ i, c i < 200) (hσ : ∀ i, σ i < 200)
   (hg : ∀ i j, j < i → i < 3 → 2 * σ i = min (c i) (σ i + σ j) + min (c i) (σ i + σ j - min (c j) (σ i + σ j)) ∧ 2 * σ j = min (c j) (σ i + σ j - min (c i) (σ i + σ j)) + min (c j) (σ i + σ j))
   (hl : s.heap.get? l = some (listOf vs.toArray n)) (hlB : h₀.get? l = none) (hr : s.heap.get? r = some (listOf ws.toArray nr)) (hrB : h₀.get? r = none) (hlr : @Ne Nat l r)
   (hQ : ∀ h' tk', Kp s.heap h' → Q (.bool true) { s with heap := h', toks := tk' }) :
   wpAny (model prg w) A (call (.ref 274) [.ref l, .ref r]) Q E s := by
  rw [ar_of hA]
  exact call_of (garments_call W kB hd hu l r vs ws n nr c σ hT hS hc hσ hg hl hlB hr hrB hlr hQ)
theorem st16 {w : World} {mean : ExcName → Option Value} {mg mb : Str → Option Value} {dp un : Nat} {fr : Option (List Env)} {gd : Option (List Code)} {s : Shared} {Q : Flow → Shared → Prop} {g : Heap} {L S : Addr} {R : List (Addr × Obj)} (Wg : Wd w mean mg mb g) (D M Fi Td lf ft : Addr) (vs : List Value) (nf nt : Nat) (fx fy : Int) (x0 x1 : Tok) (c0 c1 c2 lv ab : Nat) (tt v0 v1 : Tok) (l : Addr) (o3 : Obj) (a0 a1 a2 : Tok) (nl : Nat) (e : Nat) (te : Tok) (o5 : Obj) (r : Addr) (o6 : Obj) (s0 s1 s2 : Nat) (w0 w1 w2 : Tok) (nr : Nat)
   (F : Fr g L s.heap (mp [(Str.ofString "fits", .ref ft), (Str.ofString "above", .int (ab : Nat) v1), (Str.ofString "level", .int (lv : Nat) v0), (Str.ofString "left", .ref lf), (Str.ofString "total", .int ((c0 + c1 + c2 : Nat) : Int) tt), (Str.ofString "told", .ref Td), (Str.ofString "first", .ref Fi), (Str.ofString "names", .ref M), (Str.ofString "debts", .ref D), (Str.ofString "script", .ref S)])) (N : News g L s.heap ((lf, listOf vs.toArray nf) :: (ft, listOf #[.int fx x0, .int fy x1] nt) :: (L + 1 + 1 + 1 + 1 + 1 + 1, o6) :: (r, listOf #[.int (s0 : Nat) w0, .int (s1 : Nat) w1, .int (s2 : Nat) w2] nr) :: (L + 1 + 1 + 1 + 1 + 1, o5) :: (L + 1 + 1 + 1, o3) :: (l, listOf #[.str (spc c0) a0, .str (spc c1) a1, .str (spc c2) a2] nl) :: R))
   (d5 : o5.data = .cell (some (.int (e : Int) te))) (he : e ≤ 360) (d3 : o3.data = .cell (some (.ref l))) (d6 : o6.data = .cell (some (.ref r))) (hs0 : s0 ≤ 120) (hs1 : s1 ≤ 120) (hs2 : s2 ≤ 120) (hc0 : c0 ≤ 120) (hc1 : c1 ≤ 120) (hc2 : c2 ≤ 120) (h70 : ∃ t, vs[0]? = some (.int 0 t)) (hsum : s0 + s1 + s2 = e) (hfx : fx = (lv : Int)) (hfy : fy = (ab : Int)) (hg : ∀ i j, j < i → i < 3 → 2 * pk3 s0 s1 s2 i = min (pk3 c0 c1 c2 i) (pk3 s0 s1 s2 i + pk3 s0 s1 s2 j) + min (pk3 c0 c1 c2 i) (pk3 s0 s1 s2 i + pk3 s0 s1 s2 j - min (pk3 c0 c1 c2 j) (pk3 s0 s1 s2 i + pk3 s0 s1 s2 j)) ∧ 2 * pk3 s0 s1 s2 j = min (pk3 c0 c1 c2 j) (pk3 s0 s1 s2 i + pk3 s0 s1 s2 j - min (pk3 c0 c1 c2 i) (pk3 s0 s1 s2 i + pk3 s0 s1 s2 j)) + min (pk3 c0 c1 c2 j) (pk3 s0 s1 s2 i + pk3 s0 s1 s2 j)) (hd : dp + 30 < recursionLimit) (hu : un + 400 < cLine)
   (next : ∀ h' tk', Fr g L h' (mp [(Str.ofString "fits", .ref ft), (Str.ofString "above", .int (ab : Nat) v1), (Str.ofString "level", .int (lv : Nat) v0), (Str.ofString "left", .ref lf), (Str.ofString "total", .int ((c0 + c1 + c2 : Nat) : Int) tt), (Str.ofString "told", .ref Td), (Str.ofString "first", .ref Fi), (Str.ofString "names", .ref M), (Str.ofString "debts", .ref D), (Str.ofString "script", .ref S)]) → News g L h' ((lf, listOf vs.toArray nf) :: (ft, listOf #[.int fx x0, .int fy x1] nt) :: (L + 1 + 1 + 1 + 1 + 1 + 1, o6) :: (r, listOf #[.int (s0 : Nat) w0, .int (s1 : Nat) w1, .int (s2 : Nat) w2] nr) :: (L + 1 + 1 + 1 + 1 + 1, o5) :: (L + 1 + 1 + 1, o3) :: (l, listOf #[.str (spc c0) a0, .str (spc c1) a1, .str (spc c2) a2] nl) :: R) →  wpAny (model prg w) (Ar dp fr gd un) (execs (lawRest 17) (lawEnv L)) Q Fls { s with heap := h', toks := tk' }) :
   wpAny (model prg w) (Ar dp fr gd un) (execs (lawRest 16) (lawEnv L)) Q Fls s := by
  have X := Wg.X
  obtain ⟨p9, l9, T⟩ := Wg.T
  with_unfolding_all show wpAny _ _ (execs (_ :: lawRest 17) (envOfC (Str.ofString "law") _ L 305 (.ref 304))) _ _ _
  w_on
  have hI : IntsAre [.int ((s0 : Nat) : Int) w0, .int ((s1 : Nat) : Int) w1, .int ((s2 : Nat) : Int) w2] [((s0 : Nat) : Int), ((s1 : Nat) : Int), ((s2 : Nat) : Int)] := .cons _ _ (.cons _ _ (.cons _ _ .nil))
  obtain ⟨t70, h70⟩ := h70
  k_steps
  refine Stop.go ?_
  refine my_item (by is_list) (by decide) (by decide) h70 ?_
  k_steps
  refine Stop.go ?_
  rename Fr _ _ _ _ => F1
  rename News _ _ _ _ => N1
  refine kmk_add_lit (zs := [_, _, _, _]) F1 N1 (News.isList N1 (.head _)) (News.isList N1 (.tail _ (.tail _ (.tail _ (.head _))))) (by rfl) (fun D5 h5 F5 N5 l5 => ?_) (size_small (by simp))
  clear F1 N1
  k_steps
  refine Stop.go ?_
  have hsum' : (s0 : Int) + ((s1 : Int) + ((s2 : Int) + 0)) = (e : Int) := by omega
  refine kqd_ne_f (n₁ := []) (n₂ := []) N5 (.tail _ (.tail _ (.head _))) rfl rfl (ds := [.int 0, .int e, .int fx, .int fy]) (.cons (dint rfl) (.cons (dint hsum') (.cons (dint hfx.symm) (.cons (dint hfy.symm) .nil)))) (fun p hp => nomatch hp) (.head _) rfl rfl (.cons (dint rfl) (.cons (dint rfl) (.cons (dint rfl) (.cons (dint rfl) .nil)))) (fun p hp => nomatch hp) (fun d hd => ?_) (by (try simp only [units_in1, units_deeper, Around.mark_units]); (try dsimp only); omega) ?_
  · simp only [List.mem_cons, List.not_mem_nil, or_false] at hd
    rcases hd with rfl | rfl | rfl | rfl <;> rfl
  k_steps
  refine Stop.go ?_
  have zl := N5 (l, listOf #[.str (spc c0) a0, .str (spc c1) a1, .str (spc c2) a2] nl) (by k_mem)
  have zr := N5 (r, listOf #[.int (s0 : Nat) w0, .int (s1 : Nat) w1, .int (s2 : Nat) w2] nr) (by k_mem)
  refine garments_wp rfl Wg ?kB (by k_room) (by (try simp only [units_in1, units_deeper, Around.mark_units]); (try dsimp only); omega) l r [.str (spc c0) a0, .str (spc c1) a1, .str (spc c2) a2] [.int (s0 : Nat) w0, .int (s1 : Nat) w1, .int (s2 : Nat) w2] nl nr (pk3 c0 c1 c2) (pk3 s0 s1 s2) (pk3_str a0 a1 a2) (pk3_int w0 w1 w2) (pk3_lt (by omega) (by omega) (by omega)) (pk3_lt (by omega) (by omega) (by omega)) hg zl.1 zl.2.2 zr.1 zr.2.2 (ne_lists zl.1 zr.1) fun h7 tk7 k7 => ?_
  case kB => exact F5.keep
  have F7 := Fr.keeps F5 k7
  have N7 := News.grown N5 k7
  clear F5 N5
  k_steps
  exact next _ _ F7 (fun p hp => N7 p (.tail _ (.tail _ (.tail _ hp))))
end
section
set_option maxHeartbeats 4000000
open PySem PySem.W PySem.Calls PyProof.Rows
theorem fillL17 : PySem.Challenge.rw_uc0030_01 = PySem.Challenge.rw_uc0030_01 ∧ Mine.hd.heap_1 = Mine.hd.heap_1 := by k_fill; exact ⟨rfl, rfl⟩
theorem complaints_wp {w : World} {mean : ExcName → Option Value} {mg mb : Str → Option Value} {A : Around} {s : Shared} {Q E : Value → Shared → Prop} {h₀ : Heap} (hA : A.handled = none) (W : Wd w mean mg mb h₀) (kB : Kp h₀ s.heap)
   (hd : A.depth + 8 < recursionLimit) (hu : A.units + 120 < cLine) (l r : Addr) (vs : List Value) (n nr : Nat) (lf : Nat → Int) (hT : ∀ i, i < 7 → ∃ t, vs[i]? = some (.int (lf i) t)) (s0 s1 s2 : Int) (hb0 : -1000 < s0 ∧ s0 < 1000) (hb1 : -1000 < s1 ∧ s1 < 1000) (hb2 : -1000 < s2 ∧ s2 < 1000) (t0 t1 t2 : Tok) 
   (hl : s.heap.get? l = some (listOf vs.toArray n)) (hlB : h₀.get? l = none) (hr : s.heap.get? r = some (listOf #[.int s0 t0, .int s1 t1, .int s2 t2] nr)) (hrB : h₀.get? r = none) (hlr : @Ne Nat l r)
   (hQ : ∀ h' tk' D (cl : List (Addr × Obj)) n', Kp s.heap h' → cl.length = 6 → (∀ j p, cl[j]? = some p → IsPair (cmp1 lf (pick3 s0 s1 s2)) j p.2 ∧ h'.get? p.1 = some p.2 ∧ s.heap.get? p.1 = none) → h'.get? D = some (listOf (cl.map fun p => Value.ref p.1).toArray n') → s.heap.get? D = none → Q (.ref D) { s with heap := h', toks := tk' }) :
   wpAny (model prg w) A (call (.ref 286) [.ref l, .ref r]) Q E s := by
  rw [ar_of hA]
  exact call_of (complaints_call W kB hd hu l r vs n nr lf hT s0 s1 s2 hb0 hb1 hb2 t0 t1 t2 hl hlB hr hrB hlr hQ)
theorem laid_wp {w : World} {mean : ExcName → Option Value} {mg mb : Str → Option Value} {A : Around} {s : Shared} {Q E : Value → Shared → Prop} {h₀ : Heap} (hA : A.handled = none) (W : Wd w mean mg mb h₀) (kB : Kp h₀ s.heap)
   (hd : A.depth + 12 < recursionLimit) (hu : A.units + 120 < cLine) (l : Addr) (n : Nat) (cl : List (Addr × Obj)) (f : Nat → Int) (hf : ∀ j, -900 < f j ∧ f j < 900) (hlen : cl.length = 6) (hcl : ∀ j p, cl[j]? = some p → IsPair f j p.2) 
   (hcs : ∀ p ∈ cl, s.heap.get? p.1 = some p.2 ∧ h₀.get? p.1 = none)
   (hl : s.heap.get? l = some (listOf (cl.map fun p => Value.ref p.1).toArray n)) (hlB : h₀.get? l = none) (ht : s.heap.get? 288 = some (tabObj #[])) (htB : h₀.get? 288 = none)
   (hQ : ∀ h' tk' R ord n' tab, (∀ b o, b ≠ 288 → s.heap.get? b = some o → h'.get? b = some o) → h'.get? 288 = some (tabObj tab) → List.Perm ord (List.range 6) → ord.Pairwise (LexLt fun j => - f (j + 1)) → h'.get? R = some (listOf (ord.map fun j => Value.ref (ad cl j)).toArray n') → s.heap.get? R = none → Q (.ref R) { s with heap := h', toks := tk' }) :
   wpAny (model prg w) A (call (.ref 293) [.ref l]) Q E s := by
  rw [ar_of hA]
  exact call_of (laid_call W kB hd hu l n cl f hf hlen hcl hcs hl hlB ht htB hQ)
theorem ne_len {h : Heap} {l r : Addr} {x y : List Value} {n m : Nat} (h1 : h.get? l = some (listOf x.toArray n)) (h2 : h.get? r = some (listOf y.toArray m)) (hl : x.length ≠ y.length) : @Ne Nat l r := by
  intro q
  have q : l = r := q
  subst q
  rw [h1] at h2
  injection h2 with h2
  injection h2 with _ _ h3
  injection h3 with h4
  have := congrArg (fun z : Array Value => z.toList.length) h4
  simp at this
  exact hl this
theorem st17 {w : World} {mean : ExcName → Option Value} {mg mb : Str → Option Value} {dp un : Nat} {fr : Option (List Env)} {gd : Option (List Code)} {s : Shared} {Q : Flow → Shared → Prop} {g : Heap} {L S : Addr} {R : List (Addr × Obj)} (Wg : Wd w mean mg mb g) (D M Fi Td lf ft : Addr) (vs : List Value) (nf : Nat) (c0 c1 c2 lv ab : Nat) (tt v0 v1 : Tok) (r : Addr) (o6 : Obj) (s0 s1 s2 : Nat) (w0 w1 w2 : Tok) (nr : Nat)
   (F : Fr g L s.heap (mp [(Str.ofString "fits", .ref ft), (Str.ofString "above", .int (ab : Nat) v1), (Str.ofString "level", .int (lv : Nat) v0), (Str.ofString "left", .ref lf), (Str.ofString "total", .int ((c0 + c1 + c2 : Nat) : Int) tt), (Str.ofString "told", .ref Td), (Str.ofString "first", .ref Fi), (Str.ofString "names", .ref M), (Str.ofString "debts", .ref D), (Str.ofString "script", .ref S)])) (N : News g L s.heap ((lf, listOf vs.toArray nf) :: (L + 1 + 1 + 1 + 1 + 1 + 1, o6) :: (r, listOf #[.int (s0 : Nat) w0, .int (s1 : Nat) w1, .int (s2 : Nat) w2] nr) :: R))
   (d6 : o6.data = .cell (some (.ref r))) (hs0 : s0 ≤ 120) (hs1 : s1 ≤ 120) (hs2 : s2 ≤ 120) (hvl : vs.length = 7) (lfF : Nat → Int) (hT : ∀ i, i < 7 → ∃ t, vs[i]? = some (.int (lfF i) t)) (hd : dp + 30 < recursionLimit) (hu : un + 400 < cLine)
   (next : ∀ h' tk' (P : Addr) (cl : List (Addr × Obj)) (np : Nat), Fr g L h' (mp [(Str.ofString "pairs", .ref P), (Str.ofString "fits", .ref ft), (Str.ofString "above", .int (ab : Nat) v1), (Str.ofString "level", .int (lv : Nat) v0), (Str.ofString "left", .ref lf), (Str.ofString "total", .int ((c0 + c1 + c2 : Nat) : Int) tt), (Str.ofString "told", .ref Td), (Str.ofString "first", .ref Fi), (Str.ofString "names", .ref M), (Str.ofString "debts", .ref D), (Str.ofString "script", .ref S)]) → News g L h' ((P, listOf (cl.map fun p => Value.ref p.1).toArray np) :: (lf, listOf vs.toArray nf) :: (L + 1 + 1 + 1 + 1 + 1 + 1, o6) :: (r, listOf #[.int (s0 : Nat) w0, .int (s1 : Nat) w1, .int (s2 : Nat) w2] nr) :: (cl ++ R)) → cl.length = 6 → (∀ (j : Nat) (p : Addr × Obj), cl[j]? = some p → IsPair (cmp1 lfF (pick3 s0 s1 s2)) j p.2) →  wpAny (model prg w) (Ar dp fr gd un) (execs (lawRest 18) (lawEnv L)) Q Fls { s with heap := h', toks := tk' }) :
   wpAny (model prg w) (Ar dp fr gd un) (execs (lawRest 17) (lawEnv L)) Q Fls s := by
  have X := Wg.X
  obtain ⟨p9, l9, T⟩ := Wg.T
  with_unfolding_all show wpAny _ _ (execs (_ :: lawRest 18) (envOfC (Str.ofString "law") _ L 305 (.ref 304))) _ _ _
  w_on
  k_steps
  refine Stop.go ?_
  rename Fr _ _ _ _ => F1
  rename News _ _ _ _ => N1
  have zl := N1 (lf, listOf vs.toArray nf) (by k_mem)
  have zr := N1 (r, listOf #[.int (s0 : Nat) w0, .int (s1 : Nat) w1, .int (s2 : Nat) w2] nr) (by k_mem)
  refine complaints_wp rfl Wg ?kB (by k_room) (by (try simp only [units_in1, units_deeper, Around.mark_units]); (try dsimp only); omega) lf r vs nf nr lfF hT s0 s1 s2 (by omega) (by omega) (by omega) w0 w1 w2 zl.1 zl.2.2 zr.1 zr.2.2 (ne_len zl.1 zr.1 (by rw [hvl]; exact (by decide : (7 : Nat) ≠ 3))) fun h7 tk7 P cl np k7 hcl6 hcl gP fP => ?_
  case kB => exact F1.keep
  have F7 := Fr.keeps F1 k7
  have oP := new_off F1 fP
  have N7 : News g L h7 ((P, listOf (cl.map fun p => Value.ref p.1).toArray np) :: (lf, listOf vs.toArray nf) :: (L + 1 + 1 + 1 + 1 + 1 + 1, o6) :: (r, listOf #[.int (s0 : Nat) w0, .int (s1 : Nat) w1, .int (s2 : Nat) w2] nr) :: (cl ++ R)) := List.forall_mem_cons.mpr ⟨⟨gP, oP⟩, List.forall_mem_cons.mpr ⟨(News.grown N1 k7) _ (.head _), List.forall_mem_cons.mpr ⟨(News.grown N1 k7) _ (.tail _ (.head _)), List.forall_mem_cons.mpr ⟨(News.grown N1 k7) _ (.tail _ (.tail _ (.head _))), List.forall_mem_append.mpr ⟨fun p hp => (let ⟨j, hj⟩ := List.getElem?_of_mem hp; ⟨(hcl j p hj).2.1, new_off F1 (hcl j p hj).2.2⟩), fun p hp => (News.grown N1 k7) _ (.tail _ (.tail _ (.tail _ (hp))))⟩⟩⟩⟩⟩
  clear F1 N1
  k_steps
  rename Fr _ _ _ _ => F8
  rename News _ _ _ _ => N8
  exact next _ _ P cl np (frc F8 (by ktn_open)) N8 hcl6 fun j p hp => (hcl j p hp).1
theorem st18 {w : World} {mean : ExcName → Option Value} {mg mb : Str → Option Value} {dp un : Nat} {fr : Option (List Env)} {gd : Option (List Code)} {s : Shared} {Q : Flow → Shared → Prop} {g : Heap} {L S : Addr} {R : List (Addr × Obj)} (Wg : Wd w mean mg mb g) (D M Fi Td lf ft P : Addr) (cl : List (Addr × Obj)) (np : Nat) (c0 c1 c2 lv ab : Nat) (tt v0 v1 : Tok)
   (F : Fr g L s.heap (mp [(Str.ofString "pairs", .ref P), (Str.ofString "fits", .ref ft), (Str.ofString "above", .int (ab : Nat) v1), (Str.ofString "level", .int (lv : Nat) v0), (Str.ofString "left", .ref lf), (Str.ofString "total", .int ((c0 + c1 + c2 : Nat) : Int) tt), (Str.ofString "told", .ref Td), (Str.ofString "first", .ref Fi), (Str.ofString "names", .ref M), (Str.ofString "debts", .ref D), (Str.ofString "script", .ref S)])) (N : News g L s.heap (((288 : Nat), tabObj #[]) :: (P, listOf (cl.map fun p => Value.ref p.1).toArray np) :: (cl ++ R)))
   (f : Nat → Int) (hf : ∀ j, -900 < f j ∧ f j < 900) (hlen : cl.length = 6) (hcl : ∀ (j : Nat) (p : Addr × Obj), cl[j]? = some p → IsPair f j p.2) (hR2 : ∀ p ∈ (P, listOf (cl.map fun p => Value.ref p.1).toArray np) :: (cl ++ R), p.1 ≠ 288) (hd : dp + 30 < recursionLimit) (hu : un + 400 < cLine)
   (next : ∀ h' tk' (W9 : Addr) (ord : List Nat) (nw : Nat) (tab : Array Value), Fr g L h' (mp [(Str.ofString "row", .ref W9), (Str.ofString "pairs", .ref P), (Str.ofString "fits", .ref ft), (Str.ofString "above", .int (ab : Nat) v1), (Str.ofString "level", .int (lv : Nat) v0), (Str.ofString "left", .ref lf), (Str.ofString "total", .int ((c0 + c1 + c2 : Nat) : Int) tt), (Str.ofString "told", .ref Td), (Str.ofString "first", .ref Fi), (Str.ofString "names", .ref M), (Str.ofString "debts", .ref D), (Str.ofString "script", .ref S)]) → News g L h' ((W9, listOf (ord.map fun j => Value.ref (ad cl j)).toArray nw) :: ((288 : Nat), tabObj tab) :: (P, listOf (cl.map fun p => Value.ref p.1).toArray np) :: (cl ++ R)) → List.Perm ord (List.range 6) → ord.Pairwise (LexLt fun j => - f (j + 1)) →  wpAny (model prg w) (Ar dp fr gd un) (execs (lawRest 19) (lawEnv L)) Q Fls { s with heap := h', toks := tk' }) :
   wpAny (model prg w) (Ar dp fr gd un) (execs (lawRest 18) (lawEnv L)) Q Fls s := by
  have X := Wg.X
  obtain ⟨p9, l9, T⟩ := Wg.T
  with_unfolding_all show wpAny _ _ (execs (_ :: lawRest 19) (envOfC (Str.ofString "law") _ L 305 (.ref 304))) _ _ _
  w_on
  k_steps
  refine Stop.go ?_
  rename Fr _ _ _ _ => F1
  rename News _ _ _ _ => N1
  have zl := N1 (P, listOf (cl.map fun p => Value.ref p.1).toArray np) (by k_mem)
  have zt := N1 ((288 : Nat), tabObj #[]) (.head _)
  refine laid_wp rfl Wg ?kB (by k_room) (by (try simp only [units_in1, units_deeper, Around.mark_units]); (try dsimp only); omega) P np cl f hf hlen hcl (fun p hp => ⟨(N1 p (.tail _ (.tail _ (List.mem_append_left _ (hp))))).1, (N1 p (.tail _ (.tail _ (List.mem_append_left _ (hp))))).2.2⟩) zl.1 zl.2.2 zt.1 zt.2.2 fun h7 tk7 W9 ord n9 tab k7 g2 hperm hpw gW fW => ?_
  case kB => exact F1.keep
  have oD := new_off F1 fW
  have F7 := LCg.fr_but F1 (h' := h7) (I := (288 : Nat)) (fun b o hb e => k7 b o (by simpa using hb) e) (Ne.symm zt.2.1) zt.2.2
  have N7 : News g L h7 ((W9, listOf (ord.map fun j => Value.ref (ad cl j)).toArray n9) :: ((288 : Nat), tabObj tab) :: (P, listOf (cl.map fun p => Value.ref p.1).toArray np) :: (cl ++ R)) := List.forall_mem_cons.mpr ⟨⟨gW, oD⟩, List.forall_mem_cons.mpr ⟨⟨g2, zt.2⟩, fun p hp => ⟨k7 _ _ (hR2 p hp) (N1 p (.tail _ hp)).1, (N1 p (.tail _ hp)).2⟩⟩⟩
  clear F1 N1
  k_steps
  rename Fr _ _ _ _ => F8
  rename News _ _ _ _ => N8
  exact next _ _ W9 ord n9 tab (frc F8 (by ktn_open)) N8 hperm hpw
end
section
set_option maxHeartbeats 4000000
open PySem PySem.W PySem.Calls PyProof.Rows
theorem fillL21 : PySem.Challenge.rw_uc0030_01 = PySem.Challenge.rw_uc0030_01 ∧ Mine.hd.heap_1 = Mine.hd.heap_1 := by k_fill; exact ⟨rfl, rfl⟩
theorem paid_wp {w : World} {mean : ExcName → Option Value} {mg mb : Str → Option Value} {B : Heap} {A : Around} {s : Shared} {Q E : Value → Shared → Prop} (hA : A.handled = none) (W : Wd w mean mg mb B) (kB : Kp B s.heap)
   (hd : A.depth + 30 < recursionLimit) (hu : A.units + 300 < cLine) (x dx H : Addr) (tb : Tok) (n : Nat) (cl : List (Addr × Obj)) (hs : List (Nat × Bool × Str)) (hlen : cl.length = hs.length) (hl10 : cl.length < 10) (hk3 : ∀ q ∈ hs, q.1 < 3) (hcl : ∀ (j : Nat) (p : Addr × Obj), cl[j]? = some p → ∃ q t u, hs[j]? = some q ∧ p.2 = tupO (.str (nmS q.1 q.2.1) t) (.str q.2.2 u))
   (hx : s.heap.get? x = some (instObj 216 dx)) (hxB : B.get? x = none) (hdx : s.heap.get? dx = some (bkD w.params tb H)) (hdB : B.get? dx = none) (hH : s.heap.get? H = some (listOf (cl.map fun p => Value.ref p.1).toArray n)) (hHB : B.get? H = none) (hcs : ∀ p ∈ cl, s.heap.get? p.1 = some p.2 ∧ B.get? p.1 = none) (hl6 : cl.length ≤ 6) (l r : Addr) (vs ws : List Value) (nl nr : Nat) (c σ : Nat → Nat) (hT : ∀ i, i < 3 → ∃ t, vs[i]? = some (.str (spc (c i)) t)) (hS : ∀ i, i < 3 → ∃ t, ws[i]? = some (.int (σ i : Nat) t)) (hc : ∀ i, c i < 200) (hσ : ∀ i, σ i ≤ c i) (cell : Int) (u : Tok)
   (hl : s.heap.get? l = some (listOf vs.toArray nl)) (hlB : B.get? l = none) (hr : s.heap.get? r = some (listOf ws.toArray nr)) (hrB : B.get? r = none)
   (hlH : l ≠ H) (hrH : r ≠ H)
   (hQ : ∀ h' tk' D (dl : List (Addr × Obj)) nd (cl' : List (Addr × Obj)) n', (∀ b o, b ≠ H → s.heap.get? b = some o → h'.get? b = some o) → dl.length = 3 → (∀ (j : Nat) (p : Addr × Obj), dl[j]? = some p → IsEnt (entP cell c σ j) p.2 ∧ h'.get? p.1 = some p.2 ∧ B.get? p.1 = none) → h'.get? D = some (listOf (dl.map fun p => Value.ref p.1).toArray nd) → B.get? D = none →
     cl'.length = 3 → (∀ (j : Nat) (p : Addr × Obj), cl'[j]? = some p → IsEnt (entP cell c σ j) p.2 ∧ h'.get? p.1 = some p.2 ∧ B.get? p.1 = none) → h'.get? H = some (listOf (cl'.map fun p => Value.ref p.1).toArray n') → Q (.ref D) { s with heap := h', toks := tk' }) :
  wpAny (model prg w) A (call (.ref 300) [.ref x, .ref l, .ref r, .int cell u]) Q E s := by
  rw [ar_of hA]
  exact call_of (paid_call W kB hd hu x dx H tb n cl hs hlen hl10 hk3 hcl hx hxB hdx hdB hH hHB hcs hl6 l r vs ws nl nr c σ hT hS hc hσ cell u hl hlB hr hrB hlH hrH hQ)
theorem pk3_le {c0 c1 c2 s0 s1 s2 : Nat} (h0 : s0 ≤ c0) (h1 : s1 ≤ c1) (h2 : s2 ≤ c2) : ∀ i, pk3 s0 s1 s2 i ≤ pk3 c0 c1 c2 i := by
  intro i
  unfold pk3
  repeat' split
  all_goals assumption
theorem off_ns {g h : Heap} {L D : Addr} {m : Str → Option Value} {o : Obj} {xs : Array Value} {k : Nat} (F : Fr g L h m) (h1 : h.get? D = some o) (ho : o.data = .seq xs k) : D ≠ L := by
  intro q
  obtain ⟨oL, _, _, hL, hd, _⟩ := F.ns
  rw [q, hL] at h1
  cases h1
  rw [hd] at ho
  cases ho
theorem st21 {w : World} {mean : ExcName → Option Value} {mg mb : Str → Option Value} {dp un : Nat} {fr : Option (List Env)} {gd : Option (List Code)} {s : Shared} {Q : Flow → Shared → Prop} {g : Heap} {L S : Addr} {R : List (Addr × Obj)} (Wg : Wd w mean mg mb g) (C D M Fi Td lf ft P W9 O x dx H : Addr) (tb : Tok) (o1 o2 : Obj) (cl : List (Addr × Obj)) (n : Nat) (ws : List Value) (nw : Nat) (c6 : Int) (t6 : Tok) (c0 c1 c2 lv ab : Nat) (tt v0 v1 : Tok) (l : Addr) (o3 : Obj) (a0 a1 a2 : Tok) (nl : Nat) (r : Addr) (o6 : Obj) (s0 s1 s2 : Nat) (w0 w1 w2 : Tok) (nr : Nat) (hs : List (Nat × Bool × Str)) 
   (F : Fr g L s.heap (mp [(Str.ofString "other", .ref O), (Str.ofString "row", .ref W9), (Str.ofString "pairs", .ref P), (Str.ofString "fits", .ref ft), (Str.ofString "above", .int (ab : Nat) v1), (Str.ofString "level", .int (lv : Nat) v0), (Str.ofString "left", .ref lf), (Str.ofString "total", .int ((c0 + c1 + c2 : Nat) : Int) tt), (Str.ofString "told", .ref Td), (Str.ofString "first", .ref Fi), (Str.ofString "names", .ref M), (Str.ofString "debts", .ref D), (Str.ofString "script", .ref S)])) (N : News g L s.heap ((L + 1 + 1, o2) :: (H, listOf (cl.map fun p => Value.ref p.1).toArray n) :: (x, instObj 216 dx) :: (dx, bkD w.params tb H) :: (L + 1 + 1 + 1 + 1 + 1 + 1, o6) :: (r, listOf #[.int (s0 : Nat) w0, .int (s1 : Nat) w1, .int (s2 : Nat) w2] nr) :: (L + 1 + 1 + 1, o3) :: (l, listOf #[.str (spc c0) a0, .str (spc c1) a1, .str (spc c2) a2] nl) :: (L + 1, o1) :: (C, listOf ws.toArray nw) :: (cl ++ R)))
   (d6 : o6.data = .cell (some (.ref r))) (hs0 : s0 ≤ 120) (hs1 : s1 ≤ 120) (hs2 : s2 ≤ 120) (d3 : o3.data = .cell (some (.ref l))) (hc0 : c0 ≤ 120) (hc1 : c1 ≤ 120) (hc2 : c2 ≤ 120) (d1 : o1.data = .cell (some (.ref C))) (h6 : ws[6]? = some (.int c6 t6)) (d2 : o2.data = .cell (some (.ref x))) (hlen : cl.length = hs.length) (hcl : (∀ (j : Nat) (p : Addr × Obj), cl[j]? = some p → ∃ q t u, hs[j]? = some q ∧ p.2 = tupO (.str (nmS q.1 q.2.1) t) (.str q.2.2 u))) (hl5 : hs.length = 5) (hk3 : ∀ q ∈ hs, q.1 < 3) (hsc : s0 ≤ c0 ∧ s1 ≤ c1 ∧ s2 ≤ c2) (hne : ∀ p ∈ (L + 1 + 1, o2) :: (x, instObj 216 dx) :: (dx, bkD w.params tb H) :: (L + 1 + 1 + 1 + 1 + 1 + 1, o6) :: (r, listOf #[.int (s0 : Nat) w0, .int (s1 : Nat) w1, .int (s2 : Nat) w2] nr) :: (L + 1 + 1 + 1, o3) :: (l, listOf #[.str (spc c0) a0, .str (spc c1) a1, .str (spc c2) a2] nl) :: (L + 1, o1) :: (C, listOf ws.toArray nw) :: (cl ++ R), p.1 ≠ H) (hd : dp + 30 < recursionLimit) (hu : un + 400 < cLine)
   (next : ∀ h' tk' (U : Addr) (dl cl' : List (Addr × Obj)) (nd n' : Nat), Fr g L h' (mp [(Str.ofString "due", .ref U), (Str.ofString "other", .ref O), (Str.ofString "row", .ref W9), (Str.ofString "pairs", .ref P), (Str.ofString "fits", .ref ft), (Str.ofString "above", .int (ab : Nat) v1), (Str.ofString "level", .int (lv : Nat) v0), (Str.ofString "left", .ref lf), (Str.ofString "total", .int ((c0 + c1 + c2 : Nat) : Int) tt), (Str.ofString "told", .ref Td), (Str.ofString "first", .ref Fi), (Str.ofString "names", .ref M), (Str.ofString "debts", .ref D), (Str.ofString "script", .ref S)]) → News g L h' ((U, listOf (dl.map fun p => Value.ref p.1).toArray nd) :: (L + 1 + 1, o2) :: (H, listOf (cl'.map fun p => Value.ref p.1).toArray n') :: (x, instObj 216 dx) :: (dx, bkD w.params tb H) :: (L + 1 + 1 + 1 + 1 + 1 + 1, o6) :: (r, listOf #[.int (s0 : Nat) w0, .int (s1 : Nat) w1, .int (s2 : Nat) w2] nr) :: (L + 1 + 1 + 1, o3) :: (l, listOf #[.str (spc c0) a0, .str (spc c1) a1, .str (spc c2) a2] nl) :: (L + 1, o1) :: (C, listOf ws.toArray nw) :: (dl ++ (cl' ++ (cl ++ R)))) → dl.length = 3 → (∀ (j : Nat) (p : Addr × Obj), dl[j]? = some p → IsEnt (entP c6 (pk3 c0 c1 c2) (pk3 s0 s1 s2) j) p.2) → cl'.length = 3 → (∀ (j : Nat) (p : Addr × Obj), cl'[j]? = some p → IsEnt (entP c6 (pk3 c0 c1 c2) (pk3 s0 s1 s2) j) p.2) →  wpAny (model prg w) (Ar dp fr gd un) (execs (lawRest 22) (lawEnv L)) Q Fls { s with heap := h', toks := tk' }) :
   wpAny (model prg w) (Ar dp fr gd un) (execs (lawRest 21) (lawEnv L)) Q Fls s := by
  have X := Wg.X
  obtain ⟨p9, l9, T⟩ := Wg.T
  with_unfolding_all show wpAny _ _ (execs (_ :: lawRest 22) (envOfC (Str.ofString "law") _ L 305 (.ref 304))) _ _ _
  w_on
  k_steps
  refine Stop.go ?_
  refine my_item (by is_list) (by decide) (by decide) h6 ?_
  k_steps
  refine Stop.go ?_
  rename Fr _ _ _ _ => F1
  rename News _ _ _ _ => N1
  have zl := N1 (l, listOf #[.str (spc c0) a0, .str (spc c1) a1, .str (spc c2) a2] nl) (by k_mem)
  have zr := N1 (r, listOf #[.int (s0 : Nat) w0, .int (s1 : Nat) w1, .int (s2 : Nat) w2] nr) (by k_mem)
  have zH := (N1 (H, listOf (cl.map fun p => Value.ref p.1).toArray n) (by k_mem)).2
  refine paid_wp (A := Ar dp fr gd un) (s := { s with heap := s.heap, toks := s.toks + 1 }) rfl Wg ?kB (by k_room) (by (try simp only [units_in1, units_deeper, Around.mark_units]); (try dsimp only); omega) x dx H tb n cl hs hlen (by omega) hk3 hcl (N1 _ (.tail _ (.tail _ (.head _)))).1 (N1 _ (.tail _ (.tail _ (.head _)))).2.2 (N1 _ (.tail _ (.tail _ (.tail _ (.head _))))).1 (N1 _ (.tail _ (.tail _ (.tail _ (.head _))))).2.2 (N1 _ (.tail _ (.head _))).1 (N1 _ (.tail _ (.head _))).2.2 (fun p hp => ⟨(N1 _ (.tail _ (.tail _ (.tail _ (.tail _ (.tail _ (.tail _ (.tail _ (.tail _ (.tail _ (.tail _ (List.mem_append_left _ (hp))))))))))))).1, (N1 _ (.tail _ (.tail _ (.tail _ (.tail _ (.tail _ (.tail _ (.tail _ (.tail _ (.tail _ (.tail _ (List.mem_append_left _ (hp))))))))))))).2.2⟩) (by omega) l r [.str (spc c0) a0, .str (spc c1) a1, .str (spc c2) a2] [.int (s0 : Nat) w0, .int (s1 : Nat) w1, .int (s2 : Nat) w2] nl nr (pk3 c0 c1 c2) (pk3 s0 s1 s2) (pk3_str a0 a1 a2) (pk3_int w0 w1 w2) (pk3_lt (by omega) (by omega) (by omega)) (pk3_le hsc.1 hsc.2.1 hsc.2.2) c6 _ zl.1 zl.2.2 zr.1 zr.2.2 (hne _ (.tail _ (.tail _ (.tail _ (.tail _ (.tail _ (.tail _ (.head _)))))))) (hne _ (.tail _ (.tail _ (.tail _ (.tail _ (.head _)))))) fun h7 tk7 U dl nd cl' n' k7 hdl hde gU fU hcl3 hce gH => ?_
  case kB => exact F1.keep
  have F7 := LCg.fr_but F1 (h' := h7) (I := H) (fun b o hb e => k7 b o (by simpa using hb) e) (Ne.symm zH.1) zH.2
  have K7 : ∀ p : Addr × Obj, (s.heap.get? p.1 = some p.2 ∧ p.1 ≠ L ∧ g.get? p.1 = none) → p.1 ≠ H → h7.get? p.1 = some p.2 ∧ p.1 ≠ L ∧ g.get? p.1 = none := fun p z ne => ⟨k7 _ _ ne z.1, z.2⟩
  have ent_at : ∀ (p : Addr × Obj) {j}, (IsEnt (entP c6 (pk3 c0 c1 c2) (pk3 s0 s1 s2) j) p.2 ∧ h7.get? p.1 = some p.2 ∧ g.get? p.1 = none) → h7.get? p.1 = some p.2 ∧ p.1 ≠ L ∧ g.get? p.1 = none := fun p j z => by
    obtain ⟨⟨t, u, he⟩, z2, z3⟩ := z
    exact ⟨z2, off_ns F7 z2 (by rw [he]; rfl), z3⟩
  have N7 : News g L h7 ((U, listOf (dl.map fun p => Value.ref p.1).toArray nd) :: (L + 1 + 1, o2) :: (H, listOf (cl'.map fun p => Value.ref p.1).toArray n') :: (x, instObj 216 dx) :: (dx, bkD w.params tb H) :: (L + 1 + 1 + 1 + 1 + 1 + 1, o6) :: (r, listOf #[.int (s0 : Nat) w0, .int (s1 : Nat) w1, .int (s2 : Nat) w2] nr) :: (L + 1 + 1 + 1, o3) :: (l, listOf #[.str (spc c0) a0, .str (spc c1) a1, .str (spc c2) a2] nl) :: (L + 1, o1) :: (C, listOf ws.toArray nw) :: (dl ++ (cl' ++ (cl ++ R)))) := List.forall_mem_cons.mpr ⟨⟨gU, off_ns F7 gU rfl, fU⟩, List.forall_mem_cons.mpr ⟨K7 _ (N1 _ (.head _)) (hne _ (.head _)), List.forall_mem_cons.mpr ⟨⟨gH, zH⟩, List.forall_mem_cons.mpr ⟨K7 _ (N1 _ (.tail _ (.tail _ (.head _)))) (hne _ (.tail _ (.head _))), List.forall_mem_cons.mpr ⟨K7 _ (N1 _ (.tail _ (.tail _ (.tail _ (.head _))))) (hne _ (.tail _ (.tail _ (.head _)))), List.forall_mem_cons.mpr ⟨K7 _ (N1 _ (.tail _ (.tail _ (.tail _ (.tail _ (.head _)))))) (hne _ (.tail _ (.tail _ (.tail _ (.head _))))), List.forall_mem_cons.mpr ⟨K7 _ (N1 _ (.tail _ (.tail _ (.tail _ (.tail _ (.tail _ (.head _))))))) (hne _ (.tail _ (.tail _ (.tail _ (.tail _ (.head _)))))), List.forall_mem_cons.mpr ⟨K7 _ (N1 _ (.tail _ (.tail _ (.tail _ (.tail _ (.tail _ (.tail _ (.head _)))))))) (hne _ (.tail _ (.tail _ (.tail _ (.tail _ (.tail _ (.head _))))))), List.forall_mem_cons.mpr ⟨K7 _ (N1 _ (.tail _ (.tail _ (.tail _ (.tail _ (.tail _ (.tail _ (.tail _ (.head _))))))))) (hne _ (.tail _ (.tail _ (.tail _ (.tail _ (.tail _ (.tail _ (.head _)))))))), List.forall_mem_cons.mpr ⟨K7 _ (N1 _ (.tail _ (.tail _ (.tail _ (.tail _ (.tail _ (.tail _ (.tail _ (.tail _ (.head _)))))))))) (hne _ (.tail _ (.tail _ (.tail _ (.tail _ (.tail _ (.tail _ (.tail _ (.head _))))))))), List.forall_mem_cons.mpr ⟨K7 _ (N1 _ (.tail _ (.tail _ (.tail _ (.tail _ (.tail _ (.tail _ (.tail _ (.tail _ (.tail _ (.head _))))))))))) (hne _ (.tail _ (.tail _ (.tail _ (.tail _ (.tail _ (.tail _ (.tail _ (.tail _ (.head _)))))))))), List.forall_mem_append.mpr ⟨fun p hp => ent_at p (hde _ _ (List.getElem?_of_mem hp).choose_spec), List.forall_mem_append.mpr ⟨fun p hp => ent_at p (hce _ _ (List.getElem?_of_mem hp).choose_spec), List.forall_mem_append.mpr ⟨fun p hp => K7 _ (N1 _ (.tail _ (.tail _ (.tail _ (.tail _ (.tail _ (.tail _ (.tail _ (.tail _ (.tail _ (.tail _ (List.mem_append_left _ (hp))))))))))))) (hne _ (.tail _ (.tail _ (.tail _ (.tail _ (.tail _ (.tail _ (.tail _ (.tail _ (.tail _ (List.mem_append_left _ (hp)))))))))))), fun p hp => K7 _ (N1 _ (.tail _ (.tail _ (.tail _ (.tail _ (.tail _ (.tail _ (.tail _ (.tail _ (.tail _ (.tail _ (List.mem_append_right _ (hp))))))))))))) (hne _ (.tail _ (.tail _ (.tail _ (.tail _ (.tail _ (.tail _ (.tail _ (.tail _ (.tail _ (List.mem_append_right _ (hp))))))))))))⟩⟩⟩⟩⟩⟩⟩⟩⟩⟩⟩⟩⟩⟩
  clear F1 N1
  k_steps
  rename Fr _ _ _ _ => F8
  rename News _ _ _ _ => N8
  exact next _ _ U dl cl' nd n' (frc F8 (by ktn_open)) N8 hdl (fun j p hp => (hde j p hp).1) hcl3 (fun j p hp => (hce j p hp).1)
end
section
set_option maxHeartbeats 4000000
open PySem PySem.W PySem.Calls PyProof.Rows
theorem fillL23 : PySem.Challenge.rw_uc0030_01 = PySem.Challenge.rw_uc0030_01 ∧ Mine.hd.heap_1 = Mine.hd.heap_1 := by k_fill; exact ⟨rfl, rfl⟩
local macro_rules | `(tactic| walk_at $k:str) => if ["compareOp Eq ref ref"].contains k.getString then `(tactic| refine stop_of ?_) else Lean.Macro.throwUnsupported
noncomputable def entD (hs : List (Nat × Bool × Str)) (i : Nat) : Dat := match hs[i]? with
  | some q => .tuple [.str (nmS q.1 q.2.1), .str q.2.2]
  | none => .none
theorem dat_ofN {news : List (Addr × Obj)} {D : Nat → Dat} {P : Nat → Value → Prop} (hP : ∀ i v, P i v → DatIn news v (D i)) : ∀ (ys : List Value) (k : Nat), (∀ i v, ys[i]? = some v → P (k + i) v) → DatAll news ys ((List.range' k ys.length).map D)
  | [], _, _ => .nil
  | y :: ys, k, h => .cons (hP _ _ (h 0 y rfl)) (dat_ofN hP ys (k + 1) fun i v hv => by
      have := h (i + 1) v hv
      rwa [show k + (i + 1) = k + 1 + i by omega] at this)
theorem dat_ents {hs : List (Nat × Bool × Str)} {cl : List (Addr × Obj)} (hcl : ∀ (j : Nat) (p : Addr × Obj), cl[j]? = some p → ∃ q t u, hs[j]? = some q ∧ p.2 = tupO (.str (nmS q.1 q.2.1) t) (.str q.2.2 u)) (hlen : cl.length = hs.length) :
    DatAll cl (cl.map fun p => Value.ref p.1) ((List.range' 0 hs.length).map (entD hs)) := by
  have z := dat_ofN (news := cl) (D := entD hs) (P := fun i v => ∃ p, cl[i]? = some p ∧ v = .ref p.1) (fun i v hv => by
    obtain ⟨p, hp, rfl⟩ := hv
    obtain ⟨q, t, u, hq, he⟩ := hcl i p hp
    have hm := List.mem_of_getElem? hp
    unfold entD
    rw [hq]
    refine .tuple (vs := [.str (nmS q.1 q.2.1) t, .str q.2.2 u]) (n := 0) ?_ (.cons (.str _ t) (.cons (.str _ u) .nil))
    rw [show p = (p.1, p.2) from rfl, he] at hm
    exact hm) (cl.map fun p => Value.ref p.1) 0 (fun i v hv => by
    rw [List.getElem?_map] at hv
    cases e : cl[i]? with
    | none => rw [e] at hv; cases hv
    | some p => rw [e] at hv; exact ⟨p, by rw [Nat.zero_add, e], (Option.some.inj hv).symm⟩)
  rwa [List.length_map, hlen] at z
theorem nm_ok : ∀ (k : Nat) (g : Bool), k < 3 → PyData.strOk (nmS k g) = true
  | 0, true, _ => by decide +kernel
  | 0, false, _ => by decide +kernel
  | 1, true, _ => by decide +kernel
  | 1, false, _ => by decide +kernel
  | 2, true, _ => by decide +kernel
  | 2, false, _ => by decide +kernel
theorem entD_ok {hs : List (Nat × Bool × Str)} (hk3 : ∀ q ∈ hs, q.1 < 3) (hok : ∀ q ∈ hs, PyData.strOk q.2.2 = true) : ∀ d ∈ (List.range' 0 hs.length).map (entD hs), kqdOk 8 d = true := by
  intro d hd
  obtain ⟨i, hi, rfl⟩ := List.mem_map.mp hd
  unfold entD
  cases e : hs[i]? with
  | none => rfl
  | some q =>
    have hm := List.mem_of_getElem? e
    simp only [kqdOk, List.all_cons, List.all_nil, Bool.and_true, nm_ok _ _ (hk3 q hm), hok q hm]
theorem st23 {w : World} {mean : ExcName → Option Value} {mg mb : Str → Option Value} {dp un : Nat} {fr : Option (List Env)} {gd : Option (List Code)} {s : Shared} {Q : Flow → Shared → Prop} {g : Heap} {L S : Addr} {R : List (Addr × Obj)} (Wg : Wd w mean mg mb g) (D M Fi Td lf ft P W9 O U : Addr) (cl dl : List (Addr × Obj)) (nd nf : Nat) (lv ab c0 c1 c2 : Nat) (tt v0 v1 : Tok) (hs : List (Nat × Bool × Str)) 
   (F : Fr g L s.heap (mp [(Str.ofString "due", .ref U), (Str.ofString "other", .ref O), (Str.ofString "row", .ref W9), (Str.ofString "pairs", .ref P), (Str.ofString "fits", .ref ft), (Str.ofString "above", .int (ab : Nat) v1), (Str.ofString "level", .int (lv : Nat) v0), (Str.ofString "left", .ref lf), (Str.ofString "total", .int ((c0 + c1 + c2 : Nat) : Int) tt), (Str.ofString "told", .ref Td), (Str.ofString "first", .ref Fi), (Str.ofString "names", .ref M), (Str.ofString "debts", .ref D), (Str.ofString "script", .ref S)])) (N : News g L s.heap ((Fi, listOf (cl.map fun p => Value.ref p.1).toArray nf) :: (D, listOf (dl.map fun p => Value.ref p.1).toArray nd) :: (cl ++ (dl ++ R))))
   (hlen : cl.length = hs.length) (hcl : (∀ (j : Nat) (p : Addr × Obj), cl[j]? = some p → ∃ q t u, hs[j]? = some q ∧ p.2 = tupO (.str (nmS q.1 q.2.1) t) (.str q.2.2 u))) (hdlen : dl.length = hs.length) (hdl : (∀ (j : Nat) (p : Addr × Obj), dl[j]? = some p → ∃ q t u, hs[j]? = some q ∧ p.2 = tupO (.str (nmS q.1 q.2.1) t) (.str q.2.2 u))) (hk3 : ∀ q ∈ hs, q.1 < 3) (hok : ∀ q ∈ hs, PyData.strOk q.2.2 = true) (hd : dp + 30 < recursionLimit) (hu : un + 400 < cLine)
   (hQ : ∀ h' tk', (∃ m, Fr g L h' m) → News g L h' R → Q (.ret (.bool true)) { s with heap := h', toks := tk' }) :
   wpAny (model prg w) (Ar dp fr gd un) (execs (lawRest 23) (lawEnv L)) Q Fls s := by
  have X := Wg.X
  obtain ⟨p9, l9, T⟩ := Wg.T
  with_unfolding_all show wpAny _ _ (execs (_ :: lawRest 24) (envOfC (Str.ofString "law") _ L 305 (.ref 304))) _ _ _
  w_on
  k_steps
  refine Stop.go ?_
  refine kqd_eq_t N (.head _) rfl rfl (dat_ents hcl hlen) (fun p hp => .tail _ (.tail _ (List.mem_append_left _ hp))) (.tail _ (.head _)) rfl rfl (dat_ents hdl hdlen) (fun p hp => .tail _ (.tail _ (List.mem_append_right _ (List.mem_append_left _ hp)))) (entD_ok hk3 hok) (by (try simp only [units_in1, units_deeper, Around.mark_units]); (try dsimp only); omega) ?_
  k_steps
  refine Stop.go ?_
  rename Fr _ _ _ _ => F1
  rename News _ _ _ _ => N1
  refine new_wp rfl Wg F1 N1 (by k_room) (by (try simp only [units_in1, units_deeper, Around.mark_units]); (try dsimp only); omega) fun h9 tk9 x dx H tb F9 N9 lR ldx hxH hdH => ?_
  clear F1 N1
  k_steps
  refine Stop.go ?_
  refine items_wp rfl Wg ?kB (by k_room) (by (try simp only [units_in1, units_deeper, Around.mark_units]); (try dsimp only); omega) x dx H tb 0 [] [] rfl (by decide) (fun q hq => nomatch hq) (fun j p hp => nomatch hp) (N9 _ (.tail _ (.head _))).1 (N9 (x, instObj 216 dx) (.tail _ (.head _))).2.2 (N9 _ (.tail _ (.tail _ (.head _)))).1 (N9 (dx, bkD w.params tb H) (.tail _ (.tail _ (.head _)))).2.2 (N9 _ (.head _)).1 (N9 (H, listOf #[] 0) (.head _)).2.2 (fun p hp => nomatch hp) fun h8 tk8 D8 k8 gD fD => ?_
  case kB => exact F9.keep
  have oD := new_off F9 fD
  have F8 := Fr.keeps F9 k8
  have N8 := News.grown N9 k8
  have N7 : News g L h8 ((D8, listOf (List.toArray ([] : List Value)) 0) :: _) := List.forall_mem_cons.mpr ⟨⟨gD, oD⟩, N8⟩
  clear F9 N9 N8
  k_steps
  refine Stop.go ?_
  rename News _ _ _ _ => N6
  refine kqd_eq_t (n₁ := []) (n₂ := []) (xs := []) (ys := []) (ds := []) N6 (.tail _ (.head _)) rfl rfl .nil (fun p hp => nomatch hp) (.head _) rfl rfl .nil (fun p hp => nomatch hp) (fun d hd => nomatch hd) (by (try simp only [units_in1, units_deeper, Around.mark_units]); (try dsimp only); omega) ?_
  rename Fr _ _ _ _ => F6
  exact hQ _ _ ⟨_, F6⟩ fun p hp => N6 p (.tail _ (.tail _ (.tail _ (.tail _ (.tail _ (.tail _ (.tail _ (List.mem_append_right _ (List.mem_append_right _ hp)))))))))
end
section
set_option maxHeartbeats 4000000
open PySem PySem.W PySem.Calls PyProof.Rows
theorem fillL22 : PySem.Challenge.rw_uc0030_01 = PySem.Challenge.rw_uc0030_01 ∧ Mine.hd.heap_1 = Mine.hd.heap_1 := by k_fill; exact ⟨rfl, rfl⟩
local macro_rules | `(tactic| walk_at $k:str) => if ["compareOp Eq ref ref"].contains k.getString then `(tactic| refine stop_of ?_) else Lean.Macro.throwUnsupported
local macro_rules | `(tactic| walk_at "binaryOp Mult str int") => `(tactic| (refine' r_mul (Int.toNat_of_nonneg ?hn).symm ?hk ?_; (case hn => omega); (case hk => omega); intro t' j'))
local macro_rules | `(tactic| walk_at "binaryOp Add str str") => `(tactic| (refine' r_add ?hz ?hs ?_; (case hz => with_reducible exact spc_x _); (case hs => ((simp only [spc_len, blk_len, x_len]); omega)); intro t' j'))
theorem get2_wp {w : World} {mean : ExcName → Option Value} {mg mb : Str → Option Value} {B : Heap} {A : Around} {s : Shared} {Q E : Value → Shared → Prop} (hA : A.handled = none) (W : Wd w mean mg mb B) (kB : Kp B s.heap)
   (hd : A.depth + 10 < recursionLimit) (hu : A.units + 120 < cLine) (x dx H : Addr) (tb : Tok) (n : Nat) (cl : List (Addr × Obj)) (hs : List (Nat × Bool × Str)) (hlen : cl.length = hs.length) (hl10 : cl.length < 10) (hk3 : ∀ q ∈ hs, q.1 < 3) (hcl : ∀ (j : Nat) (p : Addr × Obj), cl[j]? = some p → ∃ q t u, hs[j]? = some q ∧ p.2 = tupO (.str (nmS q.1 q.2.1) t) (.str q.2.2 u))
   (hx : s.heap.get? x = some (instObj 216 dx)) (hxB : B.get? x = none) (hdx : s.heap.get? dx = some (bkD w.params tb H)) (hdB : B.get? dx = none) (hH : s.heap.get? H = some (listOf (cl.map fun p => Value.ref p.1).toArray n)) (hHB : B.get? H = none) (hcs : ∀ p ∈ cl, s.heap.get? p.1 = some p.2 ∧ B.get? p.1 = none) (k9 : Nat) (g9 : Bool) (t9 : Tok) (hk9 : k9 < 3)
   (hQ : ∀ h' tk' v, Kp s.heap h' → (match (hs.filter fun q => q.1 == k9).map (·.2.2) with | [] => v = .none | a :: _ => ∃ t, v = .str a t) → Q v { s with heap := h', toks := tk' }) :
   wpAny (model prg w) A (call (.ref 163) [.ref x, .str (nmS k9 g9) t9]) Q E s := by
  rw [ar_of hA]
  exact call_of (B2.get_call W kB hd hu x dx H tb n cl hs hlen hl10 hk3 hcl hx hxB hdx hdB hH hHB hcs k9 g9 t9 hk9 hQ)
noncomputable def rst (c0 c1 c2 s0 s1 s2 i : Nat) : Str := blk (pk3 c0 c1 c2 i - pk3 s0 s1 s2 i) 0
theorem pk3_at {c0 c1 c2 : Nat} {a0 a1 a2 : Tok} {j : Nat} (hj : j < 3) : ∃ t, [Value.int (c0 : Nat) a0, .int (c1 : Nat) a1, .int (c2 : Nat) a2][((0 : Int) + (j : Int)).toNat]? = some (.int (pk3 c0 c1 c2 j : Nat) t) := by
  rw [show ((0 : Int) + (j : Int)).toNat = j by omega]
  exact pk3_int a0 a1 a2 j hj
theorem st22 {w : World} {mean : ExcName → Option Value} {mg mb : Str → Option Value} {dp un : Nat} {fr : Option (List Env)} {gd : Option (List Code)} {s : Shared} {Q : Flow → Shared → Prop} {g : Heap} {L S : Addr} {R : List (Addr × Obj)} (Wg : Wd w mean mg mb g) (D M Fi Td lf ft P W9 O U x dx H q : Addr) (tb : Tok) (o2 o4 : Obj) (cl dl : List (Addr × Obj)) (nd n nm nq : Nat) (vs : List Value) (lv ab c0 c1 c2 : Nat) (t0 t1 t2 tt v0 v1 : Tok) (r : Addr) (o6 : Obj) (s0 s1 s2 : Nat) (w0 w1 w2 : Tok) (nr : Nat) (hs : List (Nat × Bool × Str)) 
   (F : Fr g L s.heap (mp [(Str.ofString "due", .ref U), (Str.ofString "other", .ref O), (Str.ofString "row", .ref W9), (Str.ofString "pairs", .ref P), (Str.ofString "fits", .ref ft), (Str.ofString "above", .int (ab : Nat) v1), (Str.ofString "level", .int (lv : Nat) v0), (Str.ofString "left", .ref lf), (Str.ofString "total", .int ((c0 + c1 + c2 : Nat) : Int) tt), (Str.ofString "told", .ref Td), (Str.ofString "first", .ref Fi), (Str.ofString "names", .ref M), (Str.ofString "debts", .ref D), (Str.ofString "script", .ref S)])) (N : News g L s.heap ((U, listOf (dl.map fun p => Value.ref p.1).toArray nd) :: (L + 1 + 1, o2) :: (H, listOf (cl.map fun p => Value.ref p.1).toArray n) :: (x, instObj 216 dx) :: (dx, bkD w.params tb H) :: (M, listOf vs.toArray nm) :: (L + 1 + 1 + 1 + 1, o4) :: (q, listOf #[.int (c0 : Int) t0, .int (c1 : Int) t1, .int (c2 : Int) t2] nq) :: (L + 1 + 1 + 1 + 1 + 1 + 1, o6) :: (r, listOf #[.int (s0 : Nat) w0, .int (s1 : Nat) w1, .int (s2 : Nat) w2] nr) :: (dl ++ (cl ++ R))))
   (d6 : o6.data = .cell (some (.ref r))) (hs0 : s0 ≤ 120) (hs1 : s1 ≤ 120) (hs2 : s2 ≤ 120) (hc0 : c0 ≤ 120) (hc1 : c1 ≤ 120) (hc2 : c2 ≤ 120) (d4 : o4.data = .cell (some (.ref q))) (d2 : o2.data = .cell (some (.ref x))) (hlen : cl.length = hs.length) (hcl : (∀ (j : Nat) (p : Addr × Obj), cl[j]? = some p → ∃ q t u, hs[j]? = some q ∧ p.2 = tupO (.str (nmS q.1 q.2.1) t) (.str q.2.2 u))) (hdlen : dl.length = hs.length) (hdl : (∀ (j : Nat) (p : Addr × Obj), dl[j]? = some p → ∃ q t u, hs[j]? = some q ∧ p.2 = tupO (.str (nmS q.1 q.2.1) t) (.str q.2.2 u))) (hl3 : hs.length = 3) (hk3 : ∀ q ∈ hs, q.1 < 3) (hok : ∀ q ∈ hs, PyData.strOk q.2.2 = true) (hvl : vs.length = 3) (gr : Nat → Bool) (hv : ∀ k, k < 3 → ∃ t, vs[k]? = some (.str (nmS k (gr k)) t)) (hsc : ∀ i, pk3 s0 s1 s2 i ≤ pk3 c0 c1 c2 i) (hget : ∀ k, k < 3 → (hs.filter fun q => q.1 == k).map (·.2.2) = [rst c0 c1 c2 s0 s1 s2 k]) (hrok : ∀ i, PyData.strOk (rst c0 c1 c2 s0 s1 s2 i) = true) (hd : dp + 30 < recursionLimit) (hu : un + 400 < cLine)
   (next : ∀ h' tk', Fr g L h' (mp [(Str.ofString "due", .ref U), (Str.ofString "other", .ref O), (Str.ofString "row", .ref W9), (Str.ofString "pairs", .ref P), (Str.ofString "fits", .ref ft), (Str.ofString "above", .int (ab : Nat) v1), (Str.ofString "level", .int (lv : Nat) v0), (Str.ofString "left", .ref lf), (Str.ofString "total", .int ((c0 + c1 + c2 : Nat) : Int) tt), (Str.ofString "told", .ref Td), (Str.ofString "first", .ref Fi), (Str.ofString "names", .ref M), (Str.ofString "debts", .ref D), (Str.ofString "script", .ref S)]) → News g L h' ((U, listOf (dl.map fun p => Value.ref p.1).toArray nd) :: (L + 1 + 1, o2) :: (H, listOf (cl.map fun p => Value.ref p.1).toArray n) :: (x, instObj 216 dx) :: (dx, bkD w.params tb H) :: (M, listOf vs.toArray nm) :: (L + 1 + 1 + 1 + 1, o4) :: (q, listOf #[.int (c0 : Int) t0, .int (c1 : Int) t1, .int (c2 : Int) t2] nq) :: (L + 1 + 1 + 1 + 1 + 1 + 1, o6) :: (r, listOf #[.int (s0 : Nat) w0, .int (s1 : Nat) w1, .int (s2 : Nat) w2] nr) :: (dl ++ (cl ++ R))) →  wpAny (model prg w) (Ar dp fr gd un) (execs (lawRest 23) (lawEnv L)) Q Fls { s with heap := h', toks := tk' }) :
   wpAny (model prg w) (Ar dp fr gd un) (execs (lawRest 22) (lawEnv L)) Q Fls s := by
  have X := Wg.X
  obtain ⟨p9, l9, T⟩ := Wg.T
  with_unfolding_all show wpAny _ _ (execs (_ :: lawRest 23) (envOfC (Str.ofString "law") _ L 305 (.ref 304))) _ _ _
  w_on
  have hl10 : cl.length < 10 := by omega
  k_steps
  refine Stop.go ?_
  refine items_wp (s := { s with heap := s.heap, toks := _ }) rfl Wg ?kB (by k_room) (by (try simp only [units_in1, units_deeper, Around.mark_units]); (try dsimp only); omega) x dx H tb n cl hs hlen hl10 hk3 hcl (N _ (.tail _ (.tail _ (.tail _ (.head _))))).1 (N _ (.tail _ (.tail _ (.tail _ (.head _))))).2.2 (N _ (.tail _ (.tail _ (.tail _ (.tail _ (.head _)))))).1 (N _ (.tail _ (.tail _ (.tail _ (.tail _ (.head _)))))).2.2 (N _ (.tail _ (.tail _ (.head _)))).1 (N _ (.tail _ (.tail _ (.head _)))).2.2 (fun p hp => ⟨(N _ (.tail _ (.tail _ (.tail _ (.tail _ (.tail _ (.tail _ (.tail _ (.tail _ (.tail _ (.tail _ (List.mem_append_right _ (List.mem_append_left _ (hp)))))))))))))).1, (N _ (.tail _ (.tail _ (.tail _ (.tail _ (.tail _ (.tail _ (.tail _ (.tail _ (.tail _ (.tail _ (List.mem_append_right _ (List.mem_append_left _ (hp)))))))))))))).2.2⟩) fun h9 tk9 I9 k9 gI fI => ?_
  case kB => exact F.keep
  have F9 := Fr.keeps F k9
  have N9 : News g L h9 ((I9, listOf (cl.map fun p => Value.ref p.1).toArray 0) :: (U, listOf (dl.map fun p => Value.ref p.1).toArray nd) :: (L + 1 + 1, o2) :: (H, listOf (cl.map fun p => Value.ref p.1).toArray n) :: (x, instObj 216 dx) :: (dx, bkD w.params tb H) :: (M, listOf vs.toArray nm) :: (L + 1 + 1 + 1 + 1, o4) :: (q, listOf #[.int (c0 : Int) t0, .int (c1 : Int) t1, .int (c2 : Int) t2] nq) :: (L + 1 + 1 + 1 + 1 + 1 + 1, o6) :: (r, listOf #[.int (s0 : Nat) w0, .int (s1 : Nat) w1, .int (s2 : Nat) w2] nr) :: (dl ++ (cl ++ R))) := List.forall_mem_cons.mpr ⟨⟨gI, new_off F fI⟩, News.grown N k9⟩
  clear F N
  k_steps
  refine Stop.go ?_
  refine kqd_ne_f N9 (.head _) rfl rfl (dat_ents hcl hlen) (fun p hp => .tail _ (.tail _ (.tail _ (.tail _ (.tail _ (.tail _ (.tail _ (.tail _ (.tail _ (.tail _ (.tail _ (List.mem_append_right _ (List.mem_append_left _ (hp)))))))))))))) (.tail _ (.head _)) rfl rfl (dat_ents hdl hdlen) (fun p hp => .tail _ (.tail _ (.tail _ (.tail _ (.tail _ (.tail _ (.tail _ (.tail _ (.tail _ (.tail _ (.tail _ (List.mem_append_left _ (hp))))))))))))) (entD_ok hk3 hok) (by (try simp only [units_in1, units_deeper, Around.mark_units]); (try dsimp only); omega) ?_
  k_steps
  refine Stop.go ?_
  k_dflt (refine LCg.ListComp_U (F₀ := by k_asm) (by with_unfolding_all rfl) (by decide) (by rfl) (by decide) (by rfl) ?_)
  k_steps
  refine Stop.go ?_
  refine LCg.CompSrc.ledger (ax := M) (its := vs.toArray) (k := nm) rfl F9 N9 (by k_mem) (size_small (by simp; omega)) ?_
  intro g'
  with_unfolding_all refine rest_inv (n := vs.toArray.size) (fun _ : Unit => _) (fun j ys _ => ys.length = j ∧ ∀ (i : Nat) v, ys[i]? = some v → i < 3 → ∃ t, v = .str (rst c0 c1 c2 s0 s1 s2 i) t) ?turn ?fin _ 0 [] () (Nat.zero_add _) ⟨rfl, fun i p h => nomatch h⟩
  case turn =>
    rintro j ys _ v I oI C2 oC Dd m₂ h2 tk2 E' hj ⟨hj1, hj2⟩ hvj hC hx F2 N2 off2 ne2
    clear F9 N9
    have hj4 : j < 3 := by simpa [hvl] using hj
    obtain ⟨tv, hv'⟩ := hv j hj4
    have ev : v = .str (nmS j (gr j)) tv := by
      have : vs[j]? = some v := by simpa using hvj
      rw [hv'] at this; exact (Option.some.inj this).symm
    subst ev
    k_steps
    refine Stop.go ?_
    refine get2_wp rfl Wg ?kB8 (by k_room) (by (try simp only [units_in1, units_deeper, Around.mark_units]); (try dsimp only); omega) x dx H tb n cl hs hlen hl10 hk3 hcl (N2 _ (.tail _ (.tail _ (.tail _ (.tail _ (.tail _ (.tail _ (.tail _ (.head _))))))))).1 (N2 _ (.tail _ (.tail _ (.tail _ (.tail _ (.tail _ (.tail _ (.tail _ (.head _))))))))).2.2 (N2 _ (.tail _ (.tail _ (.tail _ (.tail _ (.tail _ (.tail _ (.tail _ (.tail _ (.head _)))))))))).1 (N2 _ (.tail _ (.tail _ (.tail _ (.tail _ (.tail _ (.tail _ (.tail _ (.tail _ (.head _)))))))))).2.2 (N2 _ (.tail _ (.tail _ (.tail _ (.tail _ (.tail _ (.tail _ (.head _)))))))).1 (N2 _ (.tail _ (.tail _ (.tail _ (.tail _ (.tail _ (.tail _ (.head _)))))))).2.2 (fun p hp => ⟨(N2 _ (.tail _ (.tail _ (.tail _ (.tail _ (.tail _ (.tail _ (.tail _ (.tail _ (.tail _ (.tail _ (.tail _ (.tail _ (.tail _ (.tail _ (List.mem_append_right _ (List.mem_append_left _ (hp)))))))))))))))))).1, (N2 _ (.tail _ (.tail _ (.tail _ (.tail _ (.tail _ (.tail _ (.tail _ (.tail _ (.tail _ (.tail _ (.tail _ (.tail _ (.tail _ (.tail _ (List.mem_append_right _ (List.mem_append_left _ (hp)))))))))))))))))).2.2⟩) j (gr j) tv hj4 fun h8 tk8 vj k8 hS => ?_
    case kB8 => exact F2.keep
    have F8 := Fr.keeps F2 k8
    have N8 := News.grown N2 k8
    clear F2 N2
    rw [hget j hj4] at hS
    k_steps
    refine Stop.go ?_
    refine LCg.CompEnd.intro F8 N8 _ (fun _ h => h) off2 trivial ⟨(), fun _ h => h, .inr ⟨_, by k_mem, rfl, _, rfl⟩, ?_, ?_⟩
    · rw [List.length_append, List.length_singleton, hj1]
    · exact at_snoc (Q := fun i (v : Value) => i < 3 → ∃ t, v = .str (rst c0 c1 c2 s0 s1 s2 i) t) hj2 (by rw [hj1]; exact fun _ => hS)
  case fin =>
    rintro ys _ ⟨hj1, hj2⟩
    clear F9 N9
    unfold LCg.FinE
    intro D1 h8 tk8 F8 N8 o8
    k_steps
    refine Stop.go ?_
    k_dflt (refine LCg.ListComp_U (F₀ := by k_asm) (by with_unfolding_all rfl) (by decide) (by rfl) (by decide) (by rfl) ?_)
    k_steps
    refine Stop.go ?_
    rename Fr _ _ _ _ => F1
    rename News _ _ _ _ => N1
    rename IsRange _ _ _ _ _ _ _ _ => hrr
    refine LCg.CompSrc.range (n := 3) rfl F1 N1 hrr (by decide) (by decide) (by decide) ?_
    intro g''
    with_unfolding_all refine rest_inv (n := 3) (fun _ : Unit => _) (fun j zs _ => zs.length = j ∧ ∀ (i : Nat) v, zs[i]? = some v → i < 3 → ∃ t, v = .str (rst c0 c1 c2 s0 s1 s2 i) t) ?turn2 ?fin2 _ 0 [] () (Nat.zero_add _) ⟨rfl, fun i p h => nomatch h⟩
    case turn2 =>
      rintro j zs _ v I oI C2 oC Dd m₂ h2 tk2 E' hj ⟨hk1, hk2⟩ ⟨tv, rfl⟩ hC hx F2 N2 off2 ne2
      clear F1 N1 hrr
      obtain ⟨u1, hu1⟩ := pk3_at (c0 := c0) (c1 := c1) (c2 := c2) (a0 := t0) (a1 := t1) (a2 := t2) hj
      obtain ⟨u2, hu2⟩ := pk3_at (c0 := s0) (c1 := s1) (c2 := s2) (a0 := w0) (a1 := w1) (a2 := w2) hj
      have hle := hsc j
      have hlt := pk3_lt (c0 := c0) (c1 := c1) (c2 := c2) (B := 200) (by omega) (by omega) (by omega) j
      obtain ⟨qs, hqs⟩ : ∃ qs : List Value, qs = [Value.int (c0 : Nat) t0, .int (c1 : Nat) t1, .int (c2 : Nat) t2] := ⟨_, rfl⟩
      obtain ⟨rs, hrs⟩ : ∃ rs : List Value, rs = [Value.int (s0 : Nat) w0, .int (s1 : Nat) w1, .int (s2 : Nat) w2] := ⟨_, rfl⟩
      rw [← hqs] at N2 hu1
      rw [← hrs] at N2 hu2
      k_steps
      refine Stop.go ?_
      refine my_item (by is_list) (by omega) (by omega) hu1 ?_
      k_steps
      refine Stop.go ?_
      refine my_item (by is_list) (by omega) (by omega) hu2 ?_
      k_steps
      refine Stop.go ?_
      subst hqs
      subst hrs
      refine LCg.CompEnd.intro F2 N2 _ (fun _ h => h) off2 trivial ⟨(), fun _ h => h, trivial, ?_, ?_⟩
      · rw [List.length_append, List.length_singleton, hk1]
      · refine at_snoc (Q := fun i (v : Value) => i < 3 → ∃ t, v = .str (rst c0 c1 c2 s0 s1 s2 i) t) hk2 ?_
        intro _
        rw [hk1]
        have e : (((pk3 c0 c1 c2 j : Nat) : Int) - ((pk3 s0 s1 s2 j : Nat) : Int)).toNat = pk3 c0 c1 c2 j - pk3 s0 s1 s2 j := by omega
        unfold rst
        rw [← e]
        exact ⟨_, rfl⟩
    case fin2 =>
      rintro zs _ ⟨hk1, hk2⟩
      clear F1 N1 hrr
      unfold LCg.FinE
      intro D2 h7 tk7 F7 N7 o7
      k_steps
      refine Stop.go ?_
      have el1 : ys.length = 3 := by rw [hj1, List.size_toArray, hvl]
      have A1 := dat_of (D := fun i => if i < 3 then Dat.str (rst c0 c1 c2 s0 s1 s2 i) else Dat.none) (P := fun i v => i < 3 ∧ ∃ t, v = .str (rst c0 c1 c2 s0 s1 s2 i) t) (fun i v ⟨hi, t, e⟩ => by rw [if_pos hi, e]; exact .str _ t) ys 0 (fun i v hv => by
        have hi : i < 3 := by rw [← el1]; exact (List.getElem?_eq_some_iff.mp hv).1
        rw [Nat.zero_add]; exact ⟨hi, hj2 i v hv hi⟩)
      have A2 := dat_of (D := fun i => if i < 3 then Dat.str (rst c0 c1 c2 s0 s1 s2 i) else Dat.none) (P := fun i v => i < 3 ∧ ∃ t, v = .str (rst c0 c1 c2 s0 s1 s2 i) t) (fun i v ⟨hi, t, e⟩ => by rw [if_pos hi, e]; exact .str _ t) zs 0 (fun i v hv => by
        have hi : i < 3 := by rw [← hk1]; exact (List.getElem?_eq_some_iff.mp hv).1
        rw [Nat.zero_add]; exact ⟨hi, hk2 i v hv hi⟩)
      rw [el1] at A1
      rw [hk1] at A2
      refine kqd_ne_f N7 (.tail _ (.head _)) rfl rfl A1 (fun p hp => nomatch hp) (.head _) rfl rfl A2 (fun p hp => nomatch hp) (fun d hd => ?_) (by (try simp only [units_in1, units_deeper, Around.mark_units]); (try dsimp only); omega) ?_
      · obtain ⟨i, hi, rfl⟩ := List.mem_map.mp hd
        by_cases h3 : i < 3
        · rw [if_pos h3]; exact hrok i
        · rw [if_neg h3]; rfl
      k_steps
      exact next _ _ F7 (fun p hp => N7 p (.tail _ (.tail _ (.tail _ hp))))
end
end
end
section
set_option maxHeartbeats 4000000
open PySem PySem.W PySem.Calls PyProof.Rows
theorem fillL19 : PySem.Challenge.rw_uc0030_01 = PySem.Challenge.rw_uc0030_01 ∧ Mine.hd.heap_1 = Mine.hd.heap_1 := by k_fill; exact ⟨rfl, rfl⟩
local macro_rules | `(tactic| walk_at $k:str) => if ["eval ListComp", "compareOp NotEq ref ref", "eval Lambda", "call builtin:sorted"].contains k.getString then `(tactic| refine stop_of ?_) else Lean.Macro.throwUnsupported
theorem perm_lex {κ : Nat → Int} : ∀ {a b : List Nat}, a.Perm b → a.Pairwise (LexLt κ) → b.Pairwise (LexLt κ) → a = b
  | [], b, h, _, _ => (List.nil_perm.mp h).symm
  | x :: a, [], h, _, _ => absurd h.length_eq (by simp)
  | x :: a, y :: b, h, ha, hb => by
    have ha2 := List.pairwise_cons.mp ha
    have hb2 := List.pairwise_cons.mp hb
    have e : x = y := by
      have h1 : x ∈ y :: b := h.mem_iff.mp (.head _)
      have h2 : y ∈ x :: a := h.mem_iff.mpr (.head _)
      rcases List.mem_cons.mp h1 with e | h1
      · exact e
      rcases List.mem_cons.mp h2 with e | h2
      · exact e.symm
      have z1 := hb2.1 x h1
      have z2 := ha2.1 y h2
      unfold LexLt at z1 z2
      rcases z1 with z1 | ⟨z1, z3⟩ <;> rcases z2 with z2 | ⟨z2, z4⟩ <;> omega
    subst e
    rw [perm_lex ((List.perm_cons x).mp h) ha2.2 hb2.2]
theorem dat_map {news : List (Addr × Obj)} {V : Nat → Value} {Dt : Nat → Dat} : ∀ (l : List Nat), (∀ j ∈ l, DatIn news (V j) (Dt j)) → DatAll news (l.map V) (l.map Dt)
  | [], _ => .nil
  | j :: l, h => .cons (h j (.head _)) (dat_map l fun k hk => h k (.tail _ hk))
theorem st19 {w : World} {mean : ExcName → Option Value} {mg mb : Str → Option Value} {dp un : Nat} {fr : Option (List Env)} {gd : Option (List Code)} {s : Shared} {Q : Flow → Shared → Prop} {g : Heap} {L S : Addr} {R : List (Addr × Obj)} (Wg : Wd w mean mg mb g) (D M Fi Td lf ft P W9 : Addr) (cl : List (Addr × Obj)) (np nw : Nat) (ord : List Nat) (c0 c1 c2 lv ab : Nat) (tt v0 v1 : Tok)
   (F : Fr g L s.heap (mp [(Str.ofString "row", .ref W9), (Str.ofString "pairs", .ref P), (Str.ofString "fits", .ref ft), (Str.ofString "above", .int (ab : Nat) v1), (Str.ofString "level", .int (lv : Nat) v0), (Str.ofString "left", .ref lf), (Str.ofString "total", .int ((c0 + c1 + c2 : Nat) : Int) tt), (Str.ofString "told", .ref Td), (Str.ofString "first", .ref Fi), (Str.ofString "names", .ref M), (Str.ofString "debts", .ref D), (Str.ofString "script", .ref S)])) (N : News g L s.heap (((302 : Nat), tabObj #[]) :: (W9, listOf (ord.map fun j => Value.ref (ad cl j)).toArray nw) :: (P, listOf (cl.map fun p => Value.ref p.1).toArray np) :: (cl ++ R)))
   (f : Nat → Int) (hf : ∀ j, -900 < f j ∧ f j < 900) (hlen : cl.length = 6) (hcl : ∀ (j : Nat) (p : Addr × Obj), cl[j]? = some p → IsPair f j p.2) (hR2 : ∀ p ∈ (W9, listOf (ord.map fun j => Value.ref (ad cl j)).toArray nw) :: (P, listOf (cl.map fun p => Value.ref p.1).toArray np) :: (cl ++ R), p.1 ≠ 302) (hperm : List.Perm ord (List.range 6)) (hpw : ord.Pairwise (LexLt fun j => - f (j + 1))) (hd : dp + 30 < recursionLimit) (hu : un + 400 < cLine)
   (next : ∀ h' tk' (tab : Array Value), Fr g L h' (mp [(Str.ofString "row", .ref W9), (Str.ofString "pairs", .ref P), (Str.ofString "fits", .ref ft), (Str.ofString "above", .int (ab : Nat) v1), (Str.ofString "level", .int (lv : Nat) v0), (Str.ofString "left", .ref lf), (Str.ofString "total", .int ((c0 + c1 + c2 : Nat) : Int) tt), (Str.ofString "told", .ref Td), (Str.ofString "first", .ref Fi), (Str.ofString "names", .ref M), (Str.ofString "debts", .ref D), (Str.ofString "script", .ref S)]) → News g L h' (((302 : Nat), tabObj tab) :: (W9, listOf (ord.map fun j => Value.ref (ad cl j)).toArray nw) :: (P, listOf (cl.map fun p => Value.ref p.1).toArray np) :: (cl ++ R)) →  wpAny (model prg w) (Ar dp fr gd un) (execs (lawRest 20) (lawEnv L)) Q Fls { s with heap := h', toks := tk' }) :
   wpAny (model prg w) (Ar dp fr gd un) (execs (lawRest 19) (lawEnv L)) Q Fls s := by
  have X := Wg.X
  obtain ⟨p9, l9, T⟩ := Wg.T
  with_unfolding_all show wpAny _ _ (execs (_ :: lawRest 20) (envOfC (Str.ofString "law") _ L 305 (.ref 304))) _ _ _
  w_on
  have hC : CodeHd g 304 302 := codeHd_of_K X (by kernel_rfl)
  k_steps
  refine Stop.go ?_
  rename Fr _ _ _ _ => F1
  rename News _ _ _ _ => N1
  k_dflt (refine' kla_eval ?d0 ?_; (case d0 => exact rfl)); (k_dflt (refine' kla_nest ?F ?N ?T ?C ?cd ?U ?tq ?nq ?clq ?_; (case F => k_asm); (case N => k_asm); (case T => k_asm); (case cd => exact rfl); (case C => assumption); (case U => exact UpdF.head hR2); (case tq => kn_triples); (case nq => kn_among); (case clq => exact rfl); k_whole))
  intro fa c' oc' vs' t' ct' h2 tk2 F2 N2 hd1 hd2 l1 l2
  dsimp only at N2
  clear F1 N1
  k_steps
  refine Stop.go ?_
  show wpAny _ _ (call (.builtin "sorted") [.ref P] [(Str.ofString "key", .ref fa)]) _ _ _
  have zP := N2 (P, listOf (cl.map fun p => Value.ref p.1).toArray np) (by k_mem)
  refine sortK6 (κ := fun j => - f (j + 1)) (vs := cl.map fun p => Value.ref p.1) (d := 4) (u' := 30) rfl (by k_room) (by (try simp only [units_in1, units_deeper, Around.mark_units]); (try dsimp only); omega) F2 N2 ⟨_, zP.1, rfl, _, rfl⟩ (by rw [List.length_map, hlen]) ?hkey fun h3 tk3 D9 ord9 n9 hp9 hw9 F3 N3 => ?_
  case hkey =>
    intro h2 F2 N2 j v hj A s' Q' E' hA hd hu hk' hq
    have hj6 : j < cl.length := by
      have := (List.getElem?_eq_some_iff.mp hj).1
      rwa [List.length_map] at this
    obtain ⟨p, hp⟩ : ∃ p, cl[j]? = some p := ⟨_, List.getElem?_eq_getElem hj6⟩
    obtain ⟨t5, u5, e5⟩ := hcl j p hp
    have hpN := N2 p (.tail _ (.tail _ (.tail _ (.tail _ (.tail _ (List.mem_append_left _ (List.mem_of_getElem? hp)))))))
    rw [e5] at hpN
    have hfN := N2 _ (List.Mem.head _)
    have hvp : v = .ref p.1 := by
      rw [List.getElem?_map, hp] at hj
      exact (Option.some.inj hj).symm
    rw [hvp, ar_of hA]
    refine call_of (enterLam0 (Str.ofString "one") _ Wg (Kp.trans F2.keep hk') [(p.1, tupO (.int (f (j + 1)) t5) (.int (1 + (j : Int)) u5))] ?kn (hk' _ _ hfN.1) ?kc (by k_room) ?kb rfl ?_ (by decide) rfl rfl rfl)
    case kn => exact List.forall_mem_cons.mpr ⟨⟨hk' _ _ hpN.1, hpN.2.2⟩, fun _ h => nomatch h⟩
    case kc => exact ⟨c', oc', vs', t', rfl, hk' _ _ (N2 (c', oc') (by k_mem)).1, hd1, hd2⟩
    case kb => exact rfl
    clear X T N2 F2
    intro g2 L2 h₁ tk F2 N2 Wg2 hk2 hL2
    have X := Wg2.X
    obtain ⟨p8, l8, T⟩ := Wg2.T
    w_on
    k_steps
    rename Fr _ _ _ _ => F3
    rename News _ _ _ _ => N3
    show Q' (.int (- f (j + 1)) _) _
    exact hq _ _ _ (kp_end F3 N3 hk2 (List.forall_mem_cons.mpr ⟨hk' _ _ hpN.1, fun _ h => nomatch h⟩) (List.forall_mem_cons.mpr ⟨by k_mem, fun _ h => nomatch h⟩))
  clear F2
  have eo : ord9 = ord := perm_lex (hp9.trans hperm.symm) hw9 hpw
  subst eo
  k_steps
  refine Stop.go ?_
  have hdat : ∀ (V : Nat → Value), (∀ j, j < 6 → V j = .ref (ad cl j)) → DatAll cl (ord9.map V) (ord9.map fun j => Dat.tuple [.int (f (j + 1)), .int (1 + (j : Int))]) := fun V hV => dat_map ord9 fun j hj => by
    have hj6 : j < 6 := by have := hperm.mem_iff.mp hj; simpa using this
    obtain ⟨p, hp⟩ : ∃ p, cl[j]? = some p := ⟨_, List.getElem?_eq_getElem (by omega)⟩
    obtain ⟨t5, u5, e5⟩ := hcl j p hp
    have hm := List.mem_of_getElem? hp
    rw [hV j hj6, ad_eq hp]
    refine .tuple (vs := [.int (f (j + 1)) t5, .int (1 + (j : Int)) u5]) (n := 0) ?_ (.cons (.int _ _) (.cons (.int _ _) .nil))
    rw [show p = (p.1, p.2) from rfl, e5] at hm
    exact hm
  refine kqd_ne_f (n₁ := cl) (n₂ := cl) N3 (by k_mem) rfl rfl (Da := hdat _ fun j _ => rfl) (fun p hp => .tail _ (.tail _ (.tail _ (.tail _ (.tail _ (.tail _ (List.mem_append_left _ hp))))))) (.head _) rfl rfl (hdat _ fun j hj => ?_) (fun p hp => .tail _ (.tail _ (.tail _ (.tail _ (.tail _ (.tail _ (List.mem_append_left _ hp))))))) (fun d hd => ?_) (by (try simp only [units_in1, units_deeper, Around.mark_units]); (try dsimp only); omega) ?_
  · rw [List.getD_eq_getElem?_getD, List.getElem?_map, List.getElem?_eq_getElem (show j < cl.length by omega)]
    rw [ad_eq (List.getElem?_eq_getElem (show j < cl.length by omega))]; rfl
  · obtain ⟨i, hi, rfl⟩ := List.mem_map.mp hd
    rfl
  k_steps
  rename Fr _ _ _ _ => F4
  rename News _ _ _ _ => N4
  exact next _ _ _ (frc F4 (by ktn_open)) fun p hp => N4 p (.tail _ (.tail _ (.tail _ hp)))
end
section
set_option maxHeartbeats 4000000
open PySem PySem.W PySem.Calls PyProof.Rows
theorem fillL20 : PySem.Challenge.rw_uc0030_01 = PySem.Challenge.rw_uc0030_01 ∧ Mine.hd.heap_1 = Mine.hd.heap_1 := by k_fill; exact ⟨rfl, rfl⟩
local macro_rules | `(tactic| walk_at $k:str) => if ["eval ListComp", "compareOp NotEq ref ref", "compareOp Lt ref ref", "exec For", "exec For Name Call cons nil", "pyIter ref"].contains k.getString then `(tactic| refine stop_of ?_) else Lean.Macro.throwUnsupported
local macro_rules | `(tactic| walk_at "subscriptTail Name Constant ref int") => `(tactic| (refine' my_item ?hl ?h0 ?h1 ?hx ?_; (case hl => is_list); (case h0 => decide); (case h1 => decide); (case hx => assumption)))
local macro_rules | `(tactic| walk_at $k:str) => if ["call builtin:sorted"].contains k.getString then `(tactic| refine stop_of ?_) else Lean.Macro.throwUnsupported
theorem mo1_none {k : Str} {m : Str → Option Value} (h : m k = none) : mo1 k none m = m := by
  funext y
  unfold mo1
  split
  · rename_i e; rw [e, h]
  · rfl
theorem mo1_some (k : String) (v : Value) (l : List (Str × Value)) : mo1 (Str.ofString k) (some v) (mp l) = mp ((Str.ofString k, v) :: l) := rfl
theorem mo1_twice {k : Str} {v : Value} {ov : Option Value} {m : Str → Option Value} : (fun y => if y = k then some v else mo1 k ov m y) = mo1 k (some v) m := by
  funext y
  unfold mo1
  by_cases h : y = k
  · rw [if_pos h, if_pos h]
  · rw [if_neg h, if_neg h, if_neg h]
theorem ints_of {g : Nat → Int} : ∀ (ys : List Value) (k : Nat), (∀ (i : Nat) (v : Value), ys[i]? = some v → ∃ t, v = Value.int (g (k + i)) t) → IntsAre ys ((List.range' k ys.length).map g)
  | [], _, _ => .nil
  | y :: ys, k, h => by
    obtain ⟨t, e⟩ := h 0 y rfl
    rw [e]
    refine .cons _ t (ints_of ys (k + 1) fun i v hv => ?_)
    have := h (i + 1) v hv
    rwa [show k + (i + 1) = k + 1 + i by omega] at this
theorem map_getD {g : Nat → Int} (l : List Nat) : (List.range' 0 l.length).map (fun i => g (l.getD i 0)) = l.map g := by
  apply List.ext_getElem
  · simp
  · intro i h1 h2
    simp at h1 h2
    simp [h2]
theorem others_wp {w : World} {mean : ExcName → Option Value} {mg mb : Str → Option Value} {A : Around} {s : Shared} {Q E : Value → Shared → Prop} {h₀ : Heap} (hA : A.handled = none) (W : Wd w mean mg mb h₀) (kB : Kp h₀ s.heap)
   (hd : A.depth + 8 < recursionLimit) (hu : A.units + 120 < cLine) (r : Addr) (nr : Nat) (s0 s1 s2 cell : Int) (t0 t1 t2 u : Tok) 
   (hr : s.heap.get? r = some (listOf #[.int s0 t0, .int s1 t1, .int s2 t2] nr)) (hrB : h₀.get? r = none)
   (hQ : ∀ h' tk' D (cl : List (Addr × Obj)) n', Kp s.heap h' → cl.length ≤ 10 ∧ 0 < cl.length → (∀ p ∈ cl, IsOther s0 s1 s2 p.2 ∧ h'.get? p.1 = some p.2 ∧ s.heap.get? p.1 = none) → h'.get? D = some (listOf (cl.map fun p => Value.ref p.1).toArray n') → s.heap.get? D = none → Q (.ref D) { s with heap := h', toks := tk' }) :
   wpAny (model prg w) A (call (.ref 281) [.ref r, .int cell u]) Q E s := by
  rw [ar_of hA]
  exact call_of (others_call W kB hd hu r nr s0 s1 s2 cell t0 t1 t2 u hr hrB hQ)
theorem st20 {w : World} {mean : ExcName → Option Value} {mg mb : Str → Option Value} {dp un : Nat} {fr : Option (List Env)} {gd : Option (List Code)} {s : Shared} {Q : Flow → Shared → Prop} {g : Heap} {L S : Addr} {R : List (Addr × Obj)} (Wg : Wd w mean mg mb g) (C D M Fi Td lf ft P W9 : Addr) (o1 : Obj) (ws : List Value) (nw : Nat) (c6 : Int) (t6 : Tok) (vs : List Value) (nf : Nat) (cl : List (Addr × Obj)) (np n9 : Nat) (ord : List Nat) (c0 c1 c2 lv ab : Nat) (tt v0 v1 : Tok) (r : Addr) (o6 : Obj) (s0 s1 s2 : Nat) (w0 w1 w2 : Tok) (nr : Nat)
   (F : Fr g L s.heap (mp [(Str.ofString "row", .ref W9), (Str.ofString "pairs", .ref P), (Str.ofString "fits", .ref ft), (Str.ofString "above", .int (ab : Nat) v1), (Str.ofString "level", .int (lv : Nat) v0), (Str.ofString "left", .ref lf), (Str.ofString "total", .int ((c0 + c1 + c2 : Nat) : Int) tt), (Str.ofString "told", .ref Td), (Str.ofString "first", .ref Fi), (Str.ofString "names", .ref M), (Str.ofString "debts", .ref D), (Str.ofString "script", .ref S)])) (N : News g L s.heap ((W9, listOf (ord.map fun j => Value.ref (ad cl j)).toArray n9) :: (P, listOf (cl.map fun p => Value.ref p.1).toArray np) :: (lf, listOf vs.toArray nf) :: (L + 1 + 1 + 1 + 1 + 1 + 1, o6) :: (r, listOf #[.int (s0 : Nat) w0, .int (s1 : Nat) w1, .int (s2 : Nat) w2] nr) :: (L + 1, o1) :: (C, listOf ws.toArray nw) :: (cl ++ R)))
   (d1 : o1.data = .cell (some (.ref C))) (h6 : ws[6]? = some (.int c6 t6)) (d6 : o6.data = .cell (some (.ref r))) (hs0 : s0 ≤ 120) (hs1 : s1 ≤ 120) (hs2 : s2 ≤ 120) (hvl : vs.length = 7) (lfF : Nat → Int) (hT : ∀ i, i < 7 → ∃ t, vs[i]? = some (.int (lfF i) t)) (hlf : ∀ i, -1000 < lfF i ∧ lfF i < 1000) (hlen : cl.length = 6) (hcl : ∀ (j : Nat) (p : Addr × Obj), cl[j]? = some p → IsPair (cmp1 lfF (pick3 s0 s1 s2)) j p.2) (hperm : List.Perm ord (List.range 6)) (hlaw : ∀ a b c, Shift s0 s1 s2 a b c → ∀ Y : List Int, Y.Perm ((List.range 6).map fun j => cmp1 lfF (pick3 a b c) (j + 1)) → Y.Pairwise (fun x y => y ≤ x) → lexB (ord.map fun j => cmp1 lfF (pick3 s0 s1 s2) (j + 1)) Y = true) (hd : dp + 30 < recursionLimit) (hu : un + 400 < cLine)
   (next : ∀ h' tk' (O : Addr), Fr g L h' (mp [(Str.ofString "other", .ref O), (Str.ofString "row", .ref W9), (Str.ofString "pairs", .ref P), (Str.ofString "fits", .ref ft), (Str.ofString "above", .int (ab : Nat) v1), (Str.ofString "level", .int (lv : Nat) v0), (Str.ofString "left", .ref lf), (Str.ofString "total", .int ((c0 + c1 + c2 : Nat) : Int) tt), (Str.ofString "told", .ref Td), (Str.ofString "first", .ref Fi), (Str.ofString "names", .ref M), (Str.ofString "debts", .ref D), (Str.ofString "script", .ref S)]) → News g L h' ((W9, listOf (ord.map fun j => Value.ref (ad cl j)).toArray n9) :: (P, listOf (cl.map fun p => Value.ref p.1).toArray np) :: (lf, listOf vs.toArray nf) :: (L + 1 + 1 + 1 + 1 + 1 + 1, o6) :: (r, listOf #[.int (s0 : Nat) w0, .int (s1 : Nat) w1, .int (s2 : Nat) w2] nr) :: (L + 1, o1) :: (C, listOf ws.toArray nw) :: (cl ++ R)) →  wpAny (model prg w) (Ar dp fr gd un) (execs (lawRest 21) (lawEnv L)) Q Fls { s with heap := h', toks := tk' }) :
   wpAny (model prg w) (Ar dp fr gd un) (execs (lawRest 20) (lawEnv L)) Q Fls s := by
  have X := Wg.X
  obtain ⟨p9, l9, T⟩ := Wg.T
  with_unfolding_all show wpAny _ _ (execs (_ :: lawRest 21) (envOfC (Str.ofString "law") _ L 305 (.ref 304))) _ _ _
  w_on
  k_steps
  refine Stop.go ?_
  rename Fr _ _ _ _ => F1
  rename News _ _ _ _ => N1
  refine For_invTF F1 ?_ (fun x => rfl) (by passes_own)
  k_steps
  refine Stop.go ?_
  rename Fr _ _ _ _ => F1
  rename News _ _ _ _ => N1
  have zr := N1 (r, listOf #[.int (s0 : Nat) w0, .int (s1 : Nat) w1, .int (s2 : Nat) w2] nr) (by k_mem)
  refine others_wp rfl Wg ?kB (by k_room) (by (try simp only [units_in1, units_deeper, Around.mark_units]); (try dsimp only); omega) r nr s0 s1 s2 c6 w0 w1 w2 t6 zr.1 zr.2.2 fun h2 tk2 Dl ol nl k2 hol hol2 gD fD => ?_
  case kB => exact F1.keep
  have F2 := Fr.keeps F1 k2
  have oD := new_off F1 fD
  have N2 : News g L h2 ((Dl, listOf (ol.map fun p => Value.ref p.1).toArray nl) :: (W9, listOf (ord.map fun j => Value.ref (ad cl j)).toArray n9) :: (P, listOf (cl.map fun p => Value.ref p.1).toArray np) :: (lf, listOf vs.toArray nf) :: (L + 1 + 1 + 1 + 1 + 1 + 1, o6) :: (r, listOf #[.int (s0 : Nat) w0, .int (s1 : Nat) w1, .int (s2 : Nat) w2] nr) :: (L + 1, o1) :: (C, listOf ws.toArray nw) :: (ol ++ (cl ++ R))) := (fac (⟨gD, oD⟩) ((fac ((News.grown N1 k2) _ (.head _)) ((fac ((News.grown N1 k2) _ (.tail _ (.head _))) ((fac ((News.grown N1 k2) _ (.tail _ (.tail _ (.head _)))) ((fac ((News.grown N1 k2) _ (.tail _ (.tail _ (.tail _ (.head _))))) ((fac ((News.grown N1 k2) _ (.tail _ (.tail _ (.tail _ (.tail _ (.head _)))))) ((fac ((News.grown N1 k2) _ (.tail _ (.tail _ (.tail _ (.tail _ (.tail _ (.head _))))))) ((fac ((News.grown N1 k2) _ (.tail _ (.tail _ (.tail _ (.tail _ (.tail _ (.tail _ (.head _)))))))) ((faa (fun p hp => ⟨(hol2 p hp).2.1, new_off F1 (hol2 p hp).2.2⟩) ((faa (fun p hp => (News.grown N1 k2) _ (.tail _ (.tail _ (.tail _ (.tail _ (.tail _ (.tail _ (.tail _ (List.mem_append_left _ (hp)))))))))) (fun p hp => (News.grown N1 k2) _ (.tail _ (.tail _ (.tail _ (.tail _ (.tail _ (.tail _ (.tail _ (List.mem_append_right _ (hp)))))))))))))))))))))))))))))
  have hoi : ∀ p ∈ ol, IsOther s0 s1 s2 p.2 := fun p hp => (hol2 p hp).1
  clear F1 N1 k2 gD fD oD hol2 zr
  k_steps
  refine Stop.go ?_
  rename Fr _ _ _ _ => F1
  rename News _ _ _ _ => N1
  with_unfolding_all refine forListT (ax := Dl) (its := (ol.map fun p => Value.ref p.1).toArray) (σ := Option Value) (fun c => mo1 (Str.ofString "other") c (mp [(Str.ofString "row", .ref W9), (Str.ofString "pairs", .ref P), (Str.ofString "fits", .ref ft), (Str.ofString "above", .int (ab : Nat) v1), (Str.ofString "level", .int (lv : Nat) v0), (Str.ofString "left", .ref lf), (Str.ofString "total", .int ((c0 + c1 + c2 : Nat) : Int) tt), (Str.ofString "told", .ref Td), (Str.ofString "first", .ref Fi), (Str.ofString "names", .ref M), (Str.ofString "debts", .ref D), (Str.ofString "script", .ref S)])) (fun _ => (Dl, listOf (ol.map fun p => Value.ref p.1).toArray nl) :: (W9, listOf (ord.map fun j => Value.ref (ad cl j)).toArray n9) :: (P, listOf (cl.map fun p => Value.ref p.1).toArray np) :: (lf, listOf vs.toArray nf) :: (L + 1 + 1 + 1 + 1 + 1 + 1, o6) :: (r, listOf #[.int (s0 : Nat) w0, .int (s1 : Nat) w1, .int (s2 : Nat) w2] nr) :: (L + 1, o1) :: (C, listOf ws.toArray nw) :: (ol ++ (cl ++ R))) (fun i c => (i = 0 ∨ ∃ O : Addr, c = some (.ref O))) none rfl rfl (by is_list) (.inr ⟨_, fun c => .head _⟩) (frc F1 (mo1_none rfl).symm) N1 (.inl rfl) ?_ ?_ ?_
  · intro I s' v Q' hq
    exact wpAny_pure hq
  · rintro I i ov h tk v oI s₁ hne hi hv hP F N
    clear F1 N1
    try dsimp only at hne F N
    have hi6 : i < ol.length := by simpa using hi
    obtain ⟨pi, hpi⟩ : ∃ p, ol[i]? = some p := ⟨_, List.getElem?_eq_getElem hi6⟩
    have hvp : v = .ref pi.1 := by
      have : (ol.map fun p => Value.ref p.1)[i]? = some v := by simpa using hv
      rw [List.getElem?_map, hpi] at this
      exact (Option.some.inj this).symm
    subst hvp
    obtain ⟨xa, xb, xc, xt, xu, xv, xn, eo, hsh⟩ := hoi pi (List.mem_of_getElem? hpi)
    have hON := N pi (.tail _ (.tail _ (.tail _ (.tail _ (.tail _ (.tail _ (.tail _ (.tail _ (.tail _ (List.mem_append_left _ ((List.mem_of_getElem? hpi))))))))))))
    rw [eo] at hON
    have N0 : News g L h ((pi.1, listOf #[.int xa xt, .int xb xu, .int xc xv] xn) :: (I, oI) :: (Dl, listOf (ol.map fun p => Value.ref p.1).toArray nl) :: (W9, listOf (ord.map fun j => Value.ref (ad cl j)).toArray n9) :: (P, listOf (cl.map fun p => Value.ref p.1).toArray np) :: (lf, listOf vs.toArray nf) :: (L + 1 + 1 + 1 + 1 + 1 + 1, o6) :: (r, listOf #[.int (s0 : Nat) w0, .int (s1 : Nat) w1, .int (s2 : Nat) w2] nr) :: (L + 1, o1) :: (C, listOf ws.toArray nw) :: (ol ++ (cl ++ R))) := (fac hON N)
    clear N hON
    k_steps
    refine Stop.go ?_
    rename Fr _ _ _ _ => F1
    rename News _ _ _ _ => N1
    k_dflt (refine LCg.ListComp_U (F₀ := by k_asm) (by with_unfolding_all rfl) (by decide) (by rfl) (by decide) (by rfl) ?_)
    k_steps
    refine Stop.go ?_
    refine LCg.CompSrc.ledger (ax := W9) (its := (ord.map fun j => Value.ref (ad cl j)).toArray) (k := n9) rfl F1 N1 (by k_mem) (size_small (by simp [hperm.length_eq])) ?_
    intro g'
    with_unfolding_all refine rest_inv (n := (ord.map fun j => Value.ref (ad cl j)).toArray.size) (fun _ : Unit => _) (fun j ys _ => ys.length = j ∧ ∀ (i : Nat) v, ys[i]? = some v → ∃ t, v = .int ((cmp1 lfF (pick3 s0 s1 s2)) (ord.getD i 0 + 1)) t) ?turn ?fin _ 0 [] () (Nat.zero_add _) ⟨rfl, fun i p h => nomatch h⟩
    case turn =>
      rintro j ys _ v I2 oI2 C2 oC2 Dd m₂ h2 tk2 E' hj ⟨hj1, hj2⟩ hvj hC hx F2 N2 off2 ne2
      clear F1 N1
      have hj6 : j < ord.length := by simpa using hj
      have hoj : ord.getD j 0 < 6 := by
        have := hperm.mem_iff.mp (List.getElem_mem hj6)
        rw [List.getD_eq_getElem?_getD, List.getElem?_eq_getElem hj6]
        simpa using this
      obtain ⟨pj, hpj⟩ : ∃ p, cl[ord.getD j 0]? = some p := ⟨_, List.getElem?_eq_getElem (by omega)⟩
      have ev : v = .ref pj.1 := by
        have : (ord.map fun j => Value.ref (ad cl j))[j]? = some v := by simpa using hvj
        rw [List.getElem?_map, List.getElem?_eq_getElem hj6] at this
        rw [List.getD_eq_getElem?_getD, List.getElem?_eq_getElem hj6] at hpj
        rw [← ad_eq hpj]
        exact (Option.some.inj this).symm
      subst ev
      obtain ⟨t5, u5, e5⟩ := hcl _ pj hpj
      have hpN := N2 pj (.tail _ (.tail _ (.tail _ (.tail _ (.tail _ (.tail _ (.tail _ (.tail _ (.tail _ (.tail _ (.tail _ (.tail _ (.tail _ (List.mem_append_right _ (List.mem_append_left _ ((List.mem_of_getElem? hpj)))))))))))))))))
      rw [e5] at hpN
      have N3 : News g L h2 ((pj.1, tupO (.int ((cmp1 lfF (pick3 s0 s1 s2)) (ord.getD j 0 + 1)) t5) (.int (1 + (ord.getD j 0 : Int)) u5)) :: _) := (fac hpN N2)
      clear N2
      k_steps
      refine Stop.go ?_
      rename Fr _ _ _ _ => F1
      rename News _ _ _ _ => N1
      refine LCg.CompEnd.intro F1 N1 _ (fun p hp => .tail _ hp) off2 trivial ⟨(), fun _ h => h, .inr ⟨_, by k_mem, rfl, _, rfl⟩, ?_, ?_⟩
      · rw [List.length_append, List.length_singleton, hj1]
      · exact at_snoc (Q := fun i (v : Value) => ∃ t, v = .int ((cmp1 lfF (pick3 s0 s1 s2)) (ord.getD i 0 + 1)) t) hj2 (by rw [hj1]; exact ⟨t5, rfl⟩)
    case fin =>
      rintro ys _ ⟨hj1, hj2⟩
      clear F1 N1
      unfold LCg.FinE
      intro D1 h8 tk8 F8 N8 o8
      k_steps
      refine Stop.go ?_
      rename Fr _ _ _ _ => F1
      rename News _ _ _ _ => N1
      k_dflt (refine LCg.ListComp_U (F₀ := by k_asm) (by with_unfolding_all rfl) (by decide) (by rfl) (by decide) (by rfl) ?_)
      k_steps
      refine Stop.go ?_
      have zl := N1 (lf, listOf vs.toArray nf) (by k_mem)
      have zO := N1 (pi.1, listOf #[.int xa xt, .int xb xu, .int xc xv] xn) (by k_mem)
      obtain ⟨p7, q7, hz7, ea, eb, ec, b1, b2, b3, b4⟩ := id hsh
      refine complaints_wp rfl Wg ?kB2 (by k_room) (by (try simp only [units_in1, units_deeper, Around.mark_units]); (try dsimp only); omega) lf pi.1 vs nf xn lfF hT xa xb xc (by omega) (by omega) (by omega) xt xu xv zl.1 zl.2.2 zO.1 zO.2.2 (ne_len zl.1 zO.1 (by rw [hvl]; exact (by decide : (7 : Nat) ≠ 3))) fun h7 tk7 P7 cl7 np7 k7 hcl76 hcl7 gP fP => ?_
      case kB2 => exact F1.keep
      have F7 := Fr.keeps F1 k7
      have N7 := News.grown N1 k7
      have N7 : News g L h7 ((P7, listOf (cl7.map fun p => Value.ref p.1).toArray np7) :: _) := (fac (⟨gP, new_off F1 fP⟩) N7)
      have hcl8 : ∀ (j : Nat) (p : Addr × Obj), cl7[j]? = some p → IsPair (cmp1 lfF (pick3 xa xb xc)) j p.2 := fun j p hp => (hcl7 j p hp).1
      have hcl9 : News g L h7 cl7 := fun p hp => let ⟨j, hj⟩ := List.getElem?_of_mem hp; ⟨(hcl7 j p hj).2.1, new_off F1 (hcl7 j p hj).2.2⟩
      clear F1 N1 k7 gP fP hcl7 zl zO
      k_steps
      refine Stop.go ?_
      have N8 : News g L h7 ((P7, listOf (cl7.map fun p => Value.ref p.1).toArray np7) :: (cl7 ++ _)) := (fac (N7 _ (.head _)) ((faa hcl9 (fun p hp => N7 p (.tail _ hp)))))
      clear N7 hcl9
      refine LCg.CompSrc.ledger (ax := P7) (its := (cl7.map fun p => Value.ref p.1).toArray) (k := np7) rfl F7 N8 (.head _) (size_small (by simp; omega)) ?_
      intro g''
      with_unfolding_all refine rest_inv (n := (cl7.map fun p => Value.ref p.1).toArray.size) (fun _ : Unit => _) (fun j zs _ => zs.length = j ∧ ∀ (i : Nat) v, zs[i]? = some v → ∃ t, v = .int ((cmp1 lfF (pick3 xa xb xc)) (i + 1)) t) ?turn2 ?fin2 _ 0 [] () (Nat.zero_add _) ⟨rfl, fun i p h => nomatch h⟩
      case turn2 =>
        rintro j zs _ v I2 oI2 C2 oC2 Dd m₂ h2 tk2 E' hj ⟨hk1, hk2⟩ hvj hC hx F2 N2 off2 ne2
        clear F7 N8
        have hj6 : j < cl7.length := by simpa using hj
        obtain ⟨pj, hpj⟩ : ∃ p, cl7[j]? = some p := ⟨_, List.getElem?_eq_getElem hj6⟩
        have ev : v = .ref pj.1 := by
          have : (cl7.map fun p => Value.ref p.1)[j]? = some v := by simpa using hvj
          rw [List.getElem?_map, hpj] at this
          exact (Option.some.inj this).symm
        subst ev
        obtain ⟨t5, u5, e5⟩ := hcl8 _ pj hpj
        have hpN := N2 pj (.tail _ (.tail _ (.tail _ (.tail _ (List.mem_append_left _ (List.mem_of_getElem? hpj))))))
        rw [e5] at hpN
        have N3 : News g L h2 ((pj.1, tupO (.int ((cmp1 lfF (pick3 xa xb xc)) (j + 1)) t5) (.int (1 + (j : Int)) u5)) :: _) := (fac hpN N2)
        clear N2
        k_steps
        refine Stop.go ?_
        rename Fr _ _ _ _ => F1
        rename News _ _ _ _ => N1
        refine LCg.CompEnd.intro F1 N1 _ (fun p hp => .tail _ hp) off2 trivial ⟨(), fun _ h => h, .inr ⟨_, by k_mem, rfl, _, rfl⟩, ?_, ?_⟩
        · rw [List.length_append, List.length_singleton, hk1]
        · exact at_snoc (Q := fun i (v : Value) => ∃ t, v = .int ((cmp1 lfF (pick3 xa xb xc)) (i + 1)) t) hk2 (by rw [hk1]; exact ⟨t5, rfl⟩)
      case fin2 =>
        rintro zs _ ⟨hk1, hk2⟩
        clear F7 N8
        unfold LCg.FinE
        intro D2 h9 tk9 F9 N9 o9
        have N9 : News g L h9 ((D2, LCg.lst zs) :: _) := (fac (N9 _ (.head _)) (fun p hp => N9 p (.tail _ (.tail _ (List.mem_append_right _ hp)))))
        k_steps
        refine Stop.go ?_
        show wpAny _ _ (call (.builtin "sorted") [.ref D2] [(Str.ofString "reverse", .bool true)]) _ _ _
        have ly : ys.length = 6 := by rw [hj1, List.size_toArray, List.length_map, hperm.length_eq]; rfl
        have lz : zs.length = 6 := by rw [hk1, List.size_toArray, List.length_map, hcl76]
        have Iy : IntsAre ys (ord.map fun j => (cmp1 lfF (pick3 s0 s1 s2)) (j + 1)) := by
          have z := ints_of (g := fun i => (cmp1 lfF (pick3 s0 s1 s2)) (ord.getD i 0 + 1)) ys 0 (fun i v hv => by rw [Nat.zero_add]; exact hj2 i v hv)
          rw [ly, show 6 = ord.length by rw [hperm.length_eq]; rfl] at z
          rwa [map_getD (g := fun j => (cmp1 lfF (pick3 s0 s1 s2)) (j + 1)) ord] at z
        have Iz : IntsAre zs ((List.range 6).map fun j => (cmp1 lfF (pick3 xa xb xc)) (j + 1)) := by
          have z := ints_of (g := fun i => (cmp1 lfF (pick3 xa xb xc)) (i + 1)) zs 0 (fun i v hv => by rw [Nat.zero_add]; exact hk2 i v hv)
          rwa [lz, ← List.range_eq_range'] at z
        refine sorted_N_rev F9 N9 (vs := zs) (News.isList N9 (.head _)) Iz (by omega) fun h6 us ms e6 F6 N6 Iu pu ou => ?_
        clear F9 N9
        k_steps
        refine Stop.go ?_
        refine lt_ints (xs := ys) (ys := us) (News.isList N6 (.tail _ (.tail _ (.head _)))) (News.isList N6 (.head _)) Iy Iu (by rw [pu.length_eq, List.length_map, List.length_map, hperm.length_eq]) (by (try simp only [units_in1, units_deeper, Around.mark_units]); (try dsimp only); omega) ?_
        rw [hlaw xa xb xc hsh ms pu ou]
        k_steps
        rename Fr _ _ _ _ => F5
        rename News _ _ _ _ => N5
        exact ⟨rfl, _, _, some (.ref pi.1), rfl, frc F5 mo1_twice, (fun p hp => N5 p (.tail _ (.tail _ (.tail _ (.tail _ hp))))), hne, .inr ⟨pi.1, rfl⟩⟩
  · rintro ov h tk hP F N
    clear F1 N1
    rcases hP with hP | ⟨O, rfl⟩
    · rw [List.size_toArray, List.length_map] at hP
      omega
    · k_steps
      rename Fr _ _ _ _ => F5
      rename News _ _ _ _ => N5
      exact next _ _ O (frc F5 (mo1_some _ _ _)) ((fac (N5 _ (.tail _ (.head _))) ((fac (N5 _ (.tail _ (.tail _ (.head _)))) ((fac (N5 _ (.tail _ (.tail _ (.tail _ (.head _))))) ((fac (N5 _ (.tail _ (.tail _ (.tail _ (.tail _ (.head _)))))) ((fac (N5 _ (.tail _ (.tail _ (.tail _ (.tail _ (.tail _ (.head _))))))) ((fac (N5 _ (.tail _ (.tail _ (.tail _ (.tail _ (.tail _ (.tail _ (.head _)))))))) ((fac (N5 _ (.tail _ (.tail _ (.tail _ (.tail _ (.tail _ (.tail _ (.tail _ (.head _))))))))) ((faa (fun p hp => N5 _ (.tail _ (.tail _ (.tail _ (.tail _ (.tail _ (.tail _ (.tail _ (.tail _ (List.mem_append_right _ (List.mem_append_left _ (hp)))))))))))) (fun p hp => N5 _ (.tail _ (.tail _ (.tail _ (.tail _ (.tail _ (.tail _ (.tail _ (.tail _ (List.mem_append_right _ (List.mem_append_right _ (hp))))))))))))))))))))))))))))
end
section
set_option maxHeartbeats 4000000
open PySem PySem.W PySem.Calls PyProof.Rows
theorem fillL6 : PySem.Challenge.rw_uc0030_01 = PySem.Challenge.rw_uc0030_01 ∧ Mine.hd.heap_1 = Mine.hd.heap_1 := by k_fill; exact ⟨rfl, rfl⟩
local macro_rules | `(tactic| walk_at $k:str) => if ["eval ListComp", "compareOp NotEq ref ref"].contains k.getString then `(tactic| refine stop_of ?_) else Lean.Macro.throwUnsupported
local macro_rules | `(tactic| walk_at "binaryOp Mult str int") => `(tactic| (refine' r_mul (Int.toNat_of_nonneg ?hn).symm ?hk ?_; (case hn => omega); (case hk => omega); intro t' j'))
local macro_rules | `(tactic| walk_at $k:str) => if ["CompSrcT"].contains k.getString then `(tactic| refine stop_of ?_) else Lean.Macro.throwUnsupported
local macro_rules | `(tactic| walk_at "ite") => `(tactic| (with_reducible refine ite_b (fun hb => ?_) (fun hb => ?_)))
theorem dat_strs {news : List (Addr × Obj)} : ∀ {vs : List Value} {l : List Str}, StrsAre vs l → DatAll news vs (l.map Dat.str)
  | _, _, .nil => .nil
  | _, _, .cons x t h => .cons (.str x t) (dat_strs h)
theorem dat_of6 {news : List (Addr × Obj)} {D : Nat → Dat} {P : Nat → Value → Prop} (hP : ∀ i v, P i v → DatIn news v (D i)) : ∀ (ys : List Value) (k : Nat), (∀ (i : Nat) (v : Value), ys[i]? = some v → P (k + i) v) → DatAll news ys ((List.range' k ys.length).map D)
  | [], _, _ => .nil
  | y :: ys, k, h => .cons (hP _ _ (h 0 y rfl)) (dat_of6 hP ys (k + 1) fun i v hv => by
      have := h (i + 1) v hv
      rwa [show k + (i + 1) = k + 1 + i by omega] at this)
theorem dat_told {hs : List (Nat × Bool × Str)} {tl : List (Addr × Obj)} (ht : ∀ (j : Nat) (p : Addr × Obj), tl[j]? = some p → IsTold hs j p.2) (htl : tl.length = 3) :
    DatAll tl (tl.map fun p => Value.ref p.1) ((List.range' 0 3).map fun i => Dat.list ((toldOf hs i).map Dat.str)) := by
  have z := dat_of6 (news := tl) (D := fun i => Dat.list ((toldOf hs i).map Dat.str)) (P := fun i v => ∃ p, tl[i]? = some p ∧ v = .ref p.1) (fun i v hv => by
    obtain ⟨p, hp, rfl⟩ := hv
    obtain ⟨vs, n, he, hS⟩ := ht i p hp
    have hm := List.mem_of_getElem? hp
    rw [show p = (p.1, p.2) from rfl, he] at hm
    exact .list hm (dat_strs hS)) (tl.map fun p => Value.ref p.1) 0 (fun i v hv => by
    rw [List.getElem?_map] at hv
    cases e : tl[i]? with
    | none => rw [e] at hv; cases hv
    | some p => rw [e] at hv; exact ⟨p, by rw [Nat.zero_add, e], (Option.some.inj hv).symm⟩)
  rwa [List.length_map, htl] at z
theorem spc_ok : ∀ n, n ≤ 24 → PyData.strOk (spc n) = true := by
  intro n hn
  have : ∀ n : Fin 25, PyData.strOk (spc n.1) = true := by decide +kernel
  exact this ⟨n, by omega⟩
theorem dmm_le (c : Int) : dmm c ≤ 24 := by
  unfold dmm
  have h1 : 0 ≤ (c.fdiv 6).fmod 3 := Int.fmod_nonneg_of_pos _ (by decide)
  have h2 : (c.fdiv 6).fmod 3 < 3 := Int.fmod_lt_of_pos _ (by decide)
  omega
theorem kqd_strs {l : List Str} (h : ∀ a ∈ l, PyData.strOk a = true) : kqdOk 8 (Dat.list (l.map Dat.str)) = true := by
  show (l.map Dat.str).all (kqdOk 7) = true
  rw [List.all_map, List.all_eq_true]
  intro a ha
  exact h a ha
noncomputable def hsOf (ks : List Int) : List (Nat × Bool × Str) := ks.map fun c => (dkk c, dgg c, spc (dmm c))
theorem st6 {w : World} {mean : ExcName → Option Value} {mg mb : Str → Option Value} {dp un : Nat} {fr : Option (List Env)} {gd : Option (List Code)} {s : Shared} {Q : Flow → Shared → Prop} {g : Heap} {L S : Addr} {R : List (Addr × Obj)} (Wg : Wd w mean mg mb g) (C D M Fi Td : Addr) (o1 : Obj) (ws : List Value) (ks : List Int) (nw : Nat) (tl : List (Addr × Obj)) (nt : Nat)
   (F : Fr g L s.heap (mp [(Str.ofString "told", .ref Td), (Str.ofString "first", .ref Fi), (Str.ofString "names", .ref M), (Str.ofString "debts", .ref D), (Str.ofString "script", .ref S)])) (N : News g L s.heap ((L + 1, o1) :: (C, listOf ws.toArray nw) :: (Td, listOf (tl.map fun p => Value.ref p.1).toArray nt) :: (tl ++ R)))
   (d1 : o1.data = .cell (some (.ref C))) (hI : IntsAre ws ks) (hl7 : ks.length = 7) (htl : tl.length = 3) (ht : ∀ (j : Nat) (p : Addr × Obj), tl[j]? = some p → IsTold (hsOf (ks.take 5)) j p.2) (hd : dp + 30 < recursionLimit) (hu : un + 400 < cLine)
   (next : ∀ h' tk', Fr g L h' (mp [(Str.ofString "told", .ref Td), (Str.ofString "first", .ref Fi), (Str.ofString "names", .ref M), (Str.ofString "debts", .ref D), (Str.ofString "script", .ref S)]) → News g L h' ((L + 1, o1) :: (C, listOf ws.toArray nw) :: (Td, listOf (tl.map fun p => Value.ref p.1).toArray nt) :: (tl ++ R)) →  wpAny (model prg w) (Ar dp fr gd un) (execs (lawRest 7) (lawEnv L)) Q Fls { s with heap := h', toks := tk' }) :
   wpAny (model prg w) (Ar dp fr gd un) (execs (lawRest 6) (lawEnv L)) Q Fls s := by
  have X := Wg.X
  obtain ⟨p9, l9, T⟩ := Wg.T
  with_unfolding_all show wpAny _ _ (execs (_ :: lawRest 7) (envOfC (Str.ofString "law") _ L 305 (.ref 304))) _ _ _
  w_on
  k_steps
  refine Stop.go ?_
  refine ListComp_C (n := 3) (a := 0) (fun c : List (Addr × Obj) => (L + 1, o1) :: (C, listOf ws.toArray nw) :: (Td, listOf (tl.map fun p => Value.ref p.1).toArray nt) :: (c ++ (tl ++ R))) (fun j ys c => c.length = j ∧ ys = c.map (fun p => Value.ref p.1) ∧ ∀ (i : Nat) (p : Addr × Obj), c[i]? = some p → IsTold (hsOf (ks.take 5)) i p.2) [] F (by with_unfolding_all rfl) (by rfl) (by rfl) (fun _ _ => by rfl) (by decide) rfl ⟨rfl, rfl, fun i p h => nomatch h⟩ ?_
  k_steps
  rename Fr _ _ _ _ => F1
  rename News _ _ _ _ => N1
  rename IsRange _ _ _ _ _ _ _ _ => hrr
  refine ⟨_, _, _, _, _, rfl, F1, N1, hrr, by decide, by decide, ?turn, ?fin⟩
  case turn =>
    rintro i ys c t I Cc Dd K oI oC oK h tk E' hi ⟨hc1, hc2, hc3⟩ dK F2 N2
    clear F1 N1 hrr
    have hcK : oK.data = .cell (some (.int (0 + (i : Int)) t)) := dK
    k_dflt (refine LCt.ListComp_T (F₀ := by k_asm) (by with_unfolding_all rfl) (by decide) (by rfl) (by decide) (by rfl) ?_)
    k_steps
    refine Stop.go ?_
    rename Fr _ _ _ _ => F1
    rename News _ _ _ _ => N1
    dsimp only at N1
    rename (IntsAre _ (List.take 5 ks)) => hI5
    rename_i D5 ws5 h5 _ _ _
    have hw5 : ws5.length = 5 := by rw [hI5.length, List.length_take, hl7]; rfl
    refine LCt.CompSrcT.ledger (ax := D5) (its := ws5.toArray) (k := 0) rfl F1 N1 (.head _) (size_small (by simp; omega)) ?_
    intro g'
    with_unfolding_all refine restT_inv (n := ws5.toArray.size) (fun _ : Unit => _) (fun j zs _ => StrsAre zs ((((hsOf (ks.take 5)).take j).filter fun q => q.1 == i).map (·.2.2))) ?turn2 ?fin2 _ 0 [] () (Nat.zero_add _) .nil
    case turn2 =>
      rintro j zs _ v I2 oI2 C2 oC2 D2 m₂ h2 tk2 E2 hj hJ hv hC hx F2 N2 off2 ne2
      clear F1 N1
      have hj5 : j < 5 := by simpa [hw5] using hj
      have hv0 : ws5[j]? = some v := by simpa using hv
      obtain ⟨cj, tv, hc5, rfl⟩ := intsAt hI5 hv0
      have hqj : (hsOf (ks.take 5))[j]? = some (dkk cj, dgg cj, spc (dmm cj)) := by unfold hsOf; rw [List.getElem?_map, hc5]; rfl
      have hk0 : 0 ≤ cj.fmod 3 := Int.fmod_nonneg_of_pos _ (by decide)
      have hk3 : cj.fmod 3 < 3 := Int.fmod_lt_of_pos _ (by decide)
      have hm0 : 0 ≤ (cj.fdiv 6).fmod 3 := Int.fmod_nonneg_of_pos _ (by decide)
      have hm3 : (cj.fdiv 6).fmod 3 < 3 := Int.fmod_lt_of_pos _ (by decide)
      k_steps
      · refine Stop.go ?_
        rename Fr _ _ _ _ => F1
        rename News _ _ _ _ => N1
        rename (_ = true) => hb
        have hqe : (dkk cj == i) = true := by
          have := beq_iff_eq.mp hb
          unfold dkk
          exact beq_iff_eq.mpr (by omega)
        exact LCg.CompEnd.intro F1 N1 _ (fun _ h => h) off2 trivial ⟨(), fun _ h => h, .inr ⟨_, by k_mem, rfl, _, rfl⟩, by
          rw [take_snoc hqj, List.filter_append, List.map_append, List.filter_cons_of_pos (p := fun q : Nat × Bool × Str => q.1 == i) hqe]
          exact strs_snoc hJ⟩
      · refine Stop.go ?_
        rename Fr _ _ _ _ => F1
        rename News _ _ _ _ => N1
        rename (_ = false) => hb
        have hqe : ¬ (dkk cj == i) = true := fun h => by
          have h1 := beq_eq_false_iff_ne.mp hb
          have h2 := beq_iff_eq.mp h
          unfold dkk at h2
          omega
        exact LCg.CompEnd.intro F1 N1 _ (fun _ h => h) off2 trivial ⟨(), fun _ h => h, .inr ⟨_, by k_mem, rfl, _, rfl⟩, by
          rw [take_snoc hqj, List.filter_append, List.map_append, List.filter_cons_of_neg (p := fun q : Nat × Bool × Str => q.1 == i) hqe]
          simpa using hJ⟩
    case fin2 =>
      intro zs _ hJ
      have hsz : ws5.toArray.size = (hsOf (ks.take 5)).length := by unfold hsOf; rw [List.size_toArray, hw5, List.length_map, List.length_take, hl7]; rfl
      rw [hsz, List.take_length] at hJ
      clear F1 N1
      unfold LCg.FinE
      intro D9 h9 tk9 F9 N9 o9
      obtain ⟨oa, ob, oc, od, oe, of, og, oh, oi⟩ := o9
      have nI : @Ne Nat D9 I := Ne.symm ob
      have nC : @Ne Nat D9 Cc := Ne.symm oc
      have nD : @Ne Nat D9 Dd := Ne.symm od
      have nK : @Ne Nat D9 K := Ne.symm oe
      refine ⟨h9, tk9, c ++ [(D9, LCg.lst zs)], rfl, F9, ?_, ?_, ?_, ?_, ?_⟩
      · exact (fac (N9 _ (.tail _ (.tail _ (.head _)))) ((fac (N9 _ (.tail _ (.tail _ (.tail _ (.head _))))) ((fac (N9 _ (.tail _ (.tail _ (.tail _ (.tail _ (.head _)))))) ((fac (N9 _ (.tail _ (.tail _ (.tail _ (.tail _ (.tail _ (.head _))))))) ((fac (N9 _ (.tail _ (.tail _ (.tail _ (.tail _ (.tail _ (.tail _ (.head _)))))))) ((fac (N9 _ (.tail _ (.tail _ (.tail _ (.tail _ (.tail _ (.tail _ (.tail _ (.head _))))))))) ((fac (N9 _ (.tail _ (.tail _ (.tail _ (.tail _ (.tail _ (.tail _ (.tail _ (.tail _ (.head _)))))))))) ((faa ((faa (fun p hp => N9 _ (.tail _ (.tail _ (.tail _ (.tail _ (.tail _ (.tail _ (.tail _ (.tail _ (.tail _ (List.mem_append_left _ (hp)))))))))))) ((fac (N9 _ (.head _)) (fun _ h => nomatch h))))) ((faa (fun p hp => N9 _ (.tail _ (.tail _ (.tail _ (.tail _ (.tail _ (.tail _ (.tail _ (.tail _ (.tail _ (List.mem_append_right _ (List.mem_append_left _ (hp))))))))))))) (fun p hp => N9 _ (.tail _ (.tail _ (.tail _ (.tail _ (.tail _ (.tail _ (.tail _ (.tail _ (.tail _ (List.mem_append_right _ (List.mem_append_right _ (hp))))))))))))))))))))))))))))))
      · exact (fac (.inl (.head _)) ((fac (.inl (.tail _ (.head _))) ((fac (.inl (.tail _ (.tail _ (.head _)))) ((faa ((faa (fun p hp => .inl (.tail _ (.tail _ (.tail _ (List.mem_append_left _ hp))))) ((fac (.inr ⟨nI, nC, nD, nK⟩) (fun _ h => nomatch h))))) (fun p hp => .inl (.tail _ (.tail _ (.tail _ (List.mem_append_right _ hp))))))))))))
      · rw [List.length_append, List.length_singleton, hc1]
      · rw [hc2, List.map_append]; rfl
      · exact at_snoc (Q := fun i (p : Addr × Obj) => IsTold (hsOf (ks.take 5)) i p.2) hc3 (by rw [hc1]; exact ⟨zs, _, rfl, hJ⟩)
  case fin =>
    rintro ys c D9 h9 tk9 ⟨hc1, hc2, hc3⟩ F9 N9
    clear F1 N1
    dsimp only at N9
    have hcr : ∀ v ∈ ys, ∃ p ∈ c, v = .ref p.1 := fun v hv => by
      rw [hc2] at hv
      obtain ⟨p, hp, e⟩ := List.mem_map.mp hv
      exact ⟨p, hp, e.symm⟩
    k_steps
    refine Stop.go ?_
    have hok : ∀ k, ∀ a ∈ toldOf (hsOf (ks.take 5)) k, PyData.strOk a = true := fun k a ha => by
      unfold toldOf hsOf at ha
      obtain ⟨q, hq, rfl⟩ := List.mem_map.mp ha
      obtain ⟨c, _, rfl⟩ := List.mem_map.mp (List.mem_filter.mp hq).1
      exact spc_ok _ (dmm_le c)
    have dc := dat_told hc3 hc1
    rw [← hc2] at dc
    refine kqd_ne_f (n₁ := tl) (n₂ := c) N9 (by k_mem) rfl rfl (Da := dat_told ht htl) (fun p hp => .tail _ (.tail _ (.tail _ (.tail _ (List.mem_append_right _ (List.mem_append_left _ (hp))))))) (.head _) rfl rfl dc (fun p hp => .tail _ (.tail _ (.tail _ (.tail _ (List.mem_append_left _ (hp)))))) (fun d hd => ?_) (by (try simp only [units_in1, units_deeper, Around.mark_units]); (try dsimp only); omega) ?_
    · obtain ⟨i, hi, rfl⟩ := List.mem_map.mp hd
      exact kqd_strs (hok i)
    k_steps
    · rename (false = true) => hb
      cases hb
    · rename Fr _ _ _ _ => F5
      rename News _ _ _ _ => N5
      exact next _ _ F5 ((fac (N5 _ (.tail _ (.head _))) ((fac (N5 _ (.tail _ (.tail _ (.head _)))) ((fac (N5 _ (.tail _ (.tail _ (.tail _ (.head _))))) ((faa (fun p hp => N5 _ (.tail _ (.tail _ (.tail _ (.tail _ (List.mem_append_right _ (List.mem_append_left _ (hp)))))))) (fun p hp => N5 _ (.tail _ (.tail _ (.tail _ (.tail _ (List.mem_append_right _ (List.mem_append_right _ (hp))))))))))))))))
end
end
section
/-- shares of claims 12 m at the level l: the lower half of the estates, the upper half -/
noncomputable def sh12 (up : Bool) (m l : Nat) : Nat := if up then 12 * m - min (6 * m) l else min (6 * m) l
theorem gar_lo {c d s t : Nat} (h1 : 2 * s ≤ c) (h2 : 2 * t ≤ d) (h3 : s < t → 2 * s = c) (h4 : t < s → 2 * t = d) : 2 * s = min c (s + t) + min c (s + t - min d (s + t)) := by
  rcases Nat.lt_trichotomy s t with h | h | h
  · have e := h3 h
    clear h3 h4 h1
    rw [Nat.min_eq_left (show c ≤ s + t by omega), Nat.min_eq_right (show s + t ≤ d by omega), Nat.sub_self, Nat.min_zero]
    exact e
  · subst h
    clear h3 h4
    rw [← Nat.two_mul, Nat.min_eq_right h1, Nat.min_eq_right h2, Nat.sub_self, Nat.min_zero]
    rfl
  · have e := h4 h
    clear h3 h4 h2
    rw [Nat.min_eq_right (show s + t ≤ c by omega), Nat.min_eq_left (show d ≤ s + t by omega), Nat.min_eq_right (show s + t - d ≤ c by omega)]
    omega
theorem gar_hi {c d s t a b : Nat} (hc : c = s + a) (hd : d = t + b) (h1 : a ≤ s) (h2 : b ≤ t) (h3 : a < b → a = s) (h4 : b < a → b = t) : 2 * s = min c (s + t) + min c (s + t - min d (s + t)) := by
  subst hc hd
  rcases Nat.lt_trichotomy a b with h | h | h
  · have e := h3 h
    clear h3 h4 h1
    subst e
    rw [Nat.min_eq_left (show a + a ≤ a + t by omega), Nat.min_eq_right (show a + t ≤ t + b by omega), Nat.sub_self, Nat.min_zero]
    exact Nat.two_mul a
  · subst h
    clear h3 h4
    rw [Nat.min_eq_left (Nat.add_le_add_left h2 s), Nat.min_eq_left (show t + a ≤ s + t by omega), show s + t - (t + a) = s - a by omega, Nat.min_eq_right (show s - a ≤ s + a by omega)]
    omega
  · have e := h4 h
    clear h3 h4 h2
    subst e
    rw [Nat.min_eq_right (show s + b ≤ s + a by omega), Nat.min_eq_left (show b + b ≤ s + b by omega), show s + b - (b + b) = s - b by omega, Nat.min_eq_right (show s - b ≤ s + a by omega)]
    omega
theorem mn (m l : Nat) : min m l ≤ m ∧ min m l ≤ l ∧ (min m l = m ∨ min m l = l) := ⟨Nat.min_le_left _ _, Nat.min_le_right _ _, by rcases Nat.le_total m l with h | h; exact .inl (Nat.min_eq_left h); exact .inr (Nat.min_eq_right h)⟩
theorem mn_lt {m n l : Nat} (h : min m l < min n l) : min m l = m := (mn m l).2.2.resolve_right fun e => Nat.lt_irrefl _ (Nat.lt_of_lt_of_le h (e.symm ▸ (mn n l).2.1))
theorem d12 (m : Nat) : 12 * m = 2 * (6 * m) := by rw [← Nat.mul_assoc]
theorem gar1 (up : Bool) (m n l : Nat) : 2 * sh12 up m l = min (12 * m) (sh12 up m l + sh12 up n l) + min (12 * m) (sh12 up m l + sh12 up n l - min (12 * n) (sh12 up m l + sh12 up n l)) := by
  unfold sh12
  have hm := mn (6 * m) l
  have hn := mn (6 * n) l
  have km : min (6 * m) l < min (6 * n) l → _ := mn_lt
  have kn : min (6 * n) l < min (6 * m) l → _ := mn_lt
  rw [d12 m, d12 n]
  generalize min (6 * m) l = a at *
  generalize min (6 * n) l = b at *
  generalize 6 * m = M at *
  generalize 6 * n = N at *
  cases up
  · simp only [Bool.false_eq_true, if_false]
    exact gar_lo (Nat.mul_le_mul_left 2 hm.1) (Nat.mul_le_mul_left 2 hn.1) (fun h => by rw [km h]) (fun h => by rw [kn h])
  · simp only [if_true]
    have hm := hm.1
    have hn := hn.1
    exact gar_hi (a := a) (b := b) (by omega) (by omega) (by omega) (by omega) (fun h => by have := km h; omega) (fun h => by have := kn h; omega)
theorem gar2 (up : Bool) (m n l : Nat) : 2 * sh12 up m l = min (12 * m) (sh12 up n l + sh12 up m l - min (12 * n) (sh12 up n l + sh12 up m l)) + min (12 * m) (sh12 up n l + sh12 up m l) := by
  rw [Nat.add_comm (sh12 up n l), Nat.add_comm (min _ (_ - _))]
  exact gar1 up m n l
theorem sh_le (up : Bool) (m l : Nat) : sh12 up m l ≤ 12 * m := by
  unfold sh12; split
  · exact Nat.sub_le _ _
  · exact Nat.le_trans (Nat.min_le_left _ _) (Nat.mul_le_mul_right m (by decide))
theorem tsl {e c : Nat} {x y : Int} (h0 : 0 ≤ y + x) (h1 : (e : Int) - c ≤ y + x) : ((e - c : Nat) : Int) - x ≤ y := by
  refine Int.sub_right_le_of_le_add ?_
  rcases Nat.le_total c e with h | h
  · rw [Int.ofNat_sub h]; exact h1
  · rw [Nat.sub_eq_zero_of_le h]; exact h0
theorem tg0 (e c : Nat) : 0 ≤ ((e - c : Nat) : Int) := Int.natCast_nonneg _
theorem tge (e c : Nat) : (e : Int) - c ≤ ((e - c : Nat) : Int) := by
  rcases Nat.le_total c e with h | h
  · rw [Int.ofNat_sub h]; exact Int.le_refl _
  · rw [Nat.sub_eq_zero_of_le h]; exact Int.sub_nonpos_of_le (Int.ofNat_le.mpr h)
section
variable {s t u c d f e : Nat} (he : s + t + u = e)
theorem lo1 (ht : 2 * t ≤ d) (hu : 2 * u ≤ f) (h : 2 * s = c ∨ t ≤ s) (he : s + t + u = e) :
    ((e - (d + f) : Nat) : Int) - s ≤ ((e - c : Nat) : Int) - (t + u) ∨ ((e - (d + f) : Nat) : Int) - s ≤ ((e - (c + f) : Nat) : Int) - t := by
  rcases h with h | h
  · have a := tge e c
    have b := tg0 e c
    generalize ((e - c : Nat) : Int) = B at *
    exact .inl (tsl (by omega) (by omega))
  · have b := tg0 e (c + f)
    generalize ((e - (c + f) : Nat) : Int) = B at *
    exact .inr (tsl (by omega) (by omega))
theorem lo2 (hs : 2 * s ≤ c) (h : 2 * t = d ∨ s ≤ t) (he : s + t + u = e) :
    ((e - c : Nat) : Int) - (t + u) ≤ ((e - (d + f) : Nat) : Int) - s ∨ ((e - c : Nat) : Int) - (t + u) ≤ ((e - d : Nat) : Int) - (s + u) := by
  rcases Nat.le_total c e with q | q
  · have b := tg0 e (d + f)
    generalize ((e - (d + f) : Nat) : Int) = B at *
    rw [Int.ofNat_sub q]
    exact .inl (by omega)
  · have b := tg0 e d
    have a := tge e d
    generalize ((e - d : Nat) : Int) = B at *
    rw [Nat.sub_eq_zero_of_le q]
    rcases h with h | h
    · exact .inr (by omega)
    · exact .inr (by omega)
variable {a b g : Nat}
theorem hi1 (hc : c = s + a) (hd : d = t + b) (hf : f = u + g) (ha : a ≤ s) (h : b = t ∨ a ≤ b) (he : s + t + u = e) :
    ((e - (d + f) : Nat) : Int) - s ≤ ((e - c : Nat) : Int) - (t + u) ∨ ((e - (d + f) : Nat) : Int) - s ≤ ((e - (c + f) : Nat) : Int) - t := by
  rcases Nat.le_total (d + f) e with q | q
  · rw [Int.ofNat_sub q]
    rcases h with h | h
    · have b := tg0 e (c + f)
      generalize ((e - (c + f) : Nat) : Int) = B at *
      exact .inr (by omega)
    · have b := tge e c
      generalize ((e - c : Nat) : Int) = B at *
      exact .inl (by omega)
  · rw [Nat.sub_eq_zero_of_le q]
    have b := tge e c
    generalize ((e - c : Nat) : Int) = B at *
    exact .inl (by omega)
theorem hi2 (hc : c = s + a) (hd : d = t + b) (hf : f = u + g) (hb : b ≤ t) (hg : g ≤ u) (h : a = s ∨ b ≤ a) (he : s + t + u = e) :
    ((e - c : Nat) : Int) - (t + u) ≤ ((e - (d + f) : Nat) : Int) - s ∨ ((e - c : Nat) : Int) - (t + u) ≤ ((e - d : Nat) : Int) - (s + u) := by
  rcases h with h | h
  · have b := tg0 e (d + f)
    have b2 := tge e (d + f)
    generalize ((e - (d + f) : Nat) : Int) = B at *
    exact .inl (tsl (by omega) (by omega))
  · have b := tge e d
    generalize ((e - d : Nat) : Int) = B at *
    exact .inr (tsl (by omega) (by omega))
end
theorem mn_or (m n l : Nat) : min m l = m ∨ min n l ≤ min m l := (mn m l).2.2.imp id fun (e : min m l = l) => e.symm ▸ (mn n l).2.1
theorem core (up : Bool) (i j k l e : Nat) (he : sh12 up i l + sh12 up j l + sh12 up k l = e) :
    (((e - (12 * j + 12 * k) : Nat) : Int) - sh12 up i l ≤ ((e - 12 * i : Nat) : Int) - (sh12 up j l + sh12 up k l) ∨ ((e - (12 * j + 12 * k) : Nat) : Int) - sh12 up i l ≤ ((e - (12 * i + 12 * k) : Nat) : Int) - sh12 up j l) ∧
    (((e - 12 * i : Nat) : Int) - (sh12 up j l + sh12 up k l) ≤ ((e - (12 * j + 12 * k) : Nat) : Int) - sh12 up i l ∨ ((e - 12 * i : Nat) : Int) - (sh12 up j l + sh12 up k l) ≤ ((e - 12 * j : Nat) : Int) - (sh12 up i l + sh12 up k l)) := by
  unfold sh12 at he ⊢
  rw [d12 i, d12 j, d12 k] at he ⊢
  have ki := (mn (6 * i) l).1
  have kj := (mn (6 * j) l).1
  have kk := (mn (6 * k) l).1
  have kij := mn_or (6 * i) (6 * j) l
  have kji := mn_or (6 * j) (6 * i) l
  generalize min (6 * i) l = a at *
  generalize min (6 * j) l = b at *
  generalize min (6 * k) l = g at *
  generalize 6 * i = I at *
  generalize 6 * j = J at *
  generalize 6 * k = K at *
  cases up
  · simp only [Bool.false_eq_true, if_false] at he ⊢
    exact ⟨lo1 (Nat.mul_le_mul_left 2 kj) (Nat.mul_le_mul_left 2 kk) (kij.imp (fun h => by rw [h]) id) he,
      lo2 (Nat.mul_le_mul_left 2 ki) (kji.imp (fun h => by rw [h]) id) he⟩
  · simp only [if_true] at he ⊢
    have z : ∀ {x y : Nat}, x ≤ y → 2 * y = (2 * y - x) + x ∧ x ≤ 2 * y - x ∧ (x = y → x = 2 * y - x) := fun h => ⟨by omega, by omega, by omega⟩
    exact ⟨hi1 (z ki).1 (z kj).1 (z kk).1 (z ki).2.1 (kji.imp (z kj).2.2 id) he, hi2 (z ki).1 (z kj).1 (z kk).1 (z kj).2.1 (z kk).2.1 (kij.imp (z ki).2.2 id) he⟩
theorem mstep (m v : Nat) : (min m (v + 1) = v + 1 ∧ min m v = v) ∨ (min m (v + 1) = m ∧ min m v = m) := by
  rcases Nat.lt_or_ge v m with h | h
  · exact .inl ⟨Nat.min_eq_right h, Nat.min_eq_right (Nat.le_of_lt h)⟩
  · exact .inr ⟨Nat.min_eq_left (Nat.le_succ_of_le h), Nat.min_eq_left h⟩
/-- the level fills the halves just to what is asked -/
theorem lvl_step (m0 m1 m2 n lv : Nat) (h : 6 * n ≤ min (6 * m0) lv + min (6 * m1) lv + min (6 * m2) lv) (h2 : lv ≠ 0 → min (6 * m0) (lv - 1) + min (6 * m1) (lv - 1) + min (6 * m2) (lv - 1) < 6 * n) : min (6 * m0) lv + min (6 * m1) lv + min (6 * m2) lv = 6 * n := by
  cases lv with
  | zero =>
    rw [Nat.min_zero, Nat.min_zero, Nat.min_zero] at h ⊢
    exact Nat.le_antisymm (Nat.zero_le _) h
  | succ v =>
    have h2 := h2 (Nat.succ_ne_zero v)
    rw [Nat.succ_sub_one] at h2
    rcases mstep (6 * m0) v with ⟨a, b⟩ | ⟨a, b⟩ <;> rcases mstep (6 * m1) v with ⟨c, d⟩ | ⟨c, d⟩ <;> rcases mstep (6 * m2) v with ⟨e, f⟩ | ⟨e, f⟩ <;> rw [a, c, e] at h ⊢ <;> rw [b, d, f] at h2 <;> clear a b c d e f <;> omega
end
section
open PySem PySem.W PySem.Calls PyProof.Rows
noncomputable def K3 (x y z i : Nat) : Nat := min (6 * x) i + min (6 * y) i + min (6 * z) i
theorem half1_12 (x i : Nat) : half1 ((12 * x : Nat) : Int) (i : Nat) = ((min (6 * x) i : Nat) : Int) := by
  unfold half1
  have : ((12 * x : Nat) : Int).fdiv 2 = 6 * (x : Int) := by
    rw [Int.fdiv_eq_ediv_of_nonneg _ (by omega)]; omega
  rw [this]
  split <;> omega
theorem kap_12 (x y z i : Nat) : kap ((12 * x : Nat) : Int) ((12 * y : Nat) : Int) ((12 * z : Nat) : Int) i = ((K3 x y z i : Nat) : Int) := by
  unfold kap
  rw [half1_12, half1_12, half1_12]
  unfold K3; omega
theorem lowF_nat {e T : Nat} (h : e ≤ T) : lowF e T = ((min e (T - e) : Nat) : Int) := by
  unfold lowF
  rw [← Int.ofNat_sub h]
  split
  · rw [Nat.min_eq_right (by omega)]
  · rw [Nat.min_eq_left (by omega)]
theorem shF_12 (T e x lv : Nat) : shF (T : Int) (e : Int) ((12 * x : Nat) : Int) (lv : Nat) = ((sh12 (decide (T < 2 * e)) x lv : Nat) : Int) := by
  unfold shF sh12
  rw [half1_12]
  by_cases h : T < 2 * e
  · rw [if_pos (by omega), decide_eq_true h]; simp only [if_true]
    rw [Int.ofNat_sub (Nat.le_trans (Nat.min_le_left _ _) (Nat.mul_le_mul_right x (by decide)))]
  · rw [if_neg (by omega), decide_eq_false h]; simp
theorem K3_full {x y z i : Nat} (hx : 6 * x ≤ i) (hy : 6 * y ≤ i) (hz : 6 * z ≤ i) : K3 x y z i = 6 * x + 6 * y + 6 * z := by
  unfold K3; rw [Nat.min_eq_left hx, Nat.min_eq_left hy, Nat.min_eq_left hz]
theorem K3_top {x y z i : Nat} (h : 12 * x + 12 * y + 12 * z ≤ i) : K3 x y z i = 6 * x + 6 * y + 6 * z := K3_full (by omega) (by omega) (by omega)
theorem K3_le {x y z i : Nat} : K3 x y z i ≤ 6 * x + 6 * y + 6 * z := Nat.add_le_add (Nat.add_le_add (Nat.min_le_left _ _) (Nat.min_le_left _ _)) (Nat.min_le_left _ _)
theorem full3 {a b c X Y Z : Nat} (ha : a ≤ X) (hb : b ≤ Y) (hc : c ≤ Z) (h : X + Y + Z ≤ a + b + c) : X ≤ a ∧ Y ≤ b ∧ Z ≤ c := ⟨by omega, by omega, by omega⟩
theorem full_K3 {x y z i : Nat} (h : 6 * x + 6 * y + 6 * z ≤ K3 x y z i) : 6 * x ≤ i ∧ 6 * y ≤ i ∧ 6 * z ≤ i :=
  have k := full3 (Nat.min_le_left (6 * x) i) (Nat.min_le_left (6 * y) i) (Nat.min_le_left (6 * z) i) h
  ⟨Nat.le_trans k.1 (Nat.min_le_right _ _), Nat.le_trans k.2.1 (Nat.min_le_right _ _), Nat.le_trans k.2.2 (Nat.min_le_right _ _)⟩
theorem min_up (m v : Nat) : min m v ≤ min m (v + 1) ∧ (¬ m ≤ v → min m v < min m (v + 1)) := by
  rcases Nat.lt_or_ge v m with h | h
  · rw [Nat.min_eq_right (Nat.le_of_lt h), Nat.min_eq_right (show v + 1 ≤ m from h)]; exact ⟨Nat.le_succ v, fun _ => Nat.lt_succ_self v⟩
  · rw [Nat.min_eq_left h, Nat.min_eq_left (Nat.le_succ_of_le h)]; exact ⟨Nat.le_refl m, fun q => absurd h q⟩
theorem K3_up {x y z i : Nat} (h : K3 x y z i < 6 * x + 6 * y + 6 * z) : K3 x y z i < K3 x y z (i + 1) := by
  have a := min_up (6 * x) i
  have b := min_up (6 * y) i
  have c := min_up (6 * z) i
  by_cases hx : 6 * x ≤ i
  · by_cases hy : 6 * y ≤ i
    · by_cases hz : 6 * z ≤ i
      · rw [K3_full hx hy hz] at h; exact absurd h (Nat.lt_irrefl _)
      · exact Nat.add_lt_add_of_le_of_lt (Nat.add_le_add a.1 b.1) (c.2 hz)
    · exact Nat.add_lt_add_of_lt_of_le (Nat.add_lt_add_of_le_of_lt a.1 (b.2 hy)) c.1
  · exact Nat.add_lt_add_of_lt_of_le (Nat.add_lt_add_of_lt_of_le (a.2 hx) b.1) c.1
theorem halfmax {l A B C : Nat} (h : 2 * l = A) (hb : B ≤ A) (hc : C ≤ A) : l = max A (max B C) / 2 := by
  rw [Nat.max_eq_left (Nat.max_le.mpr ⟨hb, hc⟩), ← h, Nat.mul_div_cancel_left _ (by decide)]
/-- what the levels that bisect finds say -/
theorem levels_say {x y z n e lv ab : Nat} (he : e = 6 * n) (hT : e ≤ 12 * x + 12 * y + 12 * z) {low : Nat} (hlow : low = min e (12 * x + 12 * y + 12 * z - e))
    (h1 : lv ≤ 12 * x + 12 * y + 12 * z + 1) (h2 : ∀ i : Nat, i < lv → K3 x y z i < low) (h3 : ∀ i : Nat, lv ≤ i → i ≤ 12 * x + 12 * y + 12 * z → low ≤ K3 x y z i)
    (h4 : ab ≤ 12 * x + 12 * y + 12 * z + 1) (h5 : ∀ i : Nat, i < ab → K3 x y z i ≤ low) (h6 : ∀ i : Nat, ab ≤ i → i ≤ 12 * x + 12 * y + 12 * z → low < K3 x y z i) :
    lv ≤ 12 * x + 12 * y + 12 * z ∧ K3 x y z lv = low ∧ (2 * e = 12 * x + 12 * y + 12 * z → lv = max (12 * x) (max (12 * y) (12 * z)) / 2 ∧ ab = 12 * x + 12 * y + 12 * z + 1) ∧ (2 * e ≠ 12 * x + 12 * y + 12 * z → ab = lv + 1) := by
  have l2 : low + low ≤ 12 * x + 12 * y + 12 * z := by
    rw [hlow]
    exact Nat.le_trans (Nat.add_le_add (Nat.min_le_left _ _) (Nat.min_le_right _ _)) (Nat.le_of_eq (Nat.add_sub_cancel' hT))
  have lvT : lv ≤ 12 * x + 12 * y + 12 * z := by
    by_cases q : lv ≤ 12 * x + 12 * y + 12 * z
    · exact q
    · have a := h2 (12 * x + 12 * y + 12 * z) (Nat.lt_of_not_le q)
      rw [K3_top (Nat.le_refl _)] at a
      clear h1 h2 h3 h4 h5 h6 hlow he hT q
      omega
  have ge := h3 lv (Nat.le_refl _) lvT
  have step : lv ≠ 0 → K3 x y z (lv - 1) < low := fun q => h2 (lv - 1) (Nat.sub_lt (Nat.pos_of_ne_zero q) Nat.zero_lt_one)
  have eq : K3 x y z lv = low := by
    have key : ∀ k : Nat, low = 6 * k → K3 x y z lv = 6 * k := fun k hk => by
      rw [hk] at ge step
      exact lvl_step x y z k lv ge step
    have hk : low = 6 * (min n (2 * x + 2 * y + 2 * z - n)) := by
      rw [hlow, he, ← Nat.mul_min_mul_left, Nat.mul_sub, show 6 * (2 * x + 2 * y + 2 * z) = 12 * x + 12 * y + 12 * z by rw [Nat.mul_add, Nat.mul_add, ← Nat.mul_assoc, ← Nat.mul_assoc, ← Nat.mul_assoc]]
    rw [key _ hk, ← hk]
  clear h2 h3 ge he h1
  refine ⟨lvT, eq, fun h => ?_, fun h => ?_⟩
  · have lf : low = 6 * x + 6 * y + 6 * z := by
      have : low = e := by rw [hlow, Nat.min_eq_left (by omega)]
      clear hlow step eq h5 h6 l2 lvT hT h4
      omega
    constructor
    · have b1 := full_K3 (Nat.le_of_eq (lf.symm.trans eq.symm))
      rw [lf] at step
      clear lf h5 h6 l2 hlow hT h eq lvT h4
      by_cases q : lv = 0
      · subst q
        have zx : x = 0 := by omega
        have zy : y = 0 := by omega
        have zz : z = 0 := by omega
        rw [zx, zy, zz]; rfl
      · have s := step q
        have hx : lv ≤ 6 * x ∨ lv ≤ 6 * y ∨ lv ≤ 6 * z := by
          by_cases a : lv ≤ 6 * x
          · exact .inl a
          · by_cases b : lv ≤ 6 * y
            · exact .inr (.inl b)
            · by_cases c : lv ≤ 6 * z
              · exact .inr (.inr c)
              · rw [K3_full (Nat.le_sub_one_of_lt (Nat.lt_of_not_le a)) (Nat.le_sub_one_of_lt (Nat.lt_of_not_le b)) (Nat.le_sub_one_of_lt (Nat.lt_of_not_le c))] at s
                exact absurd s (Nat.lt_irrefl _)
        clear step s
        rcases hx with a | a | a
        · exact halfmax (by omega) (by omega) (by omega)
        · rw [Nat.max_left_comm]; exact halfmax (by omega) (by omega) (by omega)
        · rw [Nat.max_comm (12 * y), Nat.max_left_comm]; exact halfmax (by omega) (by omega) (by omega)
    · by_cases q : ab ≤ 12 * x + 12 * y + 12 * z
      · have a := h6 ab (Nat.le_refl _) q
        rw [lf] at a
        exact absurd (Nat.lt_of_lt_of_le a K3_le) (Nat.lt_irrefl _)
      · exact Nat.le_antisymm (by assumption) (Nat.lt_of_not_le q)
  · have lt : K3 x y z lv < K3 x y z (lv + 1) := by
      refine K3_up ?_
      rw [eq]
      have a := Nat.min_le_left e (12 * x + 12 * y + 12 * z - e)
      rw [← hlow] at a
      have b := Nat.min_le_right e (12 * x + 12 * y + 12 * z - e)
      rw [← hlow] at b
      clear hlow h5 h6 step eq lvT l2 h4
      omega
    rcases Nat.lt_trichotomy (lv + 1) ab with q | q | q
    · have := h5 (lv + 1) q
      rw [← eq] at this
      exact absurd (Nat.lt_of_lt_of_le lt this) (Nat.lt_irrefl _)
    · exact q.symm
    · have := h6 lv (Nat.le_of_lt_succ q) lvT
      rw [eq] at this
      exact absurd this (Nat.lt_irrefl _)
theorem sum_sh {x y z e lv low : Nat} (hT : e ≤ 12 * x + 12 * y + 12 * z) (hlow : low = min e (12 * x + 12 * y + 12 * z - e)) (hK : K3 x y z lv = low) :
    sh12 (decide (12 * x + 12 * y + 12 * z < 2 * e)) x lv + sh12 (decide (12 * x + 12 * y + 12 * z < 2 * e)) y lv + sh12 (decide (12 * x + 12 * y + 12 * z < 2 * e)) z lv = e := by
  unfold K3 at hK
  unfold sh12
  by_cases h : 12 * x + 12 * y + 12 * z < 2 * e
  · rw [decide_eq_true h]; simp only [if_true]
    rw [Nat.min_eq_right (by omega)] at hlow
    have k : ∀ m : Nat, 12 * m - min (6 * m) lv + min (6 * m) lv = 12 * m := fun m => Nat.sub_add_cancel (Nat.le_trans (Nat.min_le_left _ _) (Nat.mul_le_mul_right m (by decide)))
    have kx := k x
    have ky := k y
    have kz := k z
    have kl := Nat.sub_add_cancel hT
    rw [← hlow, ← hK] at kl
    clear k hK hlow h hT
    generalize 12 * x - min (6 * x) lv = a at *
    generalize 12 * y - min (6 * y) lv = b at *
    generalize 12 * z - min (6 * z) lv = c at *
    generalize min (6 * x) lv = a at *
    generalize min (6 * y) lv = b at *
    generalize min (6 * z) lv = c at *
    omega
  · rw [decide_eq_false h]; simp only [Bool.false_eq_true, if_false]
    rw [Nat.min_eq_left (by omega)] at hlow
    rw [hK, hlow]
noncomputable def lfN (e c0 c1 c2 : Nat) (i : Nat) : Int := ((lft e (pk3 c0 c1 c2) (i : Int) 3 : Nat) : Int)
theorem lfN_le (e c0 c1 c2 i : Nat) : 0 ≤ lfN e c0 c1 c2 i ∧ lfN e c0 c1 c2 i ≤ e := by
  unfold lfN
  have := lft_le e (pk3 c0 c1 c2) (i : Int) 3
  omega
section
variable (e c0 c1 c2 : Nat) (a b c : Int)
theorem cv1 : cmp1 (lfN e c0 c1 c2) (pick3 a b c) 1 = ((e - (c1 + c2) : Nat) : Int) - a := by
  have h : lft e (pk3 c0 c1 c2) ((1 : Nat) : Int) 3 = e - c1 - c2 := by rw [lft_pos (i := 2) (by decide), lft_pos (i := 1) (by decide), lft_neg (i := 0) (by decide)]; rfl
  unfold cmp1 lfN; rw [h]; simp [psum, bt, pick3]; omega
theorem cv2 : cmp1 (lfN e c0 c1 c2) (pick3 a b c) 2 = ((e - (c0 + c2) : Nat) : Int) - b := by
  have h : lft e (pk3 c0 c1 c2) ((2 : Nat) : Int) 3 = e - c0 - c2 := by rw [lft_pos (i := 2) (by decide), lft_neg (i := 1) (by decide), lft_pos (i := 0) (by decide)]; rfl
  unfold cmp1 lfN; rw [h]; simp [psum, bt, pick3]; omega
theorem cv3 : cmp1 (lfN e c0 c1 c2) (pick3 a b c) 3 = ((e - c2 : Nat) : Int) - (a + b) := by
  have h : lft e (pk3 c0 c1 c2) ((3 : Nat) : Int) 3 = e - c2 := by rw [lft_pos (i := 2) (by decide), lft_neg (i := 1) (by decide), lft_neg (i := 0) (by decide)]; rfl
  unfold cmp1 lfN; rw [h]; simp [psum, bt, pick3]
theorem cv4 : cmp1 (lfN e c0 c1 c2) (pick3 a b c) 4 = ((e - (c0 + c1) : Nat) : Int) - c := by
  have h : lft e (pk3 c0 c1 c2) ((4 : Nat) : Int) 3 = e - c0 - c1 := by rw [lft_neg (i := 2) (by decide), lft_pos (i := 1) (by decide), lft_pos (i := 0) (by decide)]; rfl
  unfold cmp1 lfN; rw [h]; simp [psum, bt, pick3]; omega
theorem cv5 : cmp1 (lfN e c0 c1 c2) (pick3 a b c) 5 = ((e - c1 : Nat) : Int) - (a + c) := by
  have h : lft e (pk3 c0 c1 c2) ((5 : Nat) : Int) 3 = e - c1 := by rw [lft_neg (i := 2) (by decide), lft_pos (i := 1) (by decide), lft_neg (i := 0) (by decide)]; rfl
  unfold cmp1 lfN; rw [h]; simp [psum, bt, pick3]
theorem cv6 : cmp1 (lfN e c0 c1 c2) (pick3 a b c) 6 = ((e - c0 : Nat) : Int) - (b + c) := by
  have h : lft e (pk3 c0 c1 c2) ((6 : Nat) : Int) 3 = e - c0 := by rw [lft_neg (i := 2) (by decide), lft_neg (i := 1) (by decide), lft_pos (i := 0) (by decide)]; rfl
  unfold cmp1 lfN; rw [h]; simp [psum, bt, pick3]
end
theorem cmp_bound {e c0 c1 c2 s0 s1 s2 : Nat} (he : e ≤ 360) (h0 : s0 ≤ 120) (h1 : s1 ≤ 120) (h2 : s2 ≤ 120) (j : Nat) : -900 < cmp1 (lfN e c0 c1 c2) (pick3 s0 s1 s2) j ∧ cmp1 (lfN e c0 c1 c2) (pick3 s0 s1 s2) j < 900 := by
  have a := lfN_le e c0 c1 c2 j
  have b : ∀ k : Nat, ∀ v : Int, 0 ≤ v ∧ v ≤ 120 → 0 ≤ bt j k v ∧ bt j k v ≤ 120 := fun k v hv => by unfold bt; split <;> omega
  have b0 := b 0 (pick3 s0 s1 s2 0) (by simp [pick3]; omega)
  have b1 := b 1 (pick3 s0 s1 s2 1) (by simp [pick3]; omega)
  have b2 := b 2 (pick3 s0 s1 s2 2) (by simp [pick3]; omega)
  unfold cmp1
  simp only [psum]
  omega
theorem desc_of {f : Nat → Int} : ∀ {ord : List Nat}, ord.Pairwise (LexLt fun j => - f (j + 1)) → (ord.map fun j => f (j + 1)).Pairwise (fun a b => b ≤ a)
  | [], _ => .nil
  | a :: l, h => by
    have h2 := List.pairwise_cons.mp h
    refine List.pairwise_cons.mpr ⟨fun y hy => ?_, desc_of h2.2⟩
    obtain ⟨b, hb, rfl⟩ := List.mem_map.mp hy
    have := h2.1 b hb
    have this : - f (a + 1) < - f (b + 1) ∨ (- f (a + 1) = - f (b + 1) ∧ a < b) := this
    show f (b + 1) ≤ f (a + 1)
    rcases this with this | ⟨this, _⟩ <;> omega
theorem q1 {A s p : Int} : A - (s + p) = A - s - p := by omega
theorem q4 {A s p q : Int} : A - (s - p - q) = A - s - (-p - q) := by omega
theorem q3 {A s r p q : Int} : A - ((s + p) + (r + q)) = A - (s + r) + (-p - q) := by omega
theorem q5 {A s r p q : Int} : A - ((s + p) + (r - p - q)) = A - (s + r) + q := by omega
theorem q6 {A s r p q : Int} : A - ((s + q) + (r - p - q)) = A - (s + r) + p := by omega
/-- the nucleolus -/
theorem law_lex (up : Bool) (x y z l e : Nat) (he : sh12 up x l + sh12 up y l + sh12 up z l = e) {ord : List Nat} (hp : ord.Perm (List.range 6))
    (hw : ord.Pairwise (LexLt fun j => - cmp1 (lfN e (12 * x) (12 * y) (12 * z)) (pick3 (sh12 up x l : Nat) (sh12 up y l : Nat) (sh12 up z l : Nat)) (j + 1)))
    (a b c : Int) (hs : Shift (sh12 up x l : Nat) (sh12 up y l : Nat) (sh12 up z l : Nat) a b c) (Y : List Int) (pY : Y.Perm ((List.range 6).map fun j => cmp1 (lfN e (12 * x) (12 * y) (12 * z)) (pick3 a b c) (j + 1))) (oY : Y.Pairwise (fun x y => y ≤ x)) :
    lexB (ord.map fun j => cmp1 (lfN e (12 * x) (12 * y) (12 * z)) (pick3 (sh12 up x l : Nat) (sh12 up y l : Nat) (sh12 up z l : Nat)) (j + 1)) Y = true := by
  obtain ⟨p, q, hz, rfl, rfl, rfl, -⟩ := hs
  have c0 := core up x y z l e he
  have c0' := core up x z y l e (by omega)
  have c1 := core up y x z l e (by omega)
  have c1' := core up y z x l e (by omega)
  have c2 := core up z x y l e (by omega)
  have c2' := core up z y x l e (by omega)
  generalize sh12 up x l = s0 at *
  generalize sh12 up y l = s1 at *
  generalize sh12 up z l = s2 at *
  simp only [Nat.add_comm (12 * z) (12 * y), Nat.add_comm (12 * z) (12 * x), Nat.add_comm (12 * y) (12 * x), Int.add_comm (s2 : Int) s1, Int.add_comm (s2 : Int) s0, Int.add_comm (s1 : Int) s0] at c0' c1 c1' c2 c2'
  obtain ⟨t, k0, k1, k2, k3, k4, k5, k6⟩ := nucl (((e - (12 * y + 12 * z) : Nat) : Int) - s0) (((e - (12 * x + 12 * z) : Nat) : Int) - s1) (((e - (12 * x + 12 * y) : Nat) : Int) - s2)
    (((e - 12 * x : Nat) : Int) - (s1 + s2)) (((e - 12 * y : Nat) : Int) - (s0 + s2)) (((e - 12 * z : Nat) : Int) - (s0 + s1)) p q (-p - q) (by clear c0 c0' c1 c1' c2 c2' hz; omega) hz
    c0.1 c0'.1 c1.1 c1'.1 c2.1 c2'.1 c0.2 c0'.2 c1.2 c1'.2 c2.2 c2'.2
  clear c0 c0' c1 c1' c2 c2'
  have f1 := cv1 e (12 * x) (12 * y) (12 * z) s0 s1 s2
  have f2 := cv2 e (12 * x) (12 * y) (12 * z) s0 s1 s2
  have f3 := cv3 e (12 * x) (12 * y) (12 * z) s0 s1 s2
  have f4 := cv4 e (12 * x) (12 * y) (12 * z) s0 s1 s2
  have f5 := cv5 e (12 * x) (12 * y) (12 * z) s0 s1 s2
  have f6 := cv6 e (12 * x) (12 * y) (12 * z) s0 s1 s2
  have g1 := cv1 e (12 * x) (12 * y) (12 * z) (s0 + p) (s1 + q) (s2 - p - q)
  have g2 := cv2 e (12 * x) (12 * y) (12 * z) (s0 + p) (s1 + q) (s2 - p - q)
  have g3 := cv3 e (12 * x) (12 * y) (12 * z) (s0 + p) (s1 + q) (s2 - p - q)
  have g4 := cv4 e (12 * x) (12 * y) (12 * z) (s0 + p) (s1 + q) (s2 - p - q)
  have g5 := cv5 e (12 * x) (12 * y) (12 * z) (s0 + p) (s1 + q) (s2 - p - q)
  have g6 := cv6 e (12 * x) (12 * y) (12 * z) (s0 + p) (s1 + q) (s2 - p - q)
  refine lex_of (List.range 6) (fun j => cmp1 (lfN e (12 * x) (12 * y) (12 * z)) (pick3 s0 s1 s2) (j + 1)) (fun j => cmp1 (lfN e (12 * x) (12 * y) (12 * z)) (pick3 (s0 + p) (s1 + q) (s2 - p - q)) (j + 1)) t _ Y (hp.map _) pY (desc_of hw) oY ?_ ?_
  · intro i hi
    have hi := List.mem_range.mp hi
    have hc := lt6 i hi
    rcases hc with rfl | rfl | rfl | rfl | rfl | rfl
    · show cmp1 _ _ 1 = cmp1 _ _ 1 ∨ (cmp1 _ _ 1 < t ∧ cmp1 _ _ 1 ≤ t)
      rw [f1, g1, q1]; exact k0
    · show cmp1 _ _ 2 = cmp1 _ _ 2 ∨ (cmp1 _ _ 2 < t ∧ cmp1 _ _ 2 ≤ t)
      rw [f2, g2, q1]; exact k1
    · show cmp1 _ _ 3 = cmp1 _ _ 3 ∨ (cmp1 _ _ 3 < t ∧ cmp1 _ _ 3 ≤ t)
      rw [f3, g3, q3]; exact k5
    · show cmp1 _ _ 4 = cmp1 _ _ 4 ∨ (cmp1 _ _ 4 < t ∧ cmp1 _ _ 4 ≤ t)
      rw [f4, g4, q4]; exact k2
    · show cmp1 _ _ 5 = cmp1 _ _ 5 ∨ (cmp1 _ _ 5 < t ∧ cmp1 _ _ 5 ≤ t)
      rw [f5, g5, q5]; exact k4
    · show cmp1 _ _ 6 = cmp1 _ _ 6 ∨ (cmp1 _ _ 6 < t ∧ cmp1 _ _ 6 ≤ t)
      rw [f6, g6, q6]; exact k3
  · rcases k6 with k | k | k | k | k | k
    · refine ⟨0, by decide, ?_⟩
      show cmp1 _ _ 1 < t ∧ cmp1 _ _ 1 = t
      rw [f1, g1, q1]; exact k
    · refine ⟨1, by decide, ?_⟩
      show cmp1 _ _ 2 < t ∧ cmp1 _ _ 2 = t
      rw [f2, g2, q1]; exact k
    · refine ⟨3, by decide, ?_⟩
      show cmp1 _ _ 4 < t ∧ cmp1 _ _ 4 = t
      rw [f4, g4, q4]; exact k
    · refine ⟨5, by decide, ?_⟩
      show cmp1 _ _ 6 < t ∧ cmp1 _ _ 6 = t
      rw [f6, g6, q6]; exact k
    · refine ⟨4, by decide, ?_⟩
      show cmp1 _ _ 5 < t ∧ cmp1 _ _ 5 = t
      rw [f5, g5, q5]; exact k
    · refine ⟨2, by decide, ?_⟩
      show cmp1 _ _ 3 < t ∧ cmp1 _ _ 3 = t
      rw [f3, g3, q3]; exact k
end
section
open PySem PySem.W PySem.Calls PyProof.Rows
noncomputable def mu1 (c : Int) : Nat := ((c.fdiv 6).fmod 3).toNat
theorem dmm_mu (c : Int) : dmm c = 12 * mu1 c := by
  unfold dmm mu1
  have h1 : 0 ≤ (c.fdiv 6).fmod 3 := Int.fmod_nonneg_of_pos _ (by decide)
  omega
noncomputable def msum (cs : List Int) (k : Nat) : Nat := ((cs.filter fun c => dkk c == k).map mu1).sum
theorem mu1_le (c : Int) : mu1 c ≤ 2 := by
  unfold mu1
  have h1 : 0 ≤ (c.fdiv 6).fmod 3 := Int.fmod_nonneg_of_pos _ (by decide)
  have h2 : (c.fdiv 6).fmod 3 < 3 := Int.fmod_lt_of_pos _ (by decide)
  omega
theorem sum_le_mul {l : List Nat} {b : Nat} (h : ∀ x ∈ l, x ≤ b) : l.sum ≤ b * l.length := by
  induction l with
  | nil => simp
  | cons a l ih =>
    have := ih fun x hx => h x (.tail _ hx)
    have := h a (.head _)
    rw [List.sum_cons, List.length_cons, Nat.mul_succ]; omega
theorem msum_le {cs : List Int} (h : cs.length ≤ 5) (k : Nat) : msum cs k ≤ 10 := by
  unfold msum
  have a : ((cs.filter fun c => dkk c == k).map mu1).sum ≤ 2 * ((cs.filter fun c => dkk c == k).map mu1).length := sum_le_mul fun x hx => by
    obtain ⟨c, _, rfl⟩ := List.mem_map.mp hx
    exact mu1_le c
  rw [List.length_map] at a
  have := List.length_filter_le (fun c => dkk c == k) cs
  omega
theorem told_eq (cs : List Int) (k : Nat) : toldOf (hsOf cs) k = ((cs.filter fun c => dkk c == k).map dmm).map spc := by
  unfold toldOf hsOf
  rw [List.filter_map, List.map_map, List.map_map]
  rfl
theorem sum_dmm (l : List Int) : (l.map dmm).sum = 12 * (l.map mu1).sum := by
  induction l with
  | nil => rfl
  | cons a l ih => rw [List.map_cons, List.sum_cons, List.map_cons, List.sum_cons, ih, dmm_mu]; omega
theorem nil_cps : (Str.ofString "").cps = #[] := rfl
theorem fold_spc : ∀ (l : List Nat) (a : Nat), (l.map spc).foldl (fun acc p => acc ++ (Str.ofString "").cps ++ p.cps) (List.replicate a 32).toArray = (List.replicate (a + l.sum) 32).toArray
  | [], a => by simp
  | n :: l, a => by
    rw [List.map_cons, List.foldl_cons, List.sum_cons, nil_cps]
    have e : (List.replicate a 32).toArray ++ #[] ++ (spc n).cps = (List.replicate (a + n) 32).toArray := by
      unfold spc
      simp
    rw [e, ← nil_cps, fold_spc l (a + n), Nat.add_assoc]
theorem join_spc (l : List Nat) : Txt.join (Str.ofString "") (l.map spc) = spc l.sum := by
  cases l with
  | nil => rfl
  | cons a r =>
    have e := fold_spc r a
    unfold Txt.join Builtin.Str.glued
    rw [List.map_cons, List.sum_cons]
    show (⟨(r.map spc).foldl _ (List.replicate a 32).toArray⟩ : Str) = _
    rw [e]; rfl
theorem told_join (cs : List Int) (k : Nat) : Txt.join (Str.ofString "") (toldOf (hsOf cs) k) = spc (12 * msum cs k) := by
  rw [told_eq, join_spc, sum_dmm]; rfl
theorem told_small {cs : List Int} (h : cs.length ≤ 5) (k : Nat) : (toldOf (hsOf cs) k).length ≤ 5 ∧ ((toldOf (hsOf cs) k).map (·.length)).sum ≤ 1000 := by
  rw [told_eq]
  have a := List.length_filter_le (fun c => dkk c == k) cs
  have b : ((((cs.filter fun c => dkk c == k).map dmm).map spc).map (·.length)) = (cs.filter fun c => dkk c == k).map dmm := by
    rw [List.map_map]
    exact (List.map_congr_left fun n _ => spc_len n).trans (List.map_id _)
  rw [b, sum_dmm]
  have := msum_le h k
  unfold msum at this
  refine ⟨by rw [List.length_map, List.length_map]; omega, by omega⟩
theorem hs_mem {cs : List Int} {q : Nat × Bool × Str} (h : q ∈ hsOf cs) : q.1 < 3 ∧ Clean false q.2.2 ∧ q.2.2.length ≤ 1000 ∧ PyData.strOk q.2.2 = true := by
  unfold hsOf at h
  obtain ⟨c, _, rfl⟩ := List.mem_map.mp h
  have d := dmm_le c
  refine ⟨?_, clean_spc (by omega), ?_, spc_ok _ d⟩
  · show dkk c < 3
    unfold dkk
    have h1 : 0 ≤ c.fmod 3 := Int.fmod_nonneg_of_pos _ (by decide)
    have h2 : c.fmod 3 < 3 := Int.fmod_lt_of_pos _ (by decide)
    omega
  · show (spc (dmm c)).length ≤ 1000
    rw [spc_len]; omega
/-- the three payments -/
noncomputable def hs2 (c6 : Int) (c σ : Nat → Nat) : List (Nat × Bool × Str) := (List.range 3).map (entP c6 c σ)
theorem kkP_at (c6 : Int) {r : Int} (h : c6.fdiv 8 % 3 = r) (k : Nat) : kkP c6 k = ((r + (0 + (k : Int)) % 3) % 3).toNat := by
  unfold kkP
  rw [Int.fmod_eq_emod_of_nonneg _ (show (0 : Int) ≤ 3 by decide), Int.add_emod, h]
theorem kkP_cases (c6 : Int) : (kkP c6 0 = 0 ∧ kkP c6 1 = 1 ∧ kkP c6 2 = 2) ∨ (kkP c6 0 = 1 ∧ kkP c6 1 = 2 ∧ kkP c6 2 = 0) ∨ (kkP c6 0 = 2 ∧ kkP c6 1 = 0 ∧ kkP c6 2 = 1) := by
  have h : c6.fdiv 8 % 3 = 0 ∨ c6.fdiv 8 % 3 = 1 ∨ c6.fdiv 8 % 3 = 2 := by
    have a := Int.emod_nonneg (c6.fdiv 8) (show (3 : Int) ≠ 0 by decide)
    have b := Int.emod_lt_of_pos (c6.fdiv 8) (show (0 : Int) < 3 by decide)
    generalize c6.fdiv 8 % 3 = r at *
    omega
  rcases h with h | h | h
  · exact .inl ⟨kkP_at c6 h 0, kkP_at c6 h 1, kkP_at c6 h 2⟩
  · exact .inr (.inl ⟨kkP_at c6 h 0, kkP_at c6 h 1, kkP_at c6 h 2⟩)
  · exact .inr (.inr ⟨kkP_at c6 h 0, kkP_at c6 h 1, kkP_at c6 h 2⟩)
theorem hs2_get (c6 : Int) (c σ : Nat → Nat) : ∀ k, k < 3 → ((hs2 c6 c σ).filter fun q => q.1 == k).map (·.2.2) = [blk (c k - σ k) 0] := by
  intro k hk
  have hr : List.range 3 = [0, 1, 2] := rfl
  unfold hs2
  rw [hr]
  simp only [List.map_cons, List.map_nil, entP]
  have hc : k = 0 ∨ k = 1 ∨ k = 2 := by omega
  rcases kkP_cases c6 with ⟨a, b, d⟩ | ⟨a, b, d⟩ | ⟨a, b, d⟩ <;> rcases hc with rfl | rfl | rfl <;> rw [a, b, d] <;> rfl
theorem blk_ok : ∀ n, n ≤ 120 → PyData.strOk (blk n 0) = true := by
  intro n _
  have h : (blkL n 0).all (fun c => decide (c < 0x110000)) = true := by
    unfold blkL
    refine List.all_eq_true.mpr fun c hc => ?_
    rcases List.mem_append.mp hc with hc | hc
    · rw [List.eq_of_mem_replicate hc]; rfl
    · rcases List.mem_cons.mp hc with rfl | hc
      · rfl
      · rw [List.eq_of_mem_replicate hc]; rfl
  show (blkL n 0).toArray.all (fun c => decide (c < 0x110000)) = true
  rw [List.all_toArray]; exact h
theorem hs2_mem {c6 : Int} {c σ : Nat → Nat} (hc : ∀ i, c i ≤ 120) {q : Nat × Bool × Str} (h : q ∈ hs2 c6 c σ) : q.1 < 3 ∧ PyData.strOk q.2.2 = true := by
  unfold hs2 at h
  obtain ⟨i, hi, rfl⟩ := List.mem_map.mp h
  exact ⟨kk_lt i, blk_ok _ (Nat.le_trans (Nat.sub_le _ _) (hc _))⟩
theorem hs2_at {c6 : Int} {c σ : Nat → Nat} {l : List (Addr × Obj)} (hl : l.length = 3) (h : ∀ (j : Nat) (p : Addr × Obj), l[j]? = some p → IsEnt (entP c6 c σ j) p.2) :
    ∀ (j : Nat) (p : Addr × Obj), l[j]? = some p → ∃ q t u, (hs2 c6 c σ)[j]? = some q ∧ p.2 = tupO (.str (nmS q.1 q.2.1) t) (.str q.2.2 u) := fun j p hp => by
  obtain ⟨t, u, e⟩ := h j p hp
  have hj : j < 3 := by rw [← hl]; exact (List.getElem?_eq_some_iff.mp hp).1
  refine ⟨entP c6 c σ j, t, u, ?_, e⟩
  unfold hs2
  rw [List.getElem?_map, List.getElem?_range hj]; rfl
end
section
set_option maxHeartbeats 4000000
open PySem PySem.W PySem.Calls PyProof.Rows
noncomputable def kd (o : Obj) : Nat := match o.data with
  | .seq _ _ => 0
  | .cell _ => 1
  | .fields _ => 2
  | .dict _ _ => 3
  | _ => 4
theorem kd_cell {o : Obj} {v : Option Value} (h : o.data = .cell v) : kd o = 1 := by unfold kd; rw [h]
theorem ne_kd {g h : Heap} {L a b : Addr} {oa ob : Obj} {l : List (Addr × Obj)} {x y : Nat} (N : News g L h l) (ma : (a, oa) ∈ l) (mb : (b, ob) ∈ l) (hx : kd oa = x) (hy : kd ob = y) (hne : x ≠ y) : a ≠ b := fun e => by
  subst e
  have z : h.get? a = some oa := (N _ ma).1
  have z2 : h.get? a = some ob := (N _ mb).1
  rw [z2] at z
  rw [Option.some.inj z, hx] at hy
  exact hne hy
theorem three_of {g : Nat → Tok → Value} {vs : List Value} (hl : vs.length = 3) (h : ∀ k, k < 3 → ∃ t, vs[k]? = some (g k t)) : ∃ t0 t1 t2, vs = [g 0 t0, g 1 t1, g 2 t2] := by
  obtain ⟨t0, h0⟩ := h 0 (by decide)
  obtain ⟨t1, h1⟩ := h 1 (by decide)
  obtain ⟨t2, h2⟩ := h 2 (by decide)
  rcases vs with _ | ⟨a, _ | ⟨b, _ | ⟨c, _ | ⟨d, l⟩⟩⟩⟩
  · exact nomatch hl
  · exact nomatch hl
  · exact nomatch hl
  · rw [Option.some.inj h0, Option.some.inj h1, Option.some.inj h2]; exact ⟨t0, t1, t2, rfl⟩
  · exact nomatch hl
theorem jw_e {e a b c : Nat} (h : e ≤ a + b + c) (ha : a ≤ 120) (hb : b ≤ 120) (hc : c ≤ 120) : e ≤ 360 := Nat.le_trans h (Nat.add_le_add (Nat.add_le_add ha hb) hc)
theorem jw_lv {e a b c : Nat} (h : e ≤ a + b + c) (ha : a ≤ 120) (hb : b ≤ 120) (hc : c ≤ 120) : e < 1000 := Nat.lt_of_le_of_lt (jw_e h ha hb hc) (by decide)
theorem jw_z {e a b c : Nat} (h : e ≤ a + b + c) : e - a - b - c = 0 := by rw [Nat.sub_sub, Nat.sub_sub, ← Nat.add_assoc]; exact Nat.sub_eq_zero_of_le h
theorem jw_i {i a b c : Nat} (h : i ≤ a + b + c) : (i : Int) < (a : Int) + (b : Int) + (c : Int) + 1 := by omega
theorem jw_ab {i a b c : Nat} (h : (i : Int) ≤ (a : Int) + (b : Int) + (c : Int) + 1) : i ≤ a + b + c + 1 := by omega
theorem jw_n {x : Int} {e : Nat} (h : 0 ≤ x ∧ x ≤ (e : Int)) (he : e ≤ 360) : -1000 < x ∧ x < 1000 := by omega
theorem estate_of (c : Int) (T : Nat) : ∃ n : Nat, c.fmod ((T / 6 + 1 : Nat) : Int) * 6 = ((6 * n : Nat) : Int) ∧ 6 * n ≤ T := by
  have h1 : 0 ≤ c.fmod ((T / 6 + 1 : Nat) : Int) := Int.fmod_nonneg_of_pos _ (by omega)
  have h2 : c.fmod ((T / 6 + 1 : Nat) : Int) < ((T / 6 + 1 : Nat) : Int) := Int.fmod_lt_of_pos _ (by omega)
  exact ⟨(c.fmod ((T / 6 + 1 : Nat) : Int)).toNat, by omega, by omega⟩
theorem gar_all (up : Bool) (u0 u1 u2 l : Nat) : ∀ i j, j < i → i < 3 → 2 * pk3 (sh12 up u0 l) (sh12 up u1 l) (sh12 up u2 l) i = min (pk3 (12 * u0) (12 * u1) (12 * u2) i) (pk3 (sh12 up u0 l) (sh12 up u1 l) (sh12 up u2 l) i + pk3 (sh12 up u0 l) (sh12 up u1 l) (sh12 up u2 l) j) + min (pk3 (12 * u0) (12 * u1) (12 * u2) i) (pk3 (sh12 up u0 l) (sh12 up u1 l) (sh12 up u2 l) i + pk3 (sh12 up u0 l) (sh12 up u1 l) (sh12 up u2 l) j - min (pk3 (12 * u0) (12 * u1) (12 * u2) j) (pk3 (sh12 up u0 l) (sh12 up u1 l) (sh12 up u2 l) i + pk3 (sh12 up u0 l) (sh12 up u1 l) (sh12 up u2 l) j)) ∧ 2 * pk3 (sh12 up u0 l) (sh12 up u1 l) (sh12 up u2 l) j = min (pk3 (12 * u0) (12 * u1) (12 * u2) j) (pk3 (sh12 up u0 l) (sh12 up u1 l) (sh12 up u2 l) i + pk3 (sh12 up u0 l) (sh12 up u1 l) (sh12 up u2 l) j - min (pk3 (12 * u0) (12 * u1) (12 * u2) i) (pk3 (sh12 up u0 l) (sh12 up u1 l) (sh12 up u2 l) i + pk3 (sh12 up u0 l) (sh12 up u1 l) (sh12 up u2 l) j)) + min (pk3 (12 * u0) (12 * u1) (12 * u2) j) (pk3 (sh12 up u0 l) (sh12 up u1 l) (sh12 up u2 l) i + pk3 (sh12 up u0 l) (sh12 up u1 l) (sh12 up u2 l) j) := by
  intro i j _ _
  have a : ∀ k, pk3 (sh12 up u0 l) (sh12 up u1 l) (sh12 up u2 l) k = sh12 up (pk3 u0 u1 u2 k) l := fun k => by unfold pk3; split <;> (try split) <;> rfl
  have b : ∀ k, pk3 (12 * u0) (12 * u1) (12 * u2) k = 12 * pk3 u0 u1 u2 k := fun k => by unfold pk3; split <;> (try split) <;> rfl
  rw [a, a, b, b]
  exact ⟨gar1 up _ _ l, gar2 up _ _ l⟩
theorem law_walk {w : World} {mean : ExcName → Option Value} {mg mb : Str → Option Value} {dp un : Nat} {fr : Option (List Env)} {gd : Option (List Code)} {s : Shared} {Q : Flow → Shared → Prop} {g : Heap} {L S : Addr} {o1 o2 o3 o4 o5 o6 : Obj} {vs : List Value} {ns : List Int} (Wg : Wd w mean mg mb g) (F : Fr g L s.heap (mp [(Str.ofString "script", .ref S)]))
   (N : News g L s.heap ((L + 1 + 1 + 1 + 1 + 1 + 1, o6) :: (L + 1 + 1 + 1 + 1 + 1, o5) :: (L + 1 + 1 + 1 + 1, o4) :: (L + 1 + 1 + 1, o3) :: (L + 1 + 1, o2) :: (L + 1, o1) :: ((288 : Nat), tabObj #[]) :: ((250 : Nat), tabObj #[]) :: ((302 : Nat), tabObj #[]) :: [])) (d1 : o1.data = .cell none) (d2 : o2.data = .cell none) (d3 : o3.data = .cell none) (d4 : o4.data = .cell none) (d5 : o5.data = .cell none) (d6 : o6.data = .cell none)
   (hS : g.IsList S vs.toArray) (hI : IntsAre vs ns) (hlen : ns.length ≤ 63) (hd : dp + 30 < recursionLimit) (hu : un + 400 < cLine) (hQ : ∀ h' tk', (∃ m, Fr g L h' m) → GrownAll [(292, 288), (254, 250), (304, 302)] h' → Q (.ret (.bool true)) { s with heap := h', toks := tk' }) :
   wpAny (model prg w) (Ar dp fr gd un) (execs (lawRest 0) (lawEnv L)) Q Fls s := by
  have k1 := kd_cell d1
  have k2 := kd_cell d2
  have k3 := kd_cell d3
  have k4 := kd_cell d4
  have k5 := kd_cell d5
  have k6 := kd_cell d6
  have N : News g L _ ((L + 1, o1) :: (L + 1 + 1 + 1 + 1 + 1 + 1, o6) :: (L + 1 + 1 + 1 + 1 + 1, o5) :: (L + 1 + 1 + 1 + 1, o4) :: (L + 1 + 1 + 1, o3) :: (L + 1 + 1, o2) :: ((288 : Nat), tabObj #[]) :: ((250 : Nat), tabObj #[]) :: ((302 : Nat), tabObj #[]) :: []) := pickN [[(L + 1 + 1 + 1 + 1 + 1 + 1, o6)], [(L + 1 + 1 + 1 + 1 + 1, o5)], [(L + 1 + 1 + 1 + 1, o4)], [(L + 1 + 1 + 1, o3)], [(L + 1 + 1, o2)], [(L + 1, o1)], [((288 : Nat), tabObj #[])], [((250 : Nat), tabObj #[])], [((302 : Nat), tabObj #[])]] [5, 0, 1, 2, 3, 4, 6, 7, 8] N
  have M9 : ∀ i p, p ∈ List.getD [[(L + 1, o1)], [(L + 1 + 1 + 1 + 1 + 1 + 1, o6)], [(L + 1 + 1 + 1 + 1 + 1, o5)], [(L + 1 + 1 + 1 + 1, o4)], [(L + 1 + 1 + 1, o3)], [(L + 1 + 1, o2)], [((288 : Nat), tabObj #[])], [((250 : Nat), tabObj #[])], [((302 : Nat), tabObj #[])]] i [] → p ∈ ((L + 1, o1) :: (L + 1 + 1 + 1 + 1 + 1 + 1, o6) :: (L + 1 + 1 + 1 + 1 + 1, o5) :: (L + 1 + 1 + 1 + 1, o4) :: (L + 1 + 1 + 1, o3) :: (L + 1 + 1, o2) :: ((288 : Nat), tabObj #[]) :: ((250 : Nat), tabObj #[]) :: ((302 : Nat), tabObj #[]) :: []) := memB [[(L + 1, o1)], [(L + 1 + 1 + 1 + 1 + 1 + 1, o6)], [(L + 1 + 1 + 1 + 1 + 1, o5)], [(L + 1 + 1 + 1 + 1, o4)], [(L + 1 + 1 + 1, o3)], [(L + 1 + 1, o2)], [((288 : Nat), tabObj #[])], [((250 : Nat), tabObj #[])], [((302 : Nat), tabObj #[])]]
  refine st0 Wg o1 vs ns F N d1 (fac (ne_off L 6 1 rfl) (fac (ne_off L 5 1 rfl) (fac (ne_off L 4 1 rfl) (fac (ne_off L 3 1 rfl) (fac (ne_off L 2 1 rfl) (fac (ne_kd (x := 2) (y := 1) N (M9 6 _ (.head _)) (M9 0 _ (.head _)) rfl k1 (by decide)) (fac (ne_kd (x := 2) (y := 1) N (M9 7 _ (.head _)) (M9 0 _ (.head _)) rfl k1 (by decide)) (fac (ne_kd (x := 2) (y := 1) N (M9 8 _ (.head _)) (M9 0 _ (.head _)) rfl k1 (by decide)) (fun _ h => nomatch h))))))))) hS hI hlen hd hu ?_
  clear F N k1 d1
  intro h0 tk0 o1 C ws ks nw F N d1 hIk hl7
  have k1 := kd_cell d1
  refine st1 Wg C o1 ws ks nw F N d1 hIk hl7 hd hu ?_
  clear F N
  intro h1 tk1 D dl nd F N hdl5 hdebt
  have kdl : ∀ p ∈ dl, kd p.2 = 0 := fun p hp => by obtain ⟨j, hj⟩ := List.getElem?_of_mem hp; obtain ⟨c, _, t, u, e⟩ := hdebt j p hj; rw [e]; rfl
  obtain ⟨c6, h6k⟩ : ∃ c6, ks[6]? = some c6 := ⟨_, List.getElem?_eq_getElem (by omega)⟩
  obtain ⟨c5, h5k⟩ : ∃ c5, ks[5]? = some c5 := ⟨_, List.getElem?_eq_getElem (by omega)⟩
  obtain ⟨t6, h6⟩ := ints_at hIk h6k
  obtain ⟨t5, h5⟩ := ints_at hIk h5k
  have N : News g L _ ((L + 1, o1) :: (C, listOf ws.toArray nw) :: (D, listOf (dl.map fun p => Value.ref p.1).toArray nd) :: (dl ++ (L + 1 + 1 + 1 + 1 + 1 + 1, o6) :: (L + 1 + 1 + 1 + 1 + 1, o5) :: (L + 1 + 1 + 1 + 1, o4) :: (L + 1 + 1 + 1, o3) :: (L + 1 + 1, o2) :: ((288 : Nat), tabObj #[]) :: ((250 : Nat), tabObj #[]) :: ((302 : Nat), tabObj #[]) :: [])) := pickN [[(D, listOf (dl.map fun p => Value.ref p.1).toArray nd)], dl, [(L + 1, o1)], [(C, listOf ws.toArray nw)], [(L + 1 + 1 + 1 + 1 + 1 + 1, o6)], [(L + 1 + 1 + 1 + 1 + 1, o5)], [(L + 1 + 1 + 1 + 1, o4)], [(L + 1 + 1 + 1, o3)], [(L + 1 + 1, o2)], [((288 : Nat), tabObj #[])], [((250 : Nat), tabObj #[])], [((302 : Nat), tabObj #[])]] [2, 3, 0, 1, 4, 5, 6, 7, 8, 9, 10, 11] N
  refine st2 Wg C D o1 ws ks nw c6 F N d1 hIk h6k hd hu ?_
  clear F N
  intro h2 tk2 M vm nm F N hvm3 hvm
  have N : News g L _ ((L + 1 + 1, o2) :: (M, listOf vm.toArray nm) :: (L + 1, o1) :: (C, listOf ws.toArray nw) :: (D, listOf (dl.map fun p => Value.ref p.1).toArray nd) :: (dl ++ (L + 1 + 1 + 1 + 1 + 1 + 1, o6) :: (L + 1 + 1 + 1 + 1 + 1, o5) :: (L + 1 + 1 + 1 + 1, o4) :: (L + 1 + 1 + 1, o3) :: ((288 : Nat), tabObj #[]) :: ((250 : Nat), tabObj #[]) :: ((302 : Nat), tabObj #[]) :: [])) := pickN [[(M, listOf vm.toArray nm)], [(L + 1, o1)], [(C, listOf ws.toArray nw)], [(D, listOf (dl.map fun p => Value.ref p.1).toArray nd)], dl, [(L + 1 + 1 + 1 + 1 + 1 + 1, o6)], [(L + 1 + 1 + 1 + 1 + 1, o5)], [(L + 1 + 1 + 1 + 1, o4)], [(L + 1 + 1 + 1, o3)], [(L + 1 + 1, o2)], [((288 : Nat), tabObj #[])], [((250 : Nat), tabObj #[])], [((302 : Nat), tabObj #[])]] [9, 0, 1, 2, 3, 4, 5, 6, 7, 8, 10, 11, 12] N
  have M9 : ∀ i p, p ∈ List.getD [[(L + 1 + 1, o2)], [(M, listOf vm.toArray nm)], [(L + 1, o1)], [(C, listOf ws.toArray nw)], [(D, listOf (dl.map fun p => Value.ref p.1).toArray nd)], dl, [(L + 1 + 1 + 1 + 1 + 1 + 1, o6)], [(L + 1 + 1 + 1 + 1 + 1, o5)], [(L + 1 + 1 + 1 + 1, o4)], [(L + 1 + 1 + 1, o3)], [((288 : Nat), tabObj #[])], [((250 : Nat), tabObj #[])], [((302 : Nat), tabObj #[])]] i [] → p ∈ ((L + 1 + 1, o2) :: (M, listOf vm.toArray nm) :: (L + 1, o1) :: (C, listOf ws.toArray nw) :: (D, listOf (dl.map fun p => Value.ref p.1).toArray nd) :: (dl ++ (L + 1 + 1 + 1 + 1 + 1 + 1, o6) :: (L + 1 + 1 + 1 + 1 + 1, o5) :: (L + 1 + 1 + 1 + 1, o4) :: (L + 1 + 1 + 1, o3) :: ((288 : Nat), tabObj #[]) :: ((250 : Nat), tabObj #[]) :: ((302 : Nat), tabObj #[]) :: [])) := memB [[(L + 1 + 1, o2)], [(M, listOf vm.toArray nm)], [(L + 1, o1)], [(C, listOf ws.toArray nw)], [(D, listOf (dl.map fun p => Value.ref p.1).toArray nd)], dl, [(L + 1 + 1 + 1 + 1 + 1 + 1, o6)], [(L + 1 + 1 + 1 + 1 + 1, o5)], [(L + 1 + 1 + 1 + 1, o4)], [(L + 1 + 1 + 1, o3)], [((288 : Nat), tabObj #[])], [((250 : Nat), tabObj #[])], [((302 : Nat), tabObj #[])]]
  refine st3 Wg D M o2 F N d2 (fac (ne_kd (x := 0) (y := 1) N (M9 1 _ (.head _)) (M9 0 _ (.head _)) rfl k2 (by decide)) (fac (ne_off L 1 2 rfl) (fac (ne_kd (x := 0) (y := 1) N (M9 3 _ (.head _)) (M9 0 _ (.head _)) rfl k2 (by decide)) (fac (ne_kd (x := 0) (y := 1) N (M9 4 _ (.head _)) (M9 0 _ (.head _)) rfl k2 (by decide)) (faa (fun p hp => (ne_kd (x := 0) (y := 1) N (M9 5 _ hp) (M9 0 _ (.head _)) (kdl p hp) k2 (by decide))) (fac (ne_off L 6 2 rfl) (fac (ne_off L 5 2 rfl) (fac (ne_off L 4 2 rfl) (fac (ne_off L 3 2 rfl) (fac (ne_kd (x := 2) (y := 1) N (M9 10 _ (.head _)) (M9 0 _ (.head _)) rfl k2 (by decide)) (fac (ne_kd (x := 2) (y := 1) N (M9 11 _ (.head _)) (M9 0 _ (.head _)) rfl k2 (by decide)) (fac (ne_kd (x := 2) (y := 1) N (M9 12 _ (.head _)) (M9 0 _ (.head _)) rfl k2 (by decide)) (fun _ h => nomatch h))))))))))))) hd hu ?_
  clear F N k2 d2
  intro h3 tk3 x dx H tb o2 F N d2 hne3
  have k2 := kd_cell d2
  have M9 : ∀ i p, p ∈ List.getD [[(L + 1 + 1, o2)], [(x, instObj 216 dx)], [(dx, bkD w.params tb H)], [(M, listOf vm.toArray nm)], [(L + 1, o1)], [(C, listOf ws.toArray nw)], [(D, listOf (dl.map fun p => Value.ref p.1).toArray nd)], dl, [(L + 1 + 1 + 1 + 1 + 1 + 1, o6)], [(L + 1 + 1 + 1 + 1 + 1, o5)], [(L + 1 + 1 + 1 + 1, o4)], [(L + 1 + 1 + 1, o3)], [((288 : Nat), tabObj #[])], [((250 : Nat), tabObj #[])], [((302 : Nat), tabObj #[])]] i [] → p ∈ ((L + 1 + 1, o2) :: (x, instObj 216 dx) :: (dx, bkD w.params tb H) :: (M, listOf vm.toArray nm) :: (L + 1, o1) :: (C, listOf ws.toArray nw) :: (D, listOf (dl.map fun p => Value.ref p.1).toArray nd) :: (dl ++ (L + 1 + 1 + 1 + 1 + 1 + 1, o6) :: (L + 1 + 1 + 1 + 1 + 1, o5) :: (L + 1 + 1 + 1 + 1, o4) :: (L + 1 + 1 + 1, o3) :: ((288 : Nat), tabObj #[]) :: ((250 : Nat), tabObj #[]) :: ((302 : Nat), tabObj #[]) :: [])) := memB [[(L + 1 + 1, o2)], [(x, instObj 216 dx)], [(dx, bkD w.params tb H)], [(M, listOf vm.toArray nm)], [(L + 1, o1)], [(C, listOf ws.toArray nw)], [(D, listOf (dl.map fun p => Value.ref p.1).toArray nd)], dl, [(L + 1 + 1 + 1 + 1 + 1 + 1, o6)], [(L + 1 + 1 + 1 + 1 + 1, o5)], [(L + 1 + 1 + 1 + 1, o4)], [(L + 1 + 1 + 1, o3)], [((288 : Nat), tabObj #[])], [((250 : Nat), tabObj #[])], [((302 : Nat), tabObj #[])]]
  have hCH : C ≠ H := hne3 (C, listOf ws.toArray nw) (M9 5 _ (.head _))
  have hDH : D ≠ H := hne3 (D, listOf (dl.map fun p => Value.ref p.1).toArray nd) (M9 6 _ (.head _))
  have hMH : M ≠ H := hne3 (M, listOf vm.toArray nm) (M9 3 _ (.head _))
  have hdlH : ∀ p ∈ dl, p.1 ≠ H := fun p hp => hne3 p (M9 7 _ hp)
  have hcs5 : (ks.take 5).length = 5 := by rw [List.length_take, hl7]; rfl
  obtain ⟨hs, ehs⟩ : ∃ hs, hs = hsOf (ks.take 5) := ⟨_, rfl⟩
  have hl5 : hs.length = 5 := by rw [ehs]; unfold hsOf; rw [List.length_map, hcs5]
  have hsm : ∀ q ∈ hs, q.1 < 3 ∧ Clean false q.2.2 ∧ q.2.2.length ≤ 1000 ∧ PyData.strOk q.2.2 = true := fun q hq => hs_mem (cs := ks.take 5) (by rw [← ehs]; exact hq)
  have hdr : ∀ (j : Nat) (p : Addr × Obj), dl[j]? = some p → ∃ q t u, hs[j]? = some q ∧ p.2 = tupO (.str (nmS q.1 q.2.1) t) (.str q.2.2 u) := fun j p hp => by
    obtain ⟨c, hc, t, u, e⟩ := hdebt j p hp
    have hj : j < 5 := by rw [← hdl5]; exact (List.getElem?_eq_some_iff.mp hp).1
    refine ⟨(dkk c, dgg c, spc (dmm c)), t, u, ?_, e⟩
    rw [ehs]; unfold hsOf; rw [List.getElem?_map, List.getElem?_take, if_pos hj, hc]; rfl
  have N : News g L _ ((L + 1 + 1, o2) :: (H, listOf #[] 0) :: (x, instObj 216 dx) :: (dx, bkD w.params tb H) :: (D, listOf (dl.map fun p => Value.ref p.1).toArray nd) :: (dl ++ (M, listOf vm.toArray nm) :: (L + 1, o1) :: (C, listOf ws.toArray nw) :: (L + 1 + 1 + 1 + 1 + 1 + 1, o6) :: (L + 1 + 1 + 1 + 1 + 1, o5) :: (L + 1 + 1 + 1 + 1, o4) :: (L + 1 + 1 + 1, o3) :: ((288 : Nat), tabObj #[]) :: ((250 : Nat), tabObj #[]) :: ((302 : Nat), tabObj #[]) :: [])) := pickN [[(L + 1 + 1, o2)], [(H, listOf #[] 0)], [(x, instObj 216 dx)], [(dx, bkD w.params tb H)], [(M, listOf vm.toArray nm)], [(L + 1, o1)], [(C, listOf ws.toArray nw)], [(D, listOf (dl.map fun p => Value.ref p.1).toArray nd)], dl, [(L + 1 + 1 + 1 + 1 + 1 + 1, o6)], [(L + 1 + 1 + 1 + 1 + 1, o5)], [(L + 1 + 1 + 1 + 1, o4)], [(L + 1 + 1 + 1, o3)], [((288 : Nat), tabObj #[])], [((250 : Nat), tabObj #[])], [((302 : Nat), tabObj #[])]] [0, 1, 2, 3, 7, 8, 4, 5, 6, 9, 10, 11, 12, 13, 14, 15] N
  refine st4 Wg D M x dx H tb o2 dl nd hs F N d2 (hdl5.trans hl5.symm) hdr hl5 (fun q hq => (hsm q hq).1) (fun q hq => (hsm q hq).2.1) (fun q hq => (hsm q hq).2.2.1) (pickA [[(L + 1 + 1, o2)], [(x, instObj 216 dx)], [(dx, bkD w.params tb H)], [(M, listOf vm.toArray nm)], [(L + 1, o1)], [(C, listOf ws.toArray nw)], [(D, listOf (dl.map fun p => Value.ref p.1).toArray nd)], dl, [(L + 1 + 1 + 1 + 1 + 1 + 1, o6)], [(L + 1 + 1 + 1 + 1 + 1, o5)], [(L + 1 + 1 + 1 + 1, o4)], [(L + 1 + 1 + 1, o3)], [((288 : Nat), tabObj #[])], [((250 : Nat), tabObj #[])], [((302 : Nat), tabObj #[])]] [0, 1, 2, 6, 7, 3, 4, 5, 8, 9, 10, 11, 12, 13, 14] hne3) hd hu ?_
  clear F N hne3
  intro h4 tk4 cl n F N hcln hcl
  have kcl : ∀ p ∈ cl, kd p.2 = 0 := fun p hp => by obtain ⟨j, hj⟩ := List.getElem?_of_mem hp; obtain ⟨q, t, u, _, e⟩ := hcl j p hj; rw [e]; rfl
  have hk3 : ∀ q ∈ hs, q.1 < 3 := fun q hq => (hsm q hq).1
  have hok : ∀ q ∈ hs, PyData.strOk q.2.2 = true := fun q hq => (hsm q hq).2.2.2
  have N : News g L _ ((L + 1 + 1, o2) :: (H, listOf (cl.map fun p => Value.ref p.1).toArray n) :: (x, instObj 216 dx) :: (dx, bkD w.params tb H) :: (M, listOf vm.toArray nm) :: (cl ++ (D, listOf (dl.map fun p => Value.ref p.1).toArray nd) :: (dl ++ (L + 1, o1) :: (C, listOf ws.toArray nw) :: (L + 1 + 1 + 1 + 1 + 1 + 1, o6) :: (L + 1 + 1 + 1 + 1 + 1, o5) :: (L + 1 + 1 + 1 + 1, o4) :: (L + 1 + 1 + 1, o3) :: ((288 : Nat), tabObj #[]) :: ((250 : Nat), tabObj #[]) :: ((302 : Nat), tabObj #[]) :: []))) := pickN [[(L + 1 + 1, o2)], [(H, listOf (cl.map fun p => Value.ref p.1).toArray n)], [(x, instObj 216 dx)], [(dx, bkD w.params tb H)], [(D, listOf (dl.map fun p => Value.ref p.1).toArray nd)], cl, dl, [(M, listOf vm.toArray nm)], [(L + 1, o1)], [(C, listOf ws.toArray nw)], [(L + 1 + 1 + 1 + 1 + 1 + 1, o6)], [(L + 1 + 1 + 1 + 1 + 1, o5)], [(L + 1 + 1 + 1 + 1, o4)], [(L + 1 + 1 + 1, o3)], [((288 : Nat), tabObj #[])], [((250 : Nat), tabObj #[])], [((302 : Nat), tabObj #[])]] [0, 1, 2, 3, 7, 5, 4, 6, 8, 9, 10, 11, 12, 13, 14, 15, 16] N
  refine st5 Wg D M x dx H tb o2 cl n vm nm hs F N d2 hcln hcl hl5 hk3 hvm3 (nGr c6) hvm hd hu ?_
  clear F N
  intro h5' tk5 Fi Td tl nt F N hFiH htl ht
  have ktl : ∀ p ∈ tl, kd p.2 = 0 := fun p hp => by obtain ⟨j, hj⟩ := List.getElem?_of_mem hp; obtain ⟨vs, n, e, _⟩ := ht j p hj; rw [e]; rfl
  have N : News g L _ ((L + 1, o1) :: (C, listOf ws.toArray nw) :: (Td, listOf (tl.map fun p => Value.ref p.1).toArray nt) :: (tl ++ (Fi, listOf (cl.map fun p => Value.ref p.1).toArray 0) :: (L + 1 + 1, o2) :: (H, listOf (cl.map fun p => Value.ref p.1).toArray n) :: (x, instObj 216 dx) :: (dx, bkD w.params tb H) :: (M, listOf vm.toArray nm) :: (cl ++ (D, listOf (dl.map fun p => Value.ref p.1).toArray nd) :: (dl ++ (L + 1 + 1 + 1 + 1 + 1 + 1, o6) :: (L + 1 + 1 + 1 + 1 + 1, o5) :: (L + 1 + 1 + 1 + 1, o4) :: (L + 1 + 1 + 1, o3) :: ((288 : Nat), tabObj #[]) :: ((250 : Nat), tabObj #[]) :: ((302 : Nat), tabObj #[]) :: [])))) := pickN [[(Fi, listOf (cl.map fun p => Value.ref p.1).toArray 0)], [(Td, listOf (tl.map fun p => Value.ref p.1).toArray nt)], [(L + 1 + 1, o2)], [(H, listOf (cl.map fun p => Value.ref p.1).toArray n)], [(x, instObj 216 dx)], [(dx, bkD w.params tb H)], [(M, listOf vm.toArray nm)], tl, cl, [(D, listOf (dl.map fun p => Value.ref p.1).toArray nd)], dl, [(L + 1, o1)], [(C, listOf ws.toArray nw)], [(L + 1 + 1 + 1 + 1 + 1 + 1, o6)], [(L + 1 + 1 + 1 + 1 + 1, o5)], [(L + 1 + 1 + 1 + 1, o4)], [(L + 1 + 1 + 1, o3)], [((288 : Nat), tabObj #[])], [((250 : Nat), tabObj #[])], [((302 : Nat), tabObj #[])]] [11, 12, 1, 7, 0, 2, 3, 4, 5, 6, 8, 9, 10, 13, 14, 15, 16, 17, 18, 19] N
  refine st6 Wg C D M Fi Td o1 ws ks nw tl nt F N d1 hIk hl7 htl (fun j p hp => ehs ▸ ht j p hp) hd hu ?_
  clear F N
  intro h6' tk6 F N
  have N : News g L _ ((L + 1 + 1, o2) :: (H, listOf (cl.map fun p => Value.ref p.1).toArray n) :: (x, instObj 216 dx) :: (dx, bkD w.params tb H) :: (M, listOf vm.toArray nm) :: (Td, listOf (tl.map fun p => Value.ref p.1).toArray nt) :: (tl ++ (cl ++ (L + 1, o1) :: (C, listOf ws.toArray nw) :: (Fi, listOf (cl.map fun p => Value.ref p.1).toArray 0) :: (D, listOf (dl.map fun p => Value.ref p.1).toArray nd) :: (dl ++ (L + 1 + 1 + 1 + 1 + 1 + 1, o6) :: (L + 1 + 1 + 1 + 1 + 1, o5) :: (L + 1 + 1 + 1 + 1, o4) :: (L + 1 + 1 + 1, o3) :: ((288 : Nat), tabObj #[]) :: ((250 : Nat), tabObj #[]) :: ((302 : Nat), tabObj #[]) :: [])))) := pickN [[(L + 1, o1)], [(C, listOf ws.toArray nw)], [(Td, listOf (tl.map fun p => Value.ref p.1).toArray nt)], tl, [(Fi, listOf (cl.map fun p => Value.ref p.1).toArray 0)], [(L + 1 + 1, o2)], [(H, listOf (cl.map fun p => Value.ref p.1).toArray n)], [(x, instObj 216 dx)], [(dx, bkD w.params tb H)], [(M, listOf vm.toArray nm)], cl, [(D, listOf (dl.map fun p => Value.ref p.1).toArray nd)], dl, [(L + 1 + 1 + 1 + 1 + 1 + 1, o6)], [(L + 1 + 1 + 1 + 1 + 1, o5)], [(L + 1 + 1 + 1 + 1, o4)], [(L + 1 + 1 + 1, o3)], [((288 : Nat), tabObj #[])], [((250 : Nat), tabObj #[])], [((302 : Nat), tabObj #[])]] [5, 6, 7, 8, 9, 2, 3, 10, 0, 1, 4, 11, 12, 13, 14, 15, 16, 17, 18, 19] N
  refine st7 Wg D M x dx H tb o2 cl n vm nm hs Fi Td tl nt F N d2 hcln hcl hl5 hk3 hvm3 (nGr c6) hvm htl ht hok hd hu ?_
  clear F N
  intro h7' tk7 F N
  obtain ⟨u0, eu0⟩ : ∃ u0, u0 = msum (ks.take 5) 0 := ⟨_, rfl⟩
  obtain ⟨u1, eu1⟩ : ∃ u1, u1 = msum (ks.take 5) 1 := ⟨_, rfl⟩
  obtain ⟨u2, eu2⟩ : ∃ u2, u2 = msum (ks.take 5) 2 := ⟨_, rfl⟩
  have hu0 : u0 ≤ 10 := by rw [eu0]; exact msum_le (Nat.le_of_eq hcs5) 0
  have hu1 : u1 ≤ 10 := by rw [eu1]; exact msum_le (Nat.le_of_eq hcs5) 1
  have hu2 : u2 ≤ 10 := by rw [eu2]; exact msum_le (Nat.le_of_eq hcs5) 2
  have hjn : ∀ j, j < 3 → Txt.join (Str.ofString "") (toldOf hs j) = spc (pk3 (12 * u0) (12 * u1) (12 * u2) j) := fun j hj => by
    rw [ehs, told_join]
    have hc : j = 0 ∨ j = 1 ∨ j = 2 := by omega
    rcases hc with rfl | rfl | rfl
    · rw [eu0]; rfl
    · rw [eu1]; rfl
    · rw [eu2]; rfl
  have N : News g L _ ((L + 1 + 1 + 1, o3) :: (Td, listOf (tl.map fun p => Value.ref p.1).toArray nt) :: (tl ++ (L + 1 + 1, o2) :: (H, listOf (cl.map fun p => Value.ref p.1).toArray n) :: (x, instObj 216 dx) :: (dx, bkD w.params tb H) :: (M, listOf vm.toArray nm) :: (cl ++ (L + 1, o1) :: (C, listOf ws.toArray nw) :: (Fi, listOf (cl.map fun p => Value.ref p.1).toArray 0) :: (D, listOf (dl.map fun p => Value.ref p.1).toArray nd) :: (dl ++ (L + 1 + 1 + 1 + 1 + 1 + 1, o6) :: (L + 1 + 1 + 1 + 1 + 1, o5) :: (L + 1 + 1 + 1 + 1, o4) :: ((288 : Nat), tabObj #[]) :: ((250 : Nat), tabObj #[]) :: ((302 : Nat), tabObj #[]) :: [])))) := pickN [[(L + 1 + 1, o2)], [(H, listOf (cl.map fun p => Value.ref p.1).toArray n)], [(x, instObj 216 dx)], [(dx, bkD w.params tb H)], [(M, listOf vm.toArray nm)], [(Td, listOf (tl.map fun p => Value.ref p.1).toArray nt)], tl, cl, [(L + 1, o1)], [(C, listOf ws.toArray nw)], [(Fi, listOf (cl.map fun p => Value.ref p.1).toArray 0)], [(D, listOf (dl.map fun p => Value.ref p.1).toArray nd)], dl, [(L + 1 + 1 + 1 + 1 + 1 + 1, o6)], [(L + 1 + 1 + 1 + 1 + 1, o5)], [(L + 1 + 1 + 1 + 1, o4)], [(L + 1 + 1 + 1, o3)], [((288 : Nat), tabObj #[])], [((250 : Nat), tabObj #[])], [((302 : Nat), tabObj #[])]] [16, 5, 6, 0, 1, 2, 3, 4, 7, 8, 9, 10, 11, 12, 13, 14, 15, 17, 18, 19] N
  have M9 : ∀ i p, p ∈ List.getD [[(L + 1 + 1 + 1, o3)], [(Td, listOf (tl.map fun p => Value.ref p.1).toArray nt)], tl, [(L + 1 + 1, o2)], [(H, listOf (cl.map fun p => Value.ref p.1).toArray n)], [(x, instObj 216 dx)], [(dx, bkD w.params tb H)], [(M, listOf vm.toArray nm)], cl, [(L + 1, o1)], [(C, listOf ws.toArray nw)], [(Fi, listOf (cl.map fun p => Value.ref p.1).toArray 0)], [(D, listOf (dl.map fun p => Value.ref p.1).toArray nd)], dl, [(L + 1 + 1 + 1 + 1 + 1 + 1, o6)], [(L + 1 + 1 + 1 + 1 + 1, o5)], [(L + 1 + 1 + 1 + 1, o4)], [((288 : Nat), tabObj #[])], [((250 : Nat), tabObj #[])], [((302 : Nat), tabObj #[])]] i [] → p ∈ ((L + 1 + 1 + 1, o3) :: (Td, listOf (tl.map fun p => Value.ref p.1).toArray nt) :: (tl ++ (L + 1 + 1, o2) :: (H, listOf (cl.map fun p => Value.ref p.1).toArray n) :: (x, instObj 216 dx) :: (dx, bkD w.params tb H) :: (M, listOf vm.toArray nm) :: (cl ++ (L + 1, o1) :: (C, listOf ws.toArray nw) :: (Fi, listOf (cl.map fun p => Value.ref p.1).toArray 0) :: (D, listOf (dl.map fun p => Value.ref p.1).toArray nd) :: (dl ++ (L + 1 + 1 + 1 + 1 + 1 + 1, o6) :: (L + 1 + 1 + 1 + 1 + 1, o5) :: (L + 1 + 1 + 1 + 1, o4) :: ((288 : Nat), tabObj #[]) :: ((250 : Nat), tabObj #[]) :: ((302 : Nat), tabObj #[]) :: [])))) := memB [[(L + 1 + 1 + 1, o3)], [(Td, listOf (tl.map fun p => Value.ref p.1).toArray nt)], tl, [(L + 1 + 1, o2)], [(H, listOf (cl.map fun p => Value.ref p.1).toArray n)], [(x, instObj 216 dx)], [(dx, bkD w.params tb H)], [(M, listOf vm.toArray nm)], cl, [(L + 1, o1)], [(C, listOf ws.toArray nw)], [(Fi, listOf (cl.map fun p => Value.ref p.1).toArray 0)], [(D, listOf (dl.map fun p => Value.ref p.1).toArray nd)], dl, [(L + 1 + 1 + 1 + 1 + 1 + 1, o6)], [(L + 1 + 1 + 1 + 1 + 1, o5)], [(L + 1 + 1 + 1 + 1, o4)], [((288 : Nat), tabObj #[])], [((250 : Nat), tabObj #[])], [((302 : Nat), tabObj #[])]]
  refine st8 Wg D M Fi Td o3 tl nt (pk3 (12 * u0) (12 * u1) (12 * u2)) F N d3 (fac (ne_kd (x := 0) (y := 1) N (M9 1 _ (.head _)) (M9 0 _ (.head _)) rfl k3 (by decide)) (faa (fun p hp => (ne_kd (x := 0) (y := 1) N (M9 2 _ hp) (M9 0 _ (.head _)) (ktl p hp) k3 (by decide))) (fac (ne_off L 2 3 rfl) (fac (ne_kd (x := 0) (y := 1) N (M9 4 _ (.head _)) (M9 0 _ (.head _)) rfl k3 (by decide)) (fac (ne_kd (x := 4) (y := 1) N (M9 5 _ (.head _)) (M9 0 _ (.head _)) rfl k3 (by decide)) (fac (ne_kd (x := 3) (y := 1) N (M9 6 _ (.head _)) (M9 0 _ (.head _)) rfl k3 (by decide)) (fac (ne_kd (x := 0) (y := 1) N (M9 7 _ (.head _)) (M9 0 _ (.head _)) rfl k3 (by decide)) (faa (fun p hp => (ne_kd (x := 0) (y := 1) N (M9 8 _ hp) (M9 0 _ (.head _)) (kcl p hp) k3 (by decide))) (fac (ne_off L 1 3 rfl) (fac (ne_kd (x := 0) (y := 1) N (M9 10 _ (.head _)) (M9 0 _ (.head _)) rfl k3 (by decide)) (fac (ne_kd (x := 0) (y := 1) N (M9 11 _ (.head _)) (M9 0 _ (.head _)) rfl k3 (by decide)) (fac (ne_kd (x := 0) (y := 1) N (M9 12 _ (.head _)) (M9 0 _ (.head _)) rfl k3 (by decide)) (faa (fun p hp => (ne_kd (x := 0) (y := 1) N (M9 13 _ hp) (M9 0 _ (.head _)) (kdl p hp) k3 (by decide))) (fac (ne_off L 6 3 rfl) (fac (ne_off L 5 3 rfl) (fac (ne_off L 4 3 rfl) (fac (ne_kd (x := 2) (y := 1) N (M9 17 _ (.head _)) (M9 0 _ (.head _)) rfl k3 (by decide)) (fac (ne_kd (x := 2) (y := 1) N (M9 18 _ (.head _)) (M9 0 _ (.head _)) rfl k3 (by decide)) (fac (ne_kd (x := 2) (y := 1) N (M9 19 _ (.head _)) (M9 0 _ (.head _)) rfl k3 (by decide)) (fun _ h => nomatch h)))))))))))))))))))) htl (toldOf hs) ht hjn (fun j _ => by rw [ehs]; exact told_small (Nat.le_of_eq hcs5) j) hd hu ?_
  clear F N k3 d3
  intro h8 tk8 o3 l vt nl F N d3 hvt3 hvt
  have k3 := kd_cell d3
  have N : News g L _ ((L + 1 + 1 + 1 + 1, o4) :: (L + 1 + 1 + 1, o3) :: (l, listOf vt.toArray nl) :: (Td, listOf (tl.map fun p => Value.ref p.1).toArray nt) :: (tl ++ (L + 1 + 1, o2) :: (H, listOf (cl.map fun p => Value.ref p.1).toArray n) :: (x, instObj 216 dx) :: (dx, bkD w.params tb H) :: (M, listOf vm.toArray nm) :: (cl ++ (L + 1, o1) :: (C, listOf ws.toArray nw) :: (Fi, listOf (cl.map fun p => Value.ref p.1).toArray 0) :: (D, listOf (dl.map fun p => Value.ref p.1).toArray nd) :: (dl ++ (L + 1 + 1 + 1 + 1 + 1 + 1, o6) :: (L + 1 + 1 + 1 + 1 + 1, o5) :: ((288 : Nat), tabObj #[]) :: ((250 : Nat), tabObj #[]) :: ((302 : Nat), tabObj #[]) :: [])))) := pickN [[(L + 1 + 1 + 1, o3)], [(l, listOf vt.toArray nl)], [(Td, listOf (tl.map fun p => Value.ref p.1).toArray nt)], tl, [(L + 1 + 1, o2)], [(H, listOf (cl.map fun p => Value.ref p.1).toArray n)], [(x, instObj 216 dx)], [(dx, bkD w.params tb H)], [(M, listOf vm.toArray nm)], cl, [(L + 1, o1)], [(C, listOf ws.toArray nw)], [(Fi, listOf (cl.map fun p => Value.ref p.1).toArray 0)], [(D, listOf (dl.map fun p => Value.ref p.1).toArray nd)], dl, [(L + 1 + 1 + 1 + 1 + 1 + 1, o6)], [(L + 1 + 1 + 1 + 1 + 1, o5)], [(L + 1 + 1 + 1 + 1, o4)], [((288 : Nat), tabObj #[])], [((250 : Nat), tabObj #[])], [((302 : Nat), tabObj #[])]] [17, 0, 1, 2, 3, 4, 5, 6, 7, 8, 9, 10, 11, 12, 13, 14, 15, 16, 18, 19, 20] N
  have hpk : ∀ k, k < 3 → pk3 (12 * u0) (12 * u1) (12 * u2) k ≤ 1000 := fun k _ => by unfold pk3; split <;> (try split) <;> omega
  have M9 : ∀ i p, p ∈ List.getD [[(L + 1 + 1 + 1 + 1, o4)], [(L + 1 + 1 + 1, o3)], [(l, listOf vt.toArray nl)], [(Td, listOf (tl.map fun p => Value.ref p.1).toArray nt)], tl, [(L + 1 + 1, o2)], [(H, listOf (cl.map fun p => Value.ref p.1).toArray n)], [(x, instObj 216 dx)], [(dx, bkD w.params tb H)], [(M, listOf vm.toArray nm)], cl, [(L + 1, o1)], [(C, listOf ws.toArray nw)], [(Fi, listOf (cl.map fun p => Value.ref p.1).toArray 0)], [(D, listOf (dl.map fun p => Value.ref p.1).toArray nd)], dl, [(L + 1 + 1 + 1 + 1 + 1 + 1, o6)], [(L + 1 + 1 + 1 + 1 + 1, o5)], [((288 : Nat), tabObj #[])], [((250 : Nat), tabObj #[])], [((302 : Nat), tabObj #[])]] i [] → p ∈ ((L + 1 + 1 + 1 + 1, o4) :: (L + 1 + 1 + 1, o3) :: (l, listOf vt.toArray nl) :: (Td, listOf (tl.map fun p => Value.ref p.1).toArray nt) :: (tl ++ (L + 1 + 1, o2) :: (H, listOf (cl.map fun p => Value.ref p.1).toArray n) :: (x, instObj 216 dx) :: (dx, bkD w.params tb H) :: (M, listOf vm.toArray nm) :: (cl ++ (L + 1, o1) :: (C, listOf ws.toArray nw) :: (Fi, listOf (cl.map fun p => Value.ref p.1).toArray 0) :: (D, listOf (dl.map fun p => Value.ref p.1).toArray nd) :: (dl ++ (L + 1 + 1 + 1 + 1 + 1 + 1, o6) :: (L + 1 + 1 + 1 + 1 + 1, o5) :: ((288 : Nat), tabObj #[]) :: ((250 : Nat), tabObj #[]) :: ((302 : Nat), tabObj #[]) :: [])))) := memB [[(L + 1 + 1 + 1 + 1, o4)], [(L + 1 + 1 + 1, o3)], [(l, listOf vt.toArray nl)], [(Td, listOf (tl.map fun p => Value.ref p.1).toArray nt)], tl, [(L + 1 + 1, o2)], [(H, listOf (cl.map fun p => Value.ref p.1).toArray n)], [(x, instObj 216 dx)], [(dx, bkD w.params tb H)], [(M, listOf vm.toArray nm)], cl, [(L + 1, o1)], [(C, listOf ws.toArray nw)], [(Fi, listOf (cl.map fun p => Value.ref p.1).toArray 0)], [(D, listOf (dl.map fun p => Value.ref p.1).toArray nd)], dl, [(L + 1 + 1 + 1 + 1 + 1 + 1, o6)], [(L + 1 + 1 + 1 + 1 + 1, o5)], [((288 : Nat), tabObj #[])], [((250 : Nat), tabObj #[])], [((302 : Nat), tabObj #[])]]
  refine st9 Wg D M Fi Td l o3 o4 vt nl F N d3 hvt3 (pk3 (12 * u0) (12 * u1) (12 * u2)) hvt hpk d4 (fac (ne_off L 3 4 rfl) (fac (ne_kd (x := 0) (y := 1) N (M9 2 _ (.head _)) (M9 0 _ (.head _)) rfl k4 (by decide)) (fac (ne_kd (x := 0) (y := 1) N (M9 3 _ (.head _)) (M9 0 _ (.head _)) rfl k4 (by decide)) (faa (fun p hp => (ne_kd (x := 0) (y := 1) N (M9 4 _ hp) (M9 0 _ (.head _)) (ktl p hp) k4 (by decide))) (fac (ne_off L 2 4 rfl) (fac (ne_kd (x := 0) (y := 1) N (M9 6 _ (.head _)) (M9 0 _ (.head _)) rfl k4 (by decide)) (fac (ne_kd (x := 4) (y := 1) N (M9 7 _ (.head _)) (M9 0 _ (.head _)) rfl k4 (by decide)) (fac (ne_kd (x := 3) (y := 1) N (M9 8 _ (.head _)) (M9 0 _ (.head _)) rfl k4 (by decide)) (fac (ne_kd (x := 0) (y := 1) N (M9 9 _ (.head _)) (M9 0 _ (.head _)) rfl k4 (by decide)) (faa (fun p hp => (ne_kd (x := 0) (y := 1) N (M9 10 _ hp) (M9 0 _ (.head _)) (kcl p hp) k4 (by decide))) (fac (ne_off L 1 4 rfl) (fac (ne_kd (x := 0) (y := 1) N (M9 12 _ (.head _)) (M9 0 _ (.head _)) rfl k4 (by decide)) (fac (ne_kd (x := 0) (y := 1) N (M9 13 _ (.head _)) (M9 0 _ (.head _)) rfl k4 (by decide)) (fac (ne_kd (x := 0) (y := 1) N (M9 14 _ (.head _)) (M9 0 _ (.head _)) rfl k4 (by decide)) (faa (fun p hp => (ne_kd (x := 0) (y := 1) N (M9 15 _ hp) (M9 0 _ (.head _)) (kdl p hp) k4 (by decide))) (fac (ne_off L 6 4 rfl) (fac (ne_off L 5 4 rfl) (fac (ne_kd (x := 2) (y := 1) N (M9 18 _ (.head _)) (M9 0 _ (.head _)) rfl k4 (by decide)) (fac (ne_kd (x := 2) (y := 1) N (M9 19 _ (.head _)) (M9 0 _ (.head _)) rfl k4 (by decide)) (fac (ne_kd (x := 2) (y := 1) N (M9 20 _ (.head _)) (M9 0 _ (.head _)) rfl k4 (by decide)) (fun _ h => nomatch h))))))))))))))))))))) hd hu ?_
  clear F N k4 d4
  intro h9 tk9 o4 q wq nq F N d4 hwq3 hwq
  have k4 := kd_cell d4
  obtain ⟨t0, t1, t2, rfl⟩ : ∃ t0 t1 t2, wq = [.int ((12 * u0 : Nat) : Int) t0, .int ((12 * u1 : Nat) : Int) t1, .int ((12 * u2 : Nat) : Int) t2] := three_of (g := fun k t => Value.int (pk3 (12 * u0) (12 * u1) (12 * u2) k : Nat) t) hwq3 hwq
  obtain ⟨a0, a1, a2, rfl⟩ : ∃ t0 t1 t2, vt = [.str (spc (12 * u0)) t0, .str (spc (12 * u1)) t1, .str (spc (12 * u2)) t2] := three_of (g := fun k t => Value.str (spc (pk3 (12 * u0) (12 * u1) (12 * u2) k)) t) hvt3 hvt
  clear eu0 eu1 eu2
  have hc0 : 12 * u0 ≤ 120 := Nat.mul_le_mul_left 12 hu0
  have hc1 : 12 * u1 ≤ 120 := Nat.mul_le_mul_left 12 hu1
  have hc2 : 12 * u2 ≤ 120 := Nat.mul_le_mul_left 12 hu2
  refine st10 Wg D M Fi Td q o4 (12 * u0) (12 * u1) (12 * u2) t0 t1 t2 nq F N d4 hc0 hc1 hc2 hd hu ?_
  clear F N
  intro h10 tk10 tt F N
  have N : News g L _ ((L + 1 + 1 + 1 + 1 + 1, o5) :: (L + 1, o1) :: (C, listOf ws.toArray nw) :: (L + 1 + 1 + 1 + 1, o4) :: (q, listOf #[.int ((12 * u0 : Nat) : Int) t0, .int ((12 * u1 : Nat) : Int) t1, .int ((12 * u2 : Nat) : Int) t2] nq) :: (L + 1 + 1 + 1, o3) :: (l, listOf #[.str (spc (12 * u0)) a0, .str (spc (12 * u1)) a1, .str (spc (12 * u2)) a2] nl) :: (Td, listOf (tl.map fun p => Value.ref p.1).toArray nt) :: (tl ++ (L + 1 + 1, o2) :: (H, listOf (cl.map fun p => Value.ref p.1).toArray n) :: (x, instObj 216 dx) :: (dx, bkD w.params tb H) :: (M, listOf vm.toArray nm) :: (cl ++ (Fi, listOf (cl.map fun p => Value.ref p.1).toArray 0) :: (D, listOf (dl.map fun p => Value.ref p.1).toArray nd) :: (dl ++ (L + 1 + 1 + 1 + 1 + 1 + 1, o6) :: ((288 : Nat), tabObj #[]) :: ((250 : Nat), tabObj #[]) :: ((302 : Nat), tabObj #[]) :: [])))) := pickN [[(L + 1 + 1 + 1 + 1, o4)], [(q, listOf #[.int ((12 * u0 : Nat) : Int) t0, .int ((12 * u1 : Nat) : Int) t1, .int ((12 * u2 : Nat) : Int) t2] nq)], [(L + 1 + 1 + 1, o3)], [(l, listOf #[.str (spc (12 * u0)) a0, .str (spc (12 * u1)) a1, .str (spc (12 * u2)) a2] nl)], [(Td, listOf (tl.map fun p => Value.ref p.1).toArray nt)], tl, [(L + 1 + 1, o2)], [(H, listOf (cl.map fun p => Value.ref p.1).toArray n)], [(x, instObj 216 dx)], [(dx, bkD w.params tb H)], [(M, listOf vm.toArray nm)], cl, [(L + 1, o1)], [(C, listOf ws.toArray nw)], [(Fi, listOf (cl.map fun p => Value.ref p.1).toArray 0)], [(D, listOf (dl.map fun p => Value.ref p.1).toArray nd)], dl, [(L + 1 + 1 + 1 + 1 + 1 + 1, o6)], [(L + 1 + 1 + 1 + 1 + 1, o5)], [((288 : Nat), tabObj #[])], [((250 : Nat), tabObj #[])], [((302 : Nat), tabObj #[])]] [18, 12, 13, 0, 1, 2, 3, 4, 5, 6, 7, 8, 9, 10, 11, 14, 15, 16, 17, 19, 20, 21] N
  have M9 : ∀ i p, p ∈ List.getD [[(L + 1 + 1 + 1 + 1 + 1, o5)], [(L + 1, o1)], [(C, listOf ws.toArray nw)], [(L + 1 + 1 + 1 + 1, o4)], [(q, listOf #[.int ((12 * u0 : Nat) : Int) t0, .int ((12 * u1 : Nat) : Int) t1, .int ((12 * u2 : Nat) : Int) t2] nq)], [(L + 1 + 1 + 1, o3)], [(l, listOf #[.str (spc (12 * u0)) a0, .str (spc (12 * u1)) a1, .str (spc (12 * u2)) a2] nl)], [(Td, listOf (tl.map fun p => Value.ref p.1).toArray nt)], tl, [(L + 1 + 1, o2)], [(H, listOf (cl.map fun p => Value.ref p.1).toArray n)], [(x, instObj 216 dx)], [(dx, bkD w.params tb H)], [(M, listOf vm.toArray nm)], cl, [(Fi, listOf (cl.map fun p => Value.ref p.1).toArray 0)], [(D, listOf (dl.map fun p => Value.ref p.1).toArray nd)], dl, [(L + 1 + 1 + 1 + 1 + 1 + 1, o6)], [((288 : Nat), tabObj #[])], [((250 : Nat), tabObj #[])], [((302 : Nat), tabObj #[])]] i [] → p ∈ ((L + 1 + 1 + 1 + 1 + 1, o5) :: (L + 1, o1) :: (C, listOf ws.toArray nw) :: (L + 1 + 1 + 1 + 1, o4) :: (q, listOf #[.int ((12 * u0 : Nat) : Int) t0, .int ((12 * u1 : Nat) : Int) t1, .int ((12 * u2 : Nat) : Int) t2] nq) :: (L + 1 + 1 + 1, o3) :: (l, listOf #[.str (spc (12 * u0)) a0, .str (spc (12 * u1)) a1, .str (spc (12 * u2)) a2] nl) :: (Td, listOf (tl.map fun p => Value.ref p.1).toArray nt) :: (tl ++ (L + 1 + 1, o2) :: (H, listOf (cl.map fun p => Value.ref p.1).toArray n) :: (x, instObj 216 dx) :: (dx, bkD w.params tb H) :: (M, listOf vm.toArray nm) :: (cl ++ (Fi, listOf (cl.map fun p => Value.ref p.1).toArray 0) :: (D, listOf (dl.map fun p => Value.ref p.1).toArray nd) :: (dl ++ (L + 1 + 1 + 1 + 1 + 1 + 1, o6) :: ((288 : Nat), tabObj #[]) :: ((250 : Nat), tabObj #[]) :: ((302 : Nat), tabObj #[]) :: [])))) := memB [[(L + 1 + 1 + 1 + 1 + 1, o5)], [(L + 1, o1)], [(C, listOf ws.toArray nw)], [(L + 1 + 1 + 1 + 1, o4)], [(q, listOf #[.int ((12 * u0 : Nat) : Int) t0, .int ((12 * u1 : Nat) : Int) t1, .int ((12 * u2 : Nat) : Int) t2] nq)], [(L + 1 + 1 + 1, o3)], [(l, listOf #[.str (spc (12 * u0)) a0, .str (spc (12 * u1)) a1, .str (spc (12 * u2)) a2] nl)], [(Td, listOf (tl.map fun p => Value.ref p.1).toArray nt)], tl, [(L + 1 + 1, o2)], [(H, listOf (cl.map fun p => Value.ref p.1).toArray n)], [(x, instObj 216 dx)], [(dx, bkD w.params tb H)], [(M, listOf vm.toArray nm)], cl, [(Fi, listOf (cl.map fun p => Value.ref p.1).toArray 0)], [(D, listOf (dl.map fun p => Value.ref p.1).toArray nd)], dl, [(L + 1 + 1 + 1 + 1 + 1 + 1, o6)], [((288 : Nat), tabObj #[])], [((250 : Nat), tabObj #[])], [((302 : Nat), tabObj #[])]]
  refine st11 Wg C D M Fi Td o1 ws nw (12 * u0) (12 * u1) (12 * u2) tt t5 c5 o5 F N d1 h5 d5 (fac (ne_off L 1 5 rfl) (fac (ne_kd (x := 0) (y := 1) N (M9 2 _ (.head _)) (M9 0 _ (.head _)) rfl k5 (by decide)) (fac (ne_off L 4 5 rfl) (fac (ne_kd (x := 0) (y := 1) N (M9 4 _ (.head _)) (M9 0 _ (.head _)) rfl k5 (by decide)) (fac (ne_off L 3 5 rfl) (fac (ne_kd (x := 0) (y := 1) N (M9 6 _ (.head _)) (M9 0 _ (.head _)) rfl k5 (by decide)) (fac (ne_kd (x := 0) (y := 1) N (M9 7 _ (.head _)) (M9 0 _ (.head _)) rfl k5 (by decide)) (faa (fun p hp => (ne_kd (x := 0) (y := 1) N (M9 8 _ hp) (M9 0 _ (.head _)) (ktl p hp) k5 (by decide))) (fac (ne_off L 2 5 rfl) (fac (ne_kd (x := 0) (y := 1) N (M9 10 _ (.head _)) (M9 0 _ (.head _)) rfl k5 (by decide)) (fac (ne_kd (x := 4) (y := 1) N (M9 11 _ (.head _)) (M9 0 _ (.head _)) rfl k5 (by decide)) (fac (ne_kd (x := 3) (y := 1) N (M9 12 _ (.head _)) (M9 0 _ (.head _)) rfl k5 (by decide)) (fac (ne_kd (x := 0) (y := 1) N (M9 13 _ (.head _)) (M9 0 _ (.head _)) rfl k5 (by decide)) (faa (fun p hp => (ne_kd (x := 0) (y := 1) N (M9 14 _ hp) (M9 0 _ (.head _)) (kcl p hp) k5 (by decide))) (fac (ne_kd (x := 0) (y := 1) N (M9 15 _ (.head _)) (M9 0 _ (.head _)) rfl k5 (by decide)) (fac (ne_kd (x := 0) (y := 1) N (M9 16 _ (.head _)) (M9 0 _ (.head _)) rfl k5 (by decide)) (faa (fun p hp => (ne_kd (x := 0) (y := 1) N (M9 17 _ hp) (M9 0 _ (.head _)) (kdl p hp) k5 (by decide))) (fac (ne_off L 6 5 rfl) (fac (ne_kd (x := 2) (y := 1) N (M9 19 _ (.head _)) (M9 0 _ (.head _)) rfl k5 (by decide)) (fac (ne_kd (x := 2) (y := 1) N (M9 20 _ (.head _)) (M9 0 _ (.head _)) rfl k5 (by decide)) (fac (ne_kd (x := 2) (y := 1) N (M9 21 _ (.head _)) (M9 0 _ (.head _)) rfl k5 (by decide)) (fun _ h => nomatch h)))))))))))))))))))))) hd hu ?_
  clear F N k5 d5
  intro h11 tk11 o5 te F N d5
  have k5 := kd_cell d5
  obtain ⟨ν, eν, hν⟩ := estate_of c5 (12 * u0 + 12 * u1 + 12 * u2)
  rw [eν] at d5
  have he : 6 * ν ≤ 360 := jw_e hν hc0 hc1 hc2
  have N : News g L _ ((L + 1 + 1 + 1 + 1 + 1, o5) :: (L + 1 + 1 + 1, o3) :: (l, listOf #[.str (spc (12 * u0)) a0, .str (spc (12 * u1)) a1, .str (spc (12 * u2)) a2] nl) :: (L + 1, o1) :: (C, listOf ws.toArray nw) :: (L + 1 + 1 + 1 + 1, o4) :: (q, listOf #[.int ((12 * u0 : Nat) : Int) t0, .int ((12 * u1 : Nat) : Int) t1, .int ((12 * u2 : Nat) : Int) t2] nq) :: (Td, listOf (tl.map fun p => Value.ref p.1).toArray nt) :: (tl ++ (L + 1 + 1, o2) :: (H, listOf (cl.map fun p => Value.ref p.1).toArray n) :: (x, instObj 216 dx) :: (dx, bkD w.params tb H) :: (M, listOf vm.toArray nm) :: (cl ++ (Fi, listOf (cl.map fun p => Value.ref p.1).toArray 0) :: (D, listOf (dl.map fun p => Value.ref p.1).toArray nd) :: (dl ++ (L + 1 + 1 + 1 + 1 + 1 + 1, o6) :: ((288 : Nat), tabObj #[]) :: ((250 : Nat), tabObj #[]) :: ((302 : Nat), tabObj #[]) :: [])))) := pickN [[(L + 1 + 1 + 1 + 1 + 1, o5)], [(L + 1, o1)], [(C, listOf ws.toArray nw)], [(L + 1 + 1 + 1 + 1, o4)], [(q, listOf #[.int ((12 * u0 : Nat) : Int) t0, .int ((12 * u1 : Nat) : Int) t1, .int ((12 * u2 : Nat) : Int) t2] nq)], [(L + 1 + 1 + 1, o3)], [(l, listOf #[.str (spc (12 * u0)) a0, .str (spc (12 * u1)) a1, .str (spc (12 * u2)) a2] nl)], [(Td, listOf (tl.map fun p => Value.ref p.1).toArray nt)], tl, [(L + 1 + 1, o2)], [(H, listOf (cl.map fun p => Value.ref p.1).toArray n)], [(x, instObj 216 dx)], [(dx, bkD w.params tb H)], [(M, listOf vm.toArray nm)], cl, [(Fi, listOf (cl.map fun p => Value.ref p.1).toArray 0)], [(D, listOf (dl.map fun p => Value.ref p.1).toArray nd)], dl, [(L + 1 + 1 + 1 + 1 + 1 + 1, o6)], [((288 : Nat), tabObj #[])], [((250 : Nat), tabObj #[])], [((302 : Nat), tabObj #[])]] [0, 5, 6, 1, 2, 3, 4, 7, 8, 9, 10, 11, 12, 13, 14, 15, 16, 17, 18, 19, 20, 21] N
  refine st12 Wg D M Fi Td (12 * u0) (12 * u1) (12 * u2) tt l o3 a0 a1 a2 nl (6 * ν) te o5 F N d5 he d3 hc0 hc1 hc2 hd hu ?_
  clear F N
  intro h12 tk12 lf vf nf F N hvf7 hvf
  have N : News g L _ (((250 : Nat), tabObj #[]) :: (L + 1 + 1 + 1 + 1 + 1, o5) :: (L + 1 + 1 + 1 + 1, o4) :: (q, listOf #[.int ((12 * u0 : Nat) : Int) t0, .int ((12 * u1 : Nat) : Int) t1, .int ((12 * u2 : Nat) : Int) t2] nq) :: (lf, listOf vf.toArray nf) :: (L + 1 + 1 + 1, o3) :: (l, listOf #[.str (spc (12 * u0)) a0, .str (spc (12 * u1)) a1, .str (spc (12 * u2)) a2] nl) :: (L + 1, o1) :: (C, listOf ws.toArray nw) :: (Td, listOf (tl.map fun p => Value.ref p.1).toArray nt) :: (tl ++ (L + 1 + 1, o2) :: (H, listOf (cl.map fun p => Value.ref p.1).toArray n) :: (x, instObj 216 dx) :: (dx, bkD w.params tb H) :: (M, listOf vm.toArray nm) :: (cl ++ (Fi, listOf (cl.map fun p => Value.ref p.1).toArray 0) :: (D, listOf (dl.map fun p => Value.ref p.1).toArray nd) :: (dl ++ (L + 1 + 1 + 1 + 1 + 1 + 1, o6) :: ((288 : Nat), tabObj #[]) :: ((302 : Nat), tabObj #[]) :: [])))) := pickN [[(lf, listOf vf.toArray nf)], [(L + 1 + 1 + 1 + 1 + 1, o5)], [(L + 1 + 1 + 1, o3)], [(l, listOf #[.str (spc (12 * u0)) a0, .str (spc (12 * u1)) a1, .str (spc (12 * u2)) a2] nl)], [(L + 1, o1)], [(C, listOf ws.toArray nw)], [(L + 1 + 1 + 1 + 1, o4)], [(q, listOf #[.int ((12 * u0 : Nat) : Int) t0, .int ((12 * u1 : Nat) : Int) t1, .int ((12 * u2 : Nat) : Int) t2] nq)], [(Td, listOf (tl.map fun p => Value.ref p.1).toArray nt)], tl, [(L + 1 + 1, o2)], [(H, listOf (cl.map fun p => Value.ref p.1).toArray n)], [(x, instObj 216 dx)], [(dx, bkD w.params tb H)], [(M, listOf vm.toArray nm)], cl, [(Fi, listOf (cl.map fun p => Value.ref p.1).toArray 0)], [(D, listOf (dl.map fun p => Value.ref p.1).toArray nd)], dl, [(L + 1 + 1 + 1 + 1 + 1 + 1, o6)], [((288 : Nat), tabObj #[])], [((250 : Nat), tabObj #[])], [((302 : Nat), tabObj #[])]] [21, 1, 6, 7, 0, 2, 3, 4, 5, 8, 9, 10, 11, 12, 13, 14, 15, 16, 17, 18, 19, 20, 22] N
  have M9 : ∀ i p, p ∈ List.getD [[((250 : Nat), tabObj #[])], [(L + 1 + 1 + 1 + 1 + 1, o5)], [(L + 1 + 1 + 1 + 1, o4)], [(q, listOf #[.int ((12 * u0 : Nat) : Int) t0, .int ((12 * u1 : Nat) : Int) t1, .int ((12 * u2 : Nat) : Int) t2] nq)], [(lf, listOf vf.toArray nf)], [(L + 1 + 1 + 1, o3)], [(l, listOf #[.str (spc (12 * u0)) a0, .str (spc (12 * u1)) a1, .str (spc (12 * u2)) a2] nl)], [(L + 1, o1)], [(C, listOf ws.toArray nw)], [(Td, listOf (tl.map fun p => Value.ref p.1).toArray nt)], tl, [(L + 1 + 1, o2)], [(H, listOf (cl.map fun p => Value.ref p.1).toArray n)], [(x, instObj 216 dx)], [(dx, bkD w.params tb H)], [(M, listOf vm.toArray nm)], cl, [(Fi, listOf (cl.map fun p => Value.ref p.1).toArray 0)], [(D, listOf (dl.map fun p => Value.ref p.1).toArray nd)], dl, [(L + 1 + 1 + 1 + 1 + 1 + 1, o6)], [((288 : Nat), tabObj #[])], [((302 : Nat), tabObj #[])]] i [] → p ∈ (((250 : Nat), tabObj #[]) :: (L + 1 + 1 + 1 + 1 + 1, o5) :: (L + 1 + 1 + 1 + 1, o4) :: (q, listOf #[.int ((12 * u0 : Nat) : Int) t0, .int ((12 * u1 : Nat) : Int) t1, .int ((12 * u2 : Nat) : Int) t2] nq) :: (lf, listOf vf.toArray nf) :: (L + 1 + 1 + 1, o3) :: (l, listOf #[.str (spc (12 * u0)) a0, .str (spc (12 * u1)) a1, .str (spc (12 * u2)) a2] nl) :: (L + 1, o1) :: (C, listOf ws.toArray nw) :: (Td, listOf (tl.map fun p => Value.ref p.1).toArray nt) :: (tl ++ (L + 1 + 1, o2) :: (H, listOf (cl.map fun p => Value.ref p.1).toArray n) :: (x, instObj 216 dx) :: (dx, bkD w.params tb H) :: (M, listOf vm.toArray nm) :: (cl ++ (Fi, listOf (cl.map fun p => Value.ref p.1).toArray 0) :: (D, listOf (dl.map fun p => Value.ref p.1).toArray nd) :: (dl ++ (L + 1 + 1 + 1 + 1 + 1 + 1, o6) :: ((288 : Nat), tabObj #[]) :: ((302 : Nat), tabObj #[]) :: [])))) := memB [[((250 : Nat), tabObj #[])], [(L + 1 + 1 + 1 + 1 + 1, o5)], [(L + 1 + 1 + 1 + 1, o4)], [(q, listOf #[.int ((12 * u0 : Nat) : Int) t0, .int ((12 * u1 : Nat) : Int) t1, .int ((12 * u2 : Nat) : Int) t2] nq)], [(lf, listOf vf.toArray nf)], [(L + 1 + 1 + 1, o3)], [(l, listOf #[.str (spc (12 * u0)) a0, .str (spc (12 * u1)) a1, .str (spc (12 * u2)) a2] nl)], [(L + 1, o1)], [(C, listOf ws.toArray nw)], [(Td, listOf (tl.map fun p => Value.ref p.1).toArray nt)], tl, [(L + 1 + 1, o2)], [(H, listOf (cl.map fun p => Value.ref p.1).toArray n)], [(x, instObj 216 dx)], [(dx, bkD w.params tb H)], [(M, listOf vm.toArray nm)], cl, [(Fi, listOf (cl.map fun p => Value.ref p.1).toArray 0)], [(D, listOf (dl.map fun p => Value.ref p.1).toArray nd)], dl, [(L + 1 + 1 + 1 + 1 + 1 + 1, o6)], [((288 : Nat), tabObj #[])], [((302 : Nat), tabObj #[])]]
  refine st13 Wg D M Fi Td lf q o4 (12 * u0) (12 * u1) (12 * u2) nq t0 t1 t2 tt (6 * ν) te o5 F N d5 he d4 hν (fac (ne_kd (x := 1) (y := 2) N (M9 1 _ (.head _)) (M9 0 _ (.head _)) k5 rfl (by decide)) (fac (ne_kd (x := 1) (y := 2) N (M9 2 _ (.head _)) (M9 0 _ (.head _)) k4 rfl (by decide)) (fac (ne_kd (x := 0) (y := 2) N (M9 3 _ (.head _)) (M9 0 _ (.head _)) rfl rfl (by decide)) (fac (ne_kd (x := 0) (y := 2) N (M9 4 _ (.head _)) (M9 0 _ (.head _)) rfl rfl (by decide)) (fac (ne_kd (x := 1) (y := 2) N (M9 5 _ (.head _)) (M9 0 _ (.head _)) k3 rfl (by decide)) (fac (ne_kd (x := 0) (y := 2) N (M9 6 _ (.head _)) (M9 0 _ (.head _)) rfl rfl (by decide)) (fac (ne_kd (x := 1) (y := 2) N (M9 7 _ (.head _)) (M9 0 _ (.head _)) k1 rfl (by decide)) (fac (ne_kd (x := 0) (y := 2) N (M9 8 _ (.head _)) (M9 0 _ (.head _)) rfl rfl (by decide)) (fac (ne_kd (x := 0) (y := 2) N (M9 9 _ (.head _)) (M9 0 _ (.head _)) rfl rfl (by decide)) (faa (fun p hp => (ne_kd (x := 0) (y := 2) N (M9 10 _ hp) (M9 0 _ (.head _)) (ktl p hp) rfl (by decide))) (fac (ne_kd (x := 1) (y := 2) N (M9 11 _ (.head _)) (M9 0 _ (.head _)) k2 rfl (by decide)) (fac (ne_kd (x := 0) (y := 2) N (M9 12 _ (.head _)) (M9 0 _ (.head _)) rfl rfl (by decide)) (fac (ne_kd (x := 4) (y := 2) N (M9 13 _ (.head _)) (M9 0 _ (.head _)) rfl rfl (by decide)) (fac (ne_kd (x := 3) (y := 2) N (M9 14 _ (.head _)) (M9 0 _ (.head _)) rfl rfl (by decide)) (fac (ne_kd (x := 0) (y := 2) N (M9 15 _ (.head _)) (M9 0 _ (.head _)) rfl rfl (by decide)) (faa (fun p hp => (ne_kd (x := 0) (y := 2) N (M9 16 _ hp) (M9 0 _ (.head _)) (kcl p hp) rfl (by decide))) (fac (ne_kd (x := 0) (y := 2) N (M9 17 _ (.head _)) (M9 0 _ (.head _)) rfl rfl (by decide)) (fac (ne_kd (x := 0) (y := 2) N (M9 18 _ (.head _)) (M9 0 _ (.head _)) rfl rfl (by decide)) (faa (fun p hp => (ne_kd (x := 0) (y := 2) N (M9 19 _ hp) (M9 0 _ (.head _)) (kdl p hp) rfl (by decide))) (fac (ne_kd (x := 1) (y := 2) N (M9 20 _ (.head _)) (M9 0 _ (.head _)) k6 rfl (by decide)) (fac (by show @Ne Nat 288 250; decide) (fac (by show @Ne Nat 302 250; decide) (fun _ h => nomatch h))))))))))))))))))))))) hc0 hc1 hc2 hd hu ?_
  clear F N
  intro h13 tk13 lv ab v0 v1 tab3 F N l1 l2 l3 l4 l5 l6
  obtain ⟨hlvT, hK, hEq, hNe⟩ := levels_say (x := u0) (y := u1) (z := u2) (n := ν) (e := 6 * ν) (lv := lv) (ab := ab) rfl hν rfl (by first | exact jw_ab l1 | exact jw_ab l4 | omega)
    (fun i hi => by have := l2 i hi; rw [kap_12, lowF_nat hν] at this; first | exact Int.ofNat_le.mp this | exact Int.ofNat_lt.mp this | omega) (fun i hi hT => by have := l3 i hi (by first | exact jw_i hT | omega); rw [kap_12, lowF_nat hν] at this; first | exact Int.ofNat_le.mp this | exact Int.ofNat_lt.mp this | omega) (by first | exact jw_ab l1 | exact jw_ab l4 | omega)
    (fun i hi => by have := l5 i hi; rw [kap_12, lowF_nat hν] at this; first | exact Int.ofNat_le.mp this | exact Int.ofNat_lt.mp this | omega) (fun i hi hT => by have := l6 i hi (by first | exact jw_i hT | omega); rw [kap_12, lowF_nat hν] at this; first | exact Int.ofNat_le.mp this | exact Int.ofNat_lt.mp this | omega)
  clear l1 l2 l3 l4 l5 l6
  have hlv : lv < 1000 := jw_lv hlvT hc0 hc1 hc2
  have hsum := sum_sh hν rfl hK
  have N : News g L _ ((L + 1 + 1 + 1 + 1 + 1 + 1, o6) :: (L + 1 + 1 + 1 + 1 + 1, o5) :: (L + 1 + 1 + 1 + 1, o4) :: (q, listOf #[.int ((12 * u0 : Nat) : Int) t0, .int ((12 * u1 : Nat) : Int) t1, .int ((12 * u2 : Nat) : Int) t2] nq) :: ((250 : Nat), tabObj tab3) :: (lf, listOf vf.toArray nf) :: (L + 1 + 1 + 1, o3) :: (l, listOf #[.str (spc (12 * u0)) a0, .str (spc (12 * u1)) a1, .str (spc (12 * u2)) a2] nl) :: (L + 1, o1) :: (C, listOf ws.toArray nw) :: (Td, listOf (tl.map fun p => Value.ref p.1).toArray nt) :: (tl ++ (L + 1 + 1, o2) :: (H, listOf (cl.map fun p => Value.ref p.1).toArray n) :: (x, instObj 216 dx) :: (dx, bkD w.params tb H) :: (M, listOf vm.toArray nm) :: (cl ++ (Fi, listOf (cl.map fun p => Value.ref p.1).toArray 0) :: (D, listOf (dl.map fun p => Value.ref p.1).toArray nd) :: (dl ++ ((288 : Nat), tabObj #[]) :: ((302 : Nat), tabObj #[]) :: [])))) := pickN [[((250 : Nat), tabObj tab3)], [(L + 1 + 1 + 1 + 1 + 1, o5)], [(L + 1 + 1 + 1 + 1, o4)], [(q, listOf #[.int ((12 * u0 : Nat) : Int) t0, .int ((12 * u1 : Nat) : Int) t1, .int ((12 * u2 : Nat) : Int) t2] nq)], [(lf, listOf vf.toArray nf)], [(L + 1 + 1 + 1, o3)], [(l, listOf #[.str (spc (12 * u0)) a0, .str (spc (12 * u1)) a1, .str (spc (12 * u2)) a2] nl)], [(L + 1, o1)], [(C, listOf ws.toArray nw)], [(Td, listOf (tl.map fun p => Value.ref p.1).toArray nt)], tl, [(L + 1 + 1, o2)], [(H, listOf (cl.map fun p => Value.ref p.1).toArray n)], [(x, instObj 216 dx)], [(dx, bkD w.params tb H)], [(M, listOf vm.toArray nm)], cl, [(Fi, listOf (cl.map fun p => Value.ref p.1).toArray 0)], [(D, listOf (dl.map fun p => Value.ref p.1).toArray nd)], dl, [(L + 1 + 1 + 1 + 1 + 1 + 1, o6)], [((288 : Nat), tabObj #[])], [((302 : Nat), tabObj #[])]] [20, 1, 2, 3, 0, 4, 5, 6, 7, 8, 9, 10, 11, 12, 13, 14, 15, 16, 17, 18, 19, 21, 22] N
  have M9 : ∀ i p, p ∈ List.getD [[(L + 1 + 1 + 1 + 1 + 1 + 1, o6)], [(L + 1 + 1 + 1 + 1 + 1, o5)], [(L + 1 + 1 + 1 + 1, o4)], [(q, listOf #[.int ((12 * u0 : Nat) : Int) t0, .int ((12 * u1 : Nat) : Int) t1, .int ((12 * u2 : Nat) : Int) t2] nq)], [((250 : Nat), tabObj tab3)], [(lf, listOf vf.toArray nf)], [(L + 1 + 1 + 1, o3)], [(l, listOf #[.str (spc (12 * u0)) a0, .str (spc (12 * u1)) a1, .str (spc (12 * u2)) a2] nl)], [(L + 1, o1)], [(C, listOf ws.toArray nw)], [(Td, listOf (tl.map fun p => Value.ref p.1).toArray nt)], tl, [(L + 1 + 1, o2)], [(H, listOf (cl.map fun p => Value.ref p.1).toArray n)], [(x, instObj 216 dx)], [(dx, bkD w.params tb H)], [(M, listOf vm.toArray nm)], cl, [(Fi, listOf (cl.map fun p => Value.ref p.1).toArray 0)], [(D, listOf (dl.map fun p => Value.ref p.1).toArray nd)], dl, [((288 : Nat), tabObj #[])], [((302 : Nat), tabObj #[])]] i [] → p ∈ ((L + 1 + 1 + 1 + 1 + 1 + 1, o6) :: (L + 1 + 1 + 1 + 1 + 1, o5) :: (L + 1 + 1 + 1 + 1, o4) :: (q, listOf #[.int ((12 * u0 : Nat) : Int) t0, .int ((12 * u1 : Nat) : Int) t1, .int ((12 * u2 : Nat) : Int) t2] nq) :: ((250 : Nat), tabObj tab3) :: (lf, listOf vf.toArray nf) :: (L + 1 + 1 + 1, o3) :: (l, listOf #[.str (spc (12 * u0)) a0, .str (spc (12 * u1)) a1, .str (spc (12 * u2)) a2] nl) :: (L + 1, o1) :: (C, listOf ws.toArray nw) :: (Td, listOf (tl.map fun p => Value.ref p.1).toArray nt) :: (tl ++ (L + 1 + 1, o2) :: (H, listOf (cl.map fun p => Value.ref p.1).toArray n) :: (x, instObj 216 dx) :: (dx, bkD w.params tb H) :: (M, listOf vm.toArray nm) :: (cl ++ (Fi, listOf (cl.map fun p => Value.ref p.1).toArray 0) :: (D, listOf (dl.map fun p => Value.ref p.1).toArray nd) :: (dl ++ ((288 : Nat), tabObj #[]) :: ((302 : Nat), tabObj #[]) :: [])))) := memB [[(L + 1 + 1 + 1 + 1 + 1 + 1, o6)], [(L + 1 + 1 + 1 + 1 + 1, o5)], [(L + 1 + 1 + 1 + 1, o4)], [(q, listOf #[.int ((12 * u0 : Nat) : Int) t0, .int ((12 * u1 : Nat) : Int) t1, .int ((12 * u2 : Nat) : Int) t2] nq)], [((250 : Nat), tabObj tab3)], [(lf, listOf vf.toArray nf)], [(L + 1 + 1 + 1, o3)], [(l, listOf #[.str (spc (12 * u0)) a0, .str (spc (12 * u1)) a1, .str (spc (12 * u2)) a2] nl)], [(L + 1, o1)], [(C, listOf ws.toArray nw)], [(Td, listOf (tl.map fun p => Value.ref p.1).toArray nt)], tl, [(L + 1 + 1, o2)], [(H, listOf (cl.map fun p => Value.ref p.1).toArray n)], [(x, instObj 216 dx)], [(dx, bkD w.params tb H)], [(M, listOf vm.toArray nm)], cl, [(Fi, listOf (cl.map fun p => Value.ref p.1).toArray 0)], [(D, listOf (dl.map fun p => Value.ref p.1).toArray nd)], dl, [((288 : Nat), tabObj #[])], [((302 : Nat), tabObj #[])]]
  refine st14 Wg D M Fi Td lf q o4 o6 (12 * u0) (12 * u1) (12 * u2) nq lv ab t0 t1 t2 tt v0 v1 (6 * ν) te o5 F N d5 he d4 d6 hlv (fac (ne_off L 5 6 rfl) (fac (ne_off L 4 6 rfl) (fac (ne_kd (x := 0) (y := 1) N (M9 3 _ (.head _)) (M9 0 _ (.head _)) rfl k6 (by decide)) (fac (ne_kd (x := 2) (y := 1) N (M9 4 _ (.head _)) (M9 0 _ (.head _)) rfl k6 (by decide)) (fac (ne_kd (x := 0) (y := 1) N (M9 5 _ (.head _)) (M9 0 _ (.head _)) rfl k6 (by decide)) (fac (ne_off L 3 6 rfl) (fac (ne_kd (x := 0) (y := 1) N (M9 7 _ (.head _)) (M9 0 _ (.head _)) rfl k6 (by decide)) (fac (ne_off L 1 6 rfl) (fac (ne_kd (x := 0) (y := 1) N (M9 9 _ (.head _)) (M9 0 _ (.head _)) rfl k6 (by decide)) (fac (ne_kd (x := 0) (y := 1) N (M9 10 _ (.head _)) (M9 0 _ (.head _)) rfl k6 (by decide)) (faa (fun p hp => (ne_kd (x := 0) (y := 1) N (M9 11 _ hp) (M9 0 _ (.head _)) (ktl p hp) k6 (by decide))) (fac (ne_off L 2 6 rfl) (fac (ne_kd (x := 0) (y := 1) N (M9 13 _ (.head _)) (M9 0 _ (.head _)) rfl k6 (by decide)) (fac (ne_kd (x := 4) (y := 1) N (M9 14 _ (.head _)) (M9 0 _ (.head _)) rfl k6 (by decide)) (fac (ne_kd (x := 3) (y := 1) N (M9 15 _ (.head _)) (M9 0 _ (.head _)) rfl k6 (by decide)) (fac (ne_kd (x := 0) (y := 1) N (M9 16 _ (.head _)) (M9 0 _ (.head _)) rfl k6 (by decide)) (faa (fun p hp => (ne_kd (x := 0) (y := 1) N (M9 17 _ hp) (M9 0 _ (.head _)) (kcl p hp) k6 (by decide))) (fac (ne_kd (x := 0) (y := 1) N (M9 18 _ (.head _)) (M9 0 _ (.head _)) rfl k6 (by decide)) (fac (ne_kd (x := 0) (y := 1) N (M9 19 _ (.head _)) (M9 0 _ (.head _)) rfl k6 (by decide)) (faa (fun p hp => (ne_kd (x := 0) (y := 1) N (M9 20 _ hp) (M9 0 _ (.head _)) (kdl p hp) k6 (by decide))) (fac (ne_kd (x := 2) (y := 1) N (M9 21 _ (.head _)) (M9 0 _ (.head _)) rfl k6 (by decide)) (fac (ne_kd (x := 2) (y := 1) N (M9 22 _ (.head _)) (M9 0 _ (.head _)) rfl k6 (by decide)) (fun _ h => nomatch h))))))))))))))))))))))) hc0 hc1 hc2 hd hu ?_
  clear F N k6 d6
  intro h14 tk14 o6 r w0 w1 w2 nr F N d6
  have k6 := kd_cell d6
  obtain ⟨up, eup⟩ : ∃ up, up = decide (12 * u0 + 12 * u1 + 12 * u2 < 2 * (6 * ν)) := ⟨_, rfl⟩
  rw [← eup] at hsum
  have eT : ((12 * u0 : Nat) : Int) + ((12 * u1 : Nat) : Int) + ((12 * u2 : Nat) : Int) = ((12 * u0 + 12 * u1 + 12 * u2 : Nat) : Int) := by rw [Int.natCast_add, Int.natCast_add]
  have es0 : shF (((12 * u0 : Nat) : Int) + ((12 * u1 : Nat) : Int) + ((12 * u2 : Nat) : Int)) ((6 * ν : Nat) : Int) ((12 * u0 : Nat) : Int) (lv : Nat) = ((sh12 up u0 lv : Nat) : Int) := by rw [eT, shF_12, eup]
  have es1 : shF (((12 * u0 : Nat) : Int) + ((12 * u1 : Nat) : Int) + ((12 * u2 : Nat) : Int)) ((6 * ν : Nat) : Int) ((12 * u1 : Nat) : Int) (lv : Nat) = ((sh12 up u1 lv : Nat) : Int) := by rw [eT, shF_12, eup]
  have es2 : shF (((12 * u0 : Nat) : Int) + ((12 * u1 : Nat) : Int) + ((12 * u2 : Nat) : Int)) ((6 * ν : Nat) : Int) ((12 * u2 : Nat) : Int) (lv : Nat) = ((sh12 up u2 lv : Nat) : Int) := by rw [eT, shF_12, eup]
  rw [es0, es1, es2] at N
  clear es0 es1 es2 eT
  have N : News g L _ ((L + 1 + 1 + 1 + 1 + 1, o5) :: (L + 1 + 1 + 1 + 1, o4) :: (q, listOf #[.int ((12 * u0 : Nat) : Int) t0, .int ((12 * u1 : Nat) : Int) t1, .int ((12 * u2 : Nat) : Int) t2] nq) :: (L + 1 + 1 + 1 + 1 + 1 + 1, o6) :: (r, listOf #[.int ((sh12 up u0 lv : Nat) : Int) w0, .int ((sh12 up u1 lv : Nat) : Int) w1, .int ((sh12 up u2 lv : Nat) : Int) w2] nr) :: ((250 : Nat), tabObj tab3) :: (lf, listOf vf.toArray nf) :: (L + 1 + 1 + 1, o3) :: (l, listOf #[.str (spc (12 * u0)) a0, .str (spc (12 * u1)) a1, .str (spc (12 * u2)) a2] nl) :: (L + 1, o1) :: (C, listOf ws.toArray nw) :: (Td, listOf (tl.map fun p => Value.ref p.1).toArray nt) :: (tl ++ (L + 1 + 1, o2) :: (H, listOf (cl.map fun p => Value.ref p.1).toArray n) :: (x, instObj 216 dx) :: (dx, bkD w.params tb H) :: (M, listOf vm.toArray nm) :: (cl ++ (Fi, listOf (cl.map fun p => Value.ref p.1).toArray 0) :: (D, listOf (dl.map fun p => Value.ref p.1).toArray nd) :: (dl ++ ((288 : Nat), tabObj #[]) :: ((302 : Nat), tabObj #[]) :: [])))) := pickN [[(L + 1 + 1 + 1 + 1 + 1 + 1, o6)], [(r, listOf #[.int ((sh12 up u0 lv : Nat) : Int) w0, .int ((sh12 up u1 lv : Nat) : Int) w1, .int ((sh12 up u2 lv : Nat) : Int) w2] nr)], [(L + 1 + 1 + 1 + 1 + 1, o5)], [(L + 1 + 1 + 1 + 1, o4)], [(q, listOf #[.int ((12 * u0 : Nat) : Int) t0, .int ((12 * u1 : Nat) : Int) t1, .int ((12 * u2 : Nat) : Int) t2] nq)], [((250 : Nat), tabObj tab3)], [(lf, listOf vf.toArray nf)], [(L + 1 + 1 + 1, o3)], [(l, listOf #[.str (spc (12 * u0)) a0, .str (spc (12 * u1)) a1, .str (spc (12 * u2)) a2] nl)], [(L + 1, o1)], [(C, listOf ws.toArray nw)], [(Td, listOf (tl.map fun p => Value.ref p.1).toArray nt)], tl, [(L + 1 + 1, o2)], [(H, listOf (cl.map fun p => Value.ref p.1).toArray n)], [(x, instObj 216 dx)], [(dx, bkD w.params tb H)], [(M, listOf vm.toArray nm)], cl, [(Fi, listOf (cl.map fun p => Value.ref p.1).toArray 0)], [(D, listOf (dl.map fun p => Value.ref p.1).toArray nd)], dl, [((288 : Nat), tabObj #[])], [((302 : Nat), tabObj #[])]] [2, 3, 4, 0, 1, 5, 6, 7, 8, 9, 10, 11, 12, 13, 14, 15, 16, 17, 18, 19, 20, 21, 22, 23] N
  refine st15 Wg D M Fi Td lf q o4 (12 * u0) (12 * u1) (12 * u2) nq lv ab t0 t1 t2 tt v0 v1 (6 * ν) te o5 F N d5 he d4 hlv hc0 hc1 hc2 hd hu ?_
  clear F N
  intro h15 tk15 ft fx fy x0 x1 nf2 F N hfA hfB
  have hfx : fx = (lv : Int) := by by_cases h : 2 * (6 * ν) = 12 * u0 + 12 * u1 + 12 * u2; exact (hfA h).1.trans (by rw [(hEq h).1]); exact (hfB h).1
  have hfy : fy = (ab : Int) := by by_cases h : 2 * (6 * ν) = 12 * u0 + 12 * u1 + 12 * u2; exact (hfA h).2.trans (by rw [(hEq h).2]); exact (hfB h).2.trans (by rw [hNe h]; first | exact (Int.natCast_add _ 1).symm | exact (Int.natCast_add _ 1) | omega)
  have hs0c : sh12 up u0 lv ≤ 12 * u0 := sh_le up u0 lv
  have hs0 : sh12 up u0 lv ≤ 120 := Nat.le_trans hs0c hc0
  have hs1c : sh12 up u1 lv ≤ 12 * u1 := sh_le up u1 lv
  have hs1 : sh12 up u1 lv ≤ 120 := Nat.le_trans hs1c hc1
  have hs2c : sh12 up u2 lv ≤ 12 * u2 := sh_le up u2 lv
  have hs2 : sh12 up u2 lv ≤ 120 := Nat.le_trans hs2c hc2
  have h70 : ∃ t, vf[0]? = some (.int 0 t) := by
    obtain ⟨t, h⟩ := hvf 0 (by decide)
    refine ⟨t, h.trans ?_⟩
    have z : lft (6 * ν) (pk3 (12 * u0) (12 * u1) (12 * u2)) ((0 : Nat) : Int) 3 = 0 := by
      rw [lft_pos (i := 2) (by decide), lft_pos (i := 1) (by decide), lft_pos (i := 0) (by decide)]
      exact jw_z hν
    rw [z]; rfl
  have N : News g L _ ((lf, listOf vf.toArray nf) :: (ft, listOf #[.int fx x0, .int fy x1] nf2) :: (L + 1 + 1 + 1 + 1 + 1 + 1, o6) :: (r, listOf #[.int ((sh12 up u0 lv : Nat) : Int) w0, .int ((sh12 up u1 lv : Nat) : Int) w1, .int ((sh12 up u2 lv : Nat) : Int) w2] nr) :: (L + 1 + 1 + 1 + 1 + 1, o5) :: (L + 1 + 1 + 1, o3) :: (l, listOf #[.str (spc (12 * u0)) a0, .str (spc (12 * u1)) a1, .str (spc (12 * u2)) a2] nl) :: (L + 1 + 1 + 1 + 1, o4) :: (q, listOf #[.int ((12 * u0 : Nat) : Int) t0, .int ((12 * u1 : Nat) : Int) t1, .int ((12 * u2 : Nat) : Int) t2] nq) :: ((250 : Nat), tabObj tab3) :: (L + 1, o1) :: (C, listOf ws.toArray nw) :: (Td, listOf (tl.map fun p => Value.ref p.1).toArray nt) :: (tl ++ (L + 1 + 1, o2) :: (H, listOf (cl.map fun p => Value.ref p.1).toArray n) :: (x, instObj 216 dx) :: (dx, bkD w.params tb H) :: (M, listOf vm.toArray nm) :: (cl ++ (Fi, listOf (cl.map fun p => Value.ref p.1).toArray 0) :: (D, listOf (dl.map fun p => Value.ref p.1).toArray nd) :: (dl ++ ((288 : Nat), tabObj #[]) :: ((302 : Nat), tabObj #[]) :: [])))) := pickN [[(ft, listOf #[.int fx x0, .int fy x1] nf2)], [(L + 1 + 1 + 1 + 1 + 1, o5)], [(L + 1 + 1 + 1 + 1, o4)], [(q, listOf #[.int ((12 * u0 : Nat) : Int) t0, .int ((12 * u1 : Nat) : Int) t1, .int ((12 * u2 : Nat) : Int) t2] nq)], [(L + 1 + 1 + 1 + 1 + 1 + 1, o6)], [(r, listOf #[.int ((sh12 up u0 lv : Nat) : Int) w0, .int ((sh12 up u1 lv : Nat) : Int) w1, .int ((sh12 up u2 lv : Nat) : Int) w2] nr)], [((250 : Nat), tabObj tab3)], [(lf, listOf vf.toArray nf)], [(L + 1 + 1 + 1, o3)], [(l, listOf #[.str (spc (12 * u0)) a0, .str (spc (12 * u1)) a1, .str (spc (12 * u2)) a2] nl)], [(L + 1, o1)], [(C, listOf ws.toArray nw)], [(Td, listOf (tl.map fun p => Value.ref p.1).toArray nt)], tl, [(L + 1 + 1, o2)], [(H, listOf (cl.map fun p => Value.ref p.1).toArray n)], [(x, instObj 216 dx)], [(dx, bkD w.params tb H)], [(M, listOf vm.toArray nm)], cl, [(Fi, listOf (cl.map fun p => Value.ref p.1).toArray 0)], [(D, listOf (dl.map fun p => Value.ref p.1).toArray nd)], dl, [((288 : Nat), tabObj #[])], [((302 : Nat), tabObj #[])]] [7, 0, 4, 5, 1, 8, 9, 2, 3, 6, 10, 11, 12, 13, 14, 15, 16, 17, 18, 19, 20, 21, 22, 23, 24] N
  refine st16 Wg D M Fi Td lf ft vf nf nf2 fx fy x0 x1 (12 * u0) (12 * u1) (12 * u2) lv ab tt v0 v1 l o3 a0 a1 a2 nl (6 * ν) te o5 r o6 (sh12 up u0 lv) (sh12 up u1 lv) (sh12 up u2 lv) w0 w1 w2 nr F N d5 he d3 d6 hs0 hs1 hs2 hc0 hc1 hc2 h70 hsum hfx hfy (gar_all up u0 u1 u2 lv) hd hu ?_
  clear F N hfA hfB hfx hfy h70 hEq hNe
  intro h16 tk16 F N
  have hT : ∀ i, i < 7 → ∃ t, vf[i]? = some (.int (lfN (6 * ν) (12 * u0) (12 * u1) (12 * u2) i) t) := hvf
  have N : News g L _ ((lf, listOf vf.toArray nf) :: (L + 1 + 1 + 1 + 1 + 1 + 1, o6) :: (r, listOf #[.int ((sh12 up u0 lv : Nat) : Int) w0, .int ((sh12 up u1 lv : Nat) : Int) w1, .int ((sh12 up u2 lv : Nat) : Int) w2] nr) :: (L + 1 + 1 + 1, o3) :: (l, listOf #[.str (spc (12 * u0)) a0, .str (spc (12 * u1)) a1, .str (spc (12 * u2)) a2] nl) :: (L + 1 + 1 + 1 + 1, o4) :: (q, listOf #[.int ((12 * u0 : Nat) : Int) t0, .int ((12 * u1 : Nat) : Int) t1, .int ((12 * u2 : Nat) : Int) t2] nq) :: ((250 : Nat), tabObj tab3) :: (L + 1, o1) :: (C, listOf ws.toArray nw) :: (Td, listOf (tl.map fun p => Value.ref p.1).toArray nt) :: (tl ++ (L + 1 + 1, o2) :: (H, listOf (cl.map fun p => Value.ref p.1).toArray n) :: (x, instObj 216 dx) :: (dx, bkD w.params tb H) :: (M, listOf vm.toArray nm) :: (cl ++ (Fi, listOf (cl.map fun p => Value.ref p.1).toArray 0) :: (D, listOf (dl.map fun p => Value.ref p.1).toArray nd) :: (dl ++ ((288 : Nat), tabObj #[]) :: ((302 : Nat), tabObj #[]) :: [])))) := pickN [[(lf, listOf vf.toArray nf)], [(ft, listOf #[.int fx x0, .int fy x1] nf2)], [(L + 1 + 1 + 1 + 1 + 1 + 1, o6)], [(r, listOf #[.int ((sh12 up u0 lv : Nat) : Int) w0, .int ((sh12 up u1 lv : Nat) : Int) w1, .int ((sh12 up u2 lv : Nat) : Int) w2] nr)], [(L + 1 + 1 + 1 + 1 + 1, o5)], [(L + 1 + 1 + 1, o3)], [(l, listOf #[.str (spc (12 * u0)) a0, .str (spc (12 * u1)) a1, .str (spc (12 * u2)) a2] nl)], [(L + 1 + 1 + 1 + 1, o4)], [(q, listOf #[.int ((12 * u0 : Nat) : Int) t0, .int ((12 * u1 : Nat) : Int) t1, .int ((12 * u2 : Nat) : Int) t2] nq)], [((250 : Nat), tabObj tab3)], [(L + 1, o1)], [(C, listOf ws.toArray nw)], [(Td, listOf (tl.map fun p => Value.ref p.1).toArray nt)], tl, [(L + 1 + 1, o2)], [(H, listOf (cl.map fun p => Value.ref p.1).toArray n)], [(x, instObj 216 dx)], [(dx, bkD w.params tb H)], [(M, listOf vm.toArray nm)], cl, [(Fi, listOf (cl.map fun p => Value.ref p.1).toArray 0)], [(D, listOf (dl.map fun p => Value.ref p.1).toArray nd)], dl, [((288 : Nat), tabObj #[])], [((302 : Nat), tabObj #[])]] [0, 2, 3, 5, 6, 7, 8, 9, 10, 11, 12, 13, 14, 15, 16, 17, 18, 19, 20, 21, 22, 23, 24] N
  refine st17 Wg D M Fi Td lf ft vf nf (12 * u0) (12 * u1) (12 * u2) lv ab tt v0 v1 r o6 (sh12 up u0 lv) (sh12 up u1 lv) (sh12 up u2 lv) w0 w1 w2 nr F N d6 hs0 hs1 hs2 hvf7 (lfN (6 * ν) (12 * u0) (12 * u1) (12 * u2)) hT hd hu ?_
  clear F N
  intro h17 tk17 P pl np F N hpl6 hpl
  have kpl : ∀ p ∈ pl, kd p.2 = 0 := fun p hp => by obtain ⟨j, hj⟩ := List.getElem?_of_mem hp; obtain ⟨t, u, e⟩ := hpl j p hj; rw [e]; rfl
  have hf9 := cmp_bound (c0 := 12 * u0) (c1 := 12 * u1) (c2 := 12 * u2) he hs0 hs1 hs2
  have N : News g L _ (((288 : Nat), tabObj #[]) :: (P, listOf (pl.map fun p => Value.ref p.1).toArray np) :: (pl ++ (lf, listOf vf.toArray nf) :: (L + 1 + 1 + 1 + 1 + 1 + 1, o6) :: (r, listOf #[.int ((sh12 up u0 lv : Nat) : Int) w0, .int ((sh12 up u1 lv : Nat) : Int) w1, .int ((sh12 up u2 lv : Nat) : Int) w2] nr) :: (L + 1 + 1 + 1, o3) :: (l, listOf #[.str (spc (12 * u0)) a0, .str (spc (12 * u1)) a1, .str (spc (12 * u2)) a2] nl) :: (L + 1 + 1 + 1 + 1, o4) :: (q, listOf #[.int ((12 * u0 : Nat) : Int) t0, .int ((12 * u1 : Nat) : Int) t1, .int ((12 * u2 : Nat) : Int) t2] nq) :: ((250 : Nat), tabObj tab3) :: (L + 1, o1) :: (C, listOf ws.toArray nw) :: (Td, listOf (tl.map fun p => Value.ref p.1).toArray nt) :: (tl ++ (L + 1 + 1, o2) :: (H, listOf (cl.map fun p => Value.ref p.1).toArray n) :: (x, instObj 216 dx) :: (dx, bkD w.params tb H) :: (M, listOf vm.toArray nm) :: (cl ++ (Fi, listOf (cl.map fun p => Value.ref p.1).toArray 0) :: (D, listOf (dl.map fun p => Value.ref p.1).toArray nd) :: (dl ++ ((302 : Nat), tabObj #[]) :: []))))) := pickN [[(P, listOf (pl.map fun p => Value.ref p.1).toArray np)], [(lf, listOf vf.toArray nf)], [(L + 1 + 1 + 1 + 1 + 1 + 1, o6)], [(r, listOf #[.int ((sh12 up u0 lv : Nat) : Int) w0, .int ((sh12 up u1 lv : Nat) : Int) w1, .int ((sh12 up u2 lv : Nat) : Int) w2] nr)], pl, [(L + 1 + 1 + 1, o3)], [(l, listOf #[.str (spc (12 * u0)) a0, .str (spc (12 * u1)) a1, .str (spc (12 * u2)) a2] nl)], [(L + 1 + 1 + 1 + 1, o4)], [(q, listOf #[.int ((12 * u0 : Nat) : Int) t0, .int ((12 * u1 : Nat) : Int) t1, .int ((12 * u2 : Nat) : Int) t2] nq)], [((250 : Nat), tabObj tab3)], [(L + 1, o1)], [(C, listOf ws.toArray nw)], [(Td, listOf (tl.map fun p => Value.ref p.1).toArray nt)], tl, [(L + 1 + 1, o2)], [(H, listOf (cl.map fun p => Value.ref p.1).toArray n)], [(x, instObj 216 dx)], [(dx, bkD w.params tb H)], [(M, listOf vm.toArray nm)], cl, [(Fi, listOf (cl.map fun p => Value.ref p.1).toArray 0)], [(D, listOf (dl.map fun p => Value.ref p.1).toArray nd)], dl, [((288 : Nat), tabObj #[])], [((302 : Nat), tabObj #[])]] [23, 0, 4, 1, 2, 3, 5, 6, 7, 8, 9, 10, 11, 12, 13, 14, 15, 16, 17, 18, 19, 20, 21, 22, 24] N
  have M9 : ∀ i p, p ∈ List.getD [[((288 : Nat), tabObj #[])], [(P, listOf (pl.map fun p => Value.ref p.1).toArray np)], pl, [(lf, listOf vf.toArray nf)], [(L + 1 + 1 + 1 + 1 + 1 + 1, o6)], [(r, listOf #[.int ((sh12 up u0 lv : Nat) : Int) w0, .int ((sh12 up u1 lv : Nat) : Int) w1, .int ((sh12 up u2 lv : Nat) : Int) w2] nr)], [(L + 1 + 1 + 1, o3)], [(l, listOf #[.str (spc (12 * u0)) a0, .str (spc (12 * u1)) a1, .str (spc (12 * u2)) a2] nl)], [(L + 1 + 1 + 1 + 1, o4)], [(q, listOf #[.int ((12 * u0 : Nat) : Int) t0, .int ((12 * u1 : Nat) : Int) t1, .int ((12 * u2 : Nat) : Int) t2] nq)], [((250 : Nat), tabObj tab3)], [(L + 1, o1)], [(C, listOf ws.toArray nw)], [(Td, listOf (tl.map fun p => Value.ref p.1).toArray nt)], tl, [(L + 1 + 1, o2)], [(H, listOf (cl.map fun p => Value.ref p.1).toArray n)], [(x, instObj 216 dx)], [(dx, bkD w.params tb H)], [(M, listOf vm.toArray nm)], cl, [(Fi, listOf (cl.map fun p => Value.ref p.1).toArray 0)], [(D, listOf (dl.map fun p => Value.ref p.1).toArray nd)], dl, [((302 : Nat), tabObj #[])]] i [] → p ∈ (((288 : Nat), tabObj #[]) :: (P, listOf (pl.map fun p => Value.ref p.1).toArray np) :: (pl ++ (lf, listOf vf.toArray nf) :: (L + 1 + 1 + 1 + 1 + 1 + 1, o6) :: (r, listOf #[.int ((sh12 up u0 lv : Nat) : Int) w0, .int ((sh12 up u1 lv : Nat) : Int) w1, .int ((sh12 up u2 lv : Nat) : Int) w2] nr) :: (L + 1 + 1 + 1, o3) :: (l, listOf #[.str (spc (12 * u0)) a0, .str (spc (12 * u1)) a1, .str (spc (12 * u2)) a2] nl) :: (L + 1 + 1 + 1 + 1, o4) :: (q, listOf #[.int ((12 * u0 : Nat) : Int) t0, .int ((12 * u1 : Nat) : Int) t1, .int ((12 * u2 : Nat) : Int) t2] nq) :: ((250 : Nat), tabObj tab3) :: (L + 1, o1) :: (C, listOf ws.toArray nw) :: (Td, listOf (tl.map fun p => Value.ref p.1).toArray nt) :: (tl ++ (L + 1 + 1, o2) :: (H, listOf (cl.map fun p => Value.ref p.1).toArray n) :: (x, instObj 216 dx) :: (dx, bkD w.params tb H) :: (M, listOf vm.toArray nm) :: (cl ++ (Fi, listOf (cl.map fun p => Value.ref p.1).toArray 0) :: (D, listOf (dl.map fun p => Value.ref p.1).toArray nd) :: (dl ++ ((302 : Nat), tabObj #[]) :: []))))) := memB [[((288 : Nat), tabObj #[])], [(P, listOf (pl.map fun p => Value.ref p.1).toArray np)], pl, [(lf, listOf vf.toArray nf)], [(L + 1 + 1 + 1 + 1 + 1 + 1, o6)], [(r, listOf #[.int ((sh12 up u0 lv : Nat) : Int) w0, .int ((sh12 up u1 lv : Nat) : Int) w1, .int ((sh12 up u2 lv : Nat) : Int) w2] nr)], [(L + 1 + 1 + 1, o3)], [(l, listOf #[.str (spc (12 * u0)) a0, .str (spc (12 * u1)) a1, .str (spc (12 * u2)) a2] nl)], [(L + 1 + 1 + 1 + 1, o4)], [(q, listOf #[.int ((12 * u0 : Nat) : Int) t0, .int ((12 * u1 : Nat) : Int) t1, .int ((12 * u2 : Nat) : Int) t2] nq)], [((250 : Nat), tabObj tab3)], [(L + 1, o1)], [(C, listOf ws.toArray nw)], [(Td, listOf (tl.map fun p => Value.ref p.1).toArray nt)], tl, [(L + 1 + 1, o2)], [(H, listOf (cl.map fun p => Value.ref p.1).toArray n)], [(x, instObj 216 dx)], [(dx, bkD w.params tb H)], [(M, listOf vm.toArray nm)], cl, [(Fi, listOf (cl.map fun p => Value.ref p.1).toArray 0)], [(D, listOf (dl.map fun p => Value.ref p.1).toArray nd)], dl, [((302 : Nat), tabObj #[])]]
  refine st18 Wg D M Fi Td lf ft P pl np (12 * u0) (12 * u1) (12 * u2) lv ab tt v0 v1 F N (cmp1 (lfN (6 * ν) (12 * u0) (12 * u1) (12 * u2)) (pick3 (sh12 up u0 lv : Nat) (sh12 up u1 lv : Nat) (sh12 up u2 lv : Nat))) hf9 hpl6 hpl (fac (ne_kd (x := 0) (y := 2) N (M9 1 _ (.head _)) (M9 0 _ (.head _)) rfl rfl (by decide)) (faa (fun p hp => (ne_kd (x := 0) (y := 2) N (M9 2 _ hp) (M9 0 _ (.head _)) (kpl p hp) rfl (by decide))) (fac (ne_kd (x := 0) (y := 2) N (M9 3 _ (.head _)) (M9 0 _ (.head _)) rfl rfl (by decide)) (fac (ne_kd (x := 1) (y := 2) N (M9 4 _ (.head _)) (M9 0 _ (.head _)) k6 rfl (by decide)) (fac (ne_kd (x := 0) (y := 2) N (M9 5 _ (.head _)) (M9 0 _ (.head _)) rfl rfl (by decide)) (fac (ne_kd (x := 1) (y := 2) N (M9 6 _ (.head _)) (M9 0 _ (.head _)) k3 rfl (by decide)) (fac (ne_kd (x := 0) (y := 2) N (M9 7 _ (.head _)) (M9 0 _ (.head _)) rfl rfl (by decide)) (fac (ne_kd (x := 1) (y := 2) N (M9 8 _ (.head _)) (M9 0 _ (.head _)) k4 rfl (by decide)) (fac (ne_kd (x := 0) (y := 2) N (M9 9 _ (.head _)) (M9 0 _ (.head _)) rfl rfl (by decide)) (fac (by show @Ne Nat 250 288; decide) (fac (ne_kd (x := 1) (y := 2) N (M9 11 _ (.head _)) (M9 0 _ (.head _)) k1 rfl (by decide)) (fac (ne_kd (x := 0) (y := 2) N (M9 12 _ (.head _)) (M9 0 _ (.head _)) rfl rfl (by decide)) (fac (ne_kd (x := 0) (y := 2) N (M9 13 _ (.head _)) (M9 0 _ (.head _)) rfl rfl (by decide)) (faa (fun p hp => (ne_kd (x := 0) (y := 2) N (M9 14 _ hp) (M9 0 _ (.head _)) (ktl p hp) rfl (by decide))) (fac (ne_kd (x := 1) (y := 2) N (M9 15 _ (.head _)) (M9 0 _ (.head _)) k2 rfl (by decide)) (fac (ne_kd (x := 0) (y := 2) N (M9 16 _ (.head _)) (M9 0 _ (.head _)) rfl rfl (by decide)) (fac (ne_kd (x := 4) (y := 2) N (M9 17 _ (.head _)) (M9 0 _ (.head _)) rfl rfl (by decide)) (fac (ne_kd (x := 3) (y := 2) N (M9 18 _ (.head _)) (M9 0 _ (.head _)) rfl rfl (by decide)) (fac (ne_kd (x := 0) (y := 2) N (M9 19 _ (.head _)) (M9 0 _ (.head _)) rfl rfl (by decide)) (faa (fun p hp => (ne_kd (x := 0) (y := 2) N (M9 20 _ hp) (M9 0 _ (.head _)) (kcl p hp) rfl (by decide))) (fac (ne_kd (x := 0) (y := 2) N (M9 21 _ (.head _)) (M9 0 _ (.head _)) rfl rfl (by decide)) (fac (ne_kd (x := 0) (y := 2) N (M9 22 _ (.head _)) (M9 0 _ (.head _)) rfl rfl (by decide)) (faa (fun p hp => (ne_kd (x := 0) (y := 2) N (M9 23 _ hp) (M9 0 _ (.head _)) (kdl p hp) rfl (by decide))) (fac (by show @Ne Nat 302 288; decide) (fun _ h => nomatch h))))))))))))))))))))))))) hd hu ?_
  clear F N
  intro h18 tk18 W9 ord nw9 tab8 F N hperm hpw
  have N : News g L _ (((302 : Nat), tabObj #[]) :: (W9, listOf (ord.map fun j => Value.ref (ad pl j)).toArray nw9) :: (P, listOf (pl.map fun p => Value.ref p.1).toArray np) :: (pl ++ ((288 : Nat), tabObj tab8) :: (lf, listOf vf.toArray nf) :: (L + 1 + 1 + 1 + 1 + 1 + 1, o6) :: (r, listOf #[.int ((sh12 up u0 lv : Nat) : Int) w0, .int ((sh12 up u1 lv : Nat) : Int) w1, .int ((sh12 up u2 lv : Nat) : Int) w2] nr) :: (L + 1 + 1 + 1, o3) :: (l, listOf #[.str (spc (12 * u0)) a0, .str (spc (12 * u1)) a1, .str (spc (12 * u2)) a2] nl) :: (L + 1 + 1 + 1 + 1, o4) :: (q, listOf #[.int ((12 * u0 : Nat) : Int) t0, .int ((12 * u1 : Nat) : Int) t1, .int ((12 * u2 : Nat) : Int) t2] nq) :: ((250 : Nat), tabObj tab3) :: (L + 1, o1) :: (C, listOf ws.toArray nw) :: (Td, listOf (tl.map fun p => Value.ref p.1).toArray nt) :: (tl ++ (L + 1 + 1, o2) :: (H, listOf (cl.map fun p => Value.ref p.1).toArray n) :: (x, instObj 216 dx) :: (dx, bkD w.params tb H) :: (M, listOf vm.toArray nm) :: (cl ++ (Fi, listOf (cl.map fun p => Value.ref p.1).toArray 0) :: (D, listOf (dl.map fun p => Value.ref p.1).toArray nd) :: (dl ++ []))))) := pickN [[(W9, listOf (ord.map fun j => Value.ref (ad pl j)).toArray nw9)], [((288 : Nat), tabObj tab8)], [(P, listOf (pl.map fun p => Value.ref p.1).toArray np)], pl, [(lf, listOf vf.toArray nf)], [(L + 1 + 1 + 1 + 1 + 1 + 1, o6)], [(r, listOf #[.int ((sh12 up u0 lv : Nat) : Int) w0, .int ((sh12 up u1 lv : Nat) : Int) w1, .int ((sh12 up u2 lv : Nat) : Int) w2] nr)], [(L + 1 + 1 + 1, o3)], [(l, listOf #[.str (spc (12 * u0)) a0, .str (spc (12 * u1)) a1, .str (spc (12 * u2)) a2] nl)], [(L + 1 + 1 + 1 + 1, o4)], [(q, listOf #[.int ((12 * u0 : Nat) : Int) t0, .int ((12 * u1 : Nat) : Int) t1, .int ((12 * u2 : Nat) : Int) t2] nq)], [((250 : Nat), tabObj tab3)], [(L + 1, o1)], [(C, listOf ws.toArray nw)], [(Td, listOf (tl.map fun p => Value.ref p.1).toArray nt)], tl, [(L + 1 + 1, o2)], [(H, listOf (cl.map fun p => Value.ref p.1).toArray n)], [(x, instObj 216 dx)], [(dx, bkD w.params tb H)], [(M, listOf vm.toArray nm)], cl, [(Fi, listOf (cl.map fun p => Value.ref p.1).toArray 0)], [(D, listOf (dl.map fun p => Value.ref p.1).toArray nd)], dl, [((302 : Nat), tabObj #[])]] [25, 0, 2, 3, 1, 4, 5, 6, 7, 8, 9, 10, 11, 12, 13, 14, 15, 16, 17, 18, 19, 20, 21, 22, 23, 24] N
  have M9 : ∀ i p, p ∈ List.getD [[((302 : Nat), tabObj #[])], [(W9, listOf (ord.map fun j => Value.ref (ad pl j)).toArray nw9)], [(P, listOf (pl.map fun p => Value.ref p.1).toArray np)], pl, [((288 : Nat), tabObj tab8)], [(lf, listOf vf.toArray nf)], [(L + 1 + 1 + 1 + 1 + 1 + 1, o6)], [(r, listOf #[.int ((sh12 up u0 lv : Nat) : Int) w0, .int ((sh12 up u1 lv : Nat) : Int) w1, .int ((sh12 up u2 lv : Nat) : Int) w2] nr)], [(L + 1 + 1 + 1, o3)], [(l, listOf #[.str (spc (12 * u0)) a0, .str (spc (12 * u1)) a1, .str (spc (12 * u2)) a2] nl)], [(L + 1 + 1 + 1 + 1, o4)], [(q, listOf #[.int ((12 * u0 : Nat) : Int) t0, .int ((12 * u1 : Nat) : Int) t1, .int ((12 * u2 : Nat) : Int) t2] nq)], [((250 : Nat), tabObj tab3)], [(L + 1, o1)], [(C, listOf ws.toArray nw)], [(Td, listOf (tl.map fun p => Value.ref p.1).toArray nt)], tl, [(L + 1 + 1, o2)], [(H, listOf (cl.map fun p => Value.ref p.1).toArray n)], [(x, instObj 216 dx)], [(dx, bkD w.params tb H)], [(M, listOf vm.toArray nm)], cl, [(Fi, listOf (cl.map fun p => Value.ref p.1).toArray 0)], [(D, listOf (dl.map fun p => Value.ref p.1).toArray nd)], dl] i [] → p ∈ (((302 : Nat), tabObj #[]) :: (W9, listOf (ord.map fun j => Value.ref (ad pl j)).toArray nw9) :: (P, listOf (pl.map fun p => Value.ref p.1).toArray np) :: (pl ++ ((288 : Nat), tabObj tab8) :: (lf, listOf vf.toArray nf) :: (L + 1 + 1 + 1 + 1 + 1 + 1, o6) :: (r, listOf #[.int ((sh12 up u0 lv : Nat) : Int) w0, .int ((sh12 up u1 lv : Nat) : Int) w1, .int ((sh12 up u2 lv : Nat) : Int) w2] nr) :: (L + 1 + 1 + 1, o3) :: (l, listOf #[.str (spc (12 * u0)) a0, .str (spc (12 * u1)) a1, .str (spc (12 * u2)) a2] nl) :: (L + 1 + 1 + 1 + 1, o4) :: (q, listOf #[.int ((12 * u0 : Nat) : Int) t0, .int ((12 * u1 : Nat) : Int) t1, .int ((12 * u2 : Nat) : Int) t2] nq) :: ((250 : Nat), tabObj tab3) :: (L + 1, o1) :: (C, listOf ws.toArray nw) :: (Td, listOf (tl.map fun p => Value.ref p.1).toArray nt) :: (tl ++ (L + 1 + 1, o2) :: (H, listOf (cl.map fun p => Value.ref p.1).toArray n) :: (x, instObj 216 dx) :: (dx, bkD w.params tb H) :: (M, listOf vm.toArray nm) :: (cl ++ (Fi, listOf (cl.map fun p => Value.ref p.1).toArray 0) :: (D, listOf (dl.map fun p => Value.ref p.1).toArray nd) :: (dl ++ []))))) := memB [[((302 : Nat), tabObj #[])], [(W9, listOf (ord.map fun j => Value.ref (ad pl j)).toArray nw9)], [(P, listOf (pl.map fun p => Value.ref p.1).toArray np)], pl, [((288 : Nat), tabObj tab8)], [(lf, listOf vf.toArray nf)], [(L + 1 + 1 + 1 + 1 + 1 + 1, o6)], [(r, listOf #[.int ((sh12 up u0 lv : Nat) : Int) w0, .int ((sh12 up u1 lv : Nat) : Int) w1, .int ((sh12 up u2 lv : Nat) : Int) w2] nr)], [(L + 1 + 1 + 1, o3)], [(l, listOf #[.str (spc (12 * u0)) a0, .str (spc (12 * u1)) a1, .str (spc (12 * u2)) a2] nl)], [(L + 1 + 1 + 1 + 1, o4)], [(q, listOf #[.int ((12 * u0 : Nat) : Int) t0, .int ((12 * u1 : Nat) : Int) t1, .int ((12 * u2 : Nat) : Int) t2] nq)], [((250 : Nat), tabObj tab3)], [(L + 1, o1)], [(C, listOf ws.toArray nw)], [(Td, listOf (tl.map fun p => Value.ref p.1).toArray nt)], tl, [(L + 1 + 1, o2)], [(H, listOf (cl.map fun p => Value.ref p.1).toArray n)], [(x, instObj 216 dx)], [(dx, bkD w.params tb H)], [(M, listOf vm.toArray nm)], cl, [(Fi, listOf (cl.map fun p => Value.ref p.1).toArray 0)], [(D, listOf (dl.map fun p => Value.ref p.1).toArray nd)], dl]
  refine st19 Wg D M Fi Td lf ft P W9 pl np nw9 ord (12 * u0) (12 * u1) (12 * u2) lv ab tt v0 v1 F N (cmp1 (lfN (6 * ν) (12 * u0) (12 * u1) (12 * u2)) (pick3 (sh12 up u0 lv : Nat) (sh12 up u1 lv : Nat) (sh12 up u2 lv : Nat))) hf9 hpl6 hpl (fac (ne_kd (x := 0) (y := 2) N (M9 1 _ (.head _)) (M9 0 _ (.head _)) rfl rfl (by decide)) (fac (ne_kd (x := 0) (y := 2) N (M9 2 _ (.head _)) (M9 0 _ (.head _)) rfl rfl (by decide)) (faa (fun p hp => (ne_kd (x := 0) (y := 2) N (M9 3 _ hp) (M9 0 _ (.head _)) (kpl p hp) rfl (by decide))) (fac (by show @Ne Nat 288 302; decide) (fac (ne_kd (x := 0) (y := 2) N (M9 5 _ (.head _)) (M9 0 _ (.head _)) rfl rfl (by decide)) (fac (ne_kd (x := 1) (y := 2) N (M9 6 _ (.head _)) (M9 0 _ (.head _)) k6 rfl (by decide)) (fac (ne_kd (x := 0) (y := 2) N (M9 7 _ (.head _)) (M9 0 _ (.head _)) rfl rfl (by decide)) (fac (ne_kd (x := 1) (y := 2) N (M9 8 _ (.head _)) (M9 0 _ (.head _)) k3 rfl (by decide)) (fac (ne_kd (x := 0) (y := 2) N (M9 9 _ (.head _)) (M9 0 _ (.head _)) rfl rfl (by decide)) (fac (ne_kd (x := 1) (y := 2) N (M9 10 _ (.head _)) (M9 0 _ (.head _)) k4 rfl (by decide)) (fac (ne_kd (x := 0) (y := 2) N (M9 11 _ (.head _)) (M9 0 _ (.head _)) rfl rfl (by decide)) (fac (by show @Ne Nat 250 302; decide) (fac (ne_kd (x := 1) (y := 2) N (M9 13 _ (.head _)) (M9 0 _ (.head _)) k1 rfl (by decide)) (fac (ne_kd (x := 0) (y := 2) N (M9 14 _ (.head _)) (M9 0 _ (.head _)) rfl rfl (by decide)) (fac (ne_kd (x := 0) (y := 2) N (M9 15 _ (.head _)) (M9 0 _ (.head _)) rfl rfl (by decide)) (faa (fun p hp => (ne_kd (x := 0) (y := 2) N (M9 16 _ hp) (M9 0 _ (.head _)) (ktl p hp) rfl (by decide))) (fac (ne_kd (x := 1) (y := 2) N (M9 17 _ (.head _)) (M9 0 _ (.head _)) k2 rfl (by decide)) (fac (ne_kd (x := 0) (y := 2) N (M9 18 _ (.head _)) (M9 0 _ (.head _)) rfl rfl (by decide)) (fac (ne_kd (x := 4) (y := 2) N (M9 19 _ (.head _)) (M9 0 _ (.head _)) rfl rfl (by decide)) (fac (ne_kd (x := 3) (y := 2) N (M9 20 _ (.head _)) (M9 0 _ (.head _)) rfl rfl (by decide)) (fac (ne_kd (x := 0) (y := 2) N (M9 21 _ (.head _)) (M9 0 _ (.head _)) rfl rfl (by decide)) (faa (fun p hp => (ne_kd (x := 0) (y := 2) N (M9 22 _ hp) (M9 0 _ (.head _)) (kcl p hp) rfl (by decide))) (fac (ne_kd (x := 0) (y := 2) N (M9 23 _ (.head _)) (M9 0 _ (.head _)) rfl rfl (by decide)) (fac (ne_kd (x := 0) (y := 2) N (M9 24 _ (.head _)) (M9 0 _ (.head _)) rfl rfl (by decide)) (faa (fun p hp => (ne_kd (x := 0) (y := 2) N (M9 25 _ hp) (M9 0 _ (.head _)) (kdl p hp) rfl (by decide))) (fun _ h => nomatch h)))))))))))))))))))))))))) hperm hpw hd hu ?_
  clear F N
  intro h19 tk19 tab9 F N
  have N : News g L _ ((W9, listOf (ord.map fun j => Value.ref (ad pl j)).toArray nw9) :: (P, listOf (pl.map fun p => Value.ref p.1).toArray np) :: (lf, listOf vf.toArray nf) :: (L + 1 + 1 + 1 + 1 + 1 + 1, o6) :: (r, listOf #[.int ((sh12 up u0 lv : Nat) : Int) w0, .int ((sh12 up u1 lv : Nat) : Int) w1, .int ((sh12 up u2 lv : Nat) : Int) w2] nr) :: (L + 1, o1) :: (C, listOf ws.toArray nw) :: (pl ++ ((302 : Nat), tabObj tab9) :: ((288 : Nat), tabObj tab8) :: (L + 1 + 1 + 1, o3) :: (l, listOf #[.str (spc (12 * u0)) a0, .str (spc (12 * u1)) a1, .str (spc (12 * u2)) a2] nl) :: (L + 1 + 1 + 1 + 1, o4) :: (q, listOf #[.int ((12 * u0 : Nat) : Int) t0, .int ((12 * u1 : Nat) : Int) t1, .int ((12 * u2 : Nat) : Int) t2] nq) :: ((250 : Nat), tabObj tab3) :: (Td, listOf (tl.map fun p => Value.ref p.1).toArray nt) :: (tl ++ (L + 1 + 1, o2) :: (H, listOf (cl.map fun p => Value.ref p.1).toArray n) :: (x, instObj 216 dx) :: (dx, bkD w.params tb H) :: (M, listOf vm.toArray nm) :: (cl ++ (Fi, listOf (cl.map fun p => Value.ref p.1).toArray 0) :: (D, listOf (dl.map fun p => Value.ref p.1).toArray nd) :: (dl ++ []))))) := pickN [[((302 : Nat), tabObj tab9)], [(W9, listOf (ord.map fun j => Value.ref (ad pl j)).toArray nw9)], [(P, listOf (pl.map fun p => Value.ref p.1).toArray np)], pl, [((288 : Nat), tabObj tab8)], [(lf, listOf vf.toArray nf)], [(L + 1 + 1 + 1 + 1 + 1 + 1, o6)], [(r, listOf #[.int ((sh12 up u0 lv : Nat) : Int) w0, .int ((sh12 up u1 lv : Nat) : Int) w1, .int ((sh12 up u2 lv : Nat) : Int) w2] nr)], [(L + 1 + 1 + 1, o3)], [(l, listOf #[.str (spc (12 * u0)) a0, .str (spc (12 * u1)) a1, .str (spc (12 * u2)) a2] nl)], [(L + 1 + 1 + 1 + 1, o4)], [(q, listOf #[.int ((12 * u0 : Nat) : Int) t0, .int ((12 * u1 : Nat) : Int) t1, .int ((12 * u2 : Nat) : Int) t2] nq)], [((250 : Nat), tabObj tab3)], [(L + 1, o1)], [(C, listOf ws.toArray nw)], [(Td, listOf (tl.map fun p => Value.ref p.1).toArray nt)], tl, [(L + 1 + 1, o2)], [(H, listOf (cl.map fun p => Value.ref p.1).toArray n)], [(x, instObj 216 dx)], [(dx, bkD w.params tb H)], [(M, listOf vm.toArray nm)], cl, [(Fi, listOf (cl.map fun p => Value.ref p.1).toArray 0)], [(D, listOf (dl.map fun p => Value.ref p.1).toArray nd)], dl] [1, 2, 5, 6, 7, 13, 14, 3, 0, 4, 8, 9, 10, 11, 12, 15, 16, 17, 18, 19, 20, 21, 22, 23, 24, 25] N
  refine st20 Wg C D M Fi Td lf ft P W9 o1 ws nw c6 t6 vf nf pl np nw9 ord (12 * u0) (12 * u1) (12 * u2) lv ab tt v0 v1 r o6 (sh12 up u0 lv) (sh12 up u1 lv) (sh12 up u2 lv) w0 w1 w2 nr F N d1 h6 d6 hs0 hs1 hs2 hvf7 (lfN (6 * ν) (12 * u0) (12 * u1) (12 * u2)) hT (fun i => jw_n (lfN_le (6 * ν) (12 * u0) (12 * u1) (12 * u2) i) he) hpl6 hpl hperm (law_lex up u0 u1 u2 lv (6 * ν) hsum hperm hpw) hd hu ?_
  clear F N
  intro h20 tk20 O F N
  have N : News g L _ ((L + 1 + 1 + 1 + 1 + 1 + 1, o6) :: (r, listOf #[.int ((sh12 up u0 lv : Nat) : Int) w0, .int ((sh12 up u1 lv : Nat) : Int) w1, .int ((sh12 up u2 lv : Nat) : Int) w2] nr) :: (L + 1, o1) :: (C, listOf ws.toArray nw) :: ((302 : Nat), tabObj tab9) :: ((288 : Nat), tabObj tab8) :: (L + 1 + 1 + 1, o3) :: (l, listOf #[.str (spc (12 * u0)) a0, .str (spc (12 * u1)) a1, .str (spc (12 * u2)) a2] nl) :: (L + 1 + 1 + 1 + 1, o4) :: (q, listOf #[.int ((12 * u0 : Nat) : Int) t0, .int ((12 * u1 : Nat) : Int) t1, .int ((12 * u2 : Nat) : Int) t2] nq) :: ((250 : Nat), tabObj tab3) :: (L + 1 + 1, o2) :: (H, listOf (cl.map fun p => Value.ref p.1).toArray n) :: (x, instObj 216 dx) :: (dx, bkD w.params tb H) :: (M, listOf vm.toArray nm) :: (cl ++ (Fi, listOf (cl.map fun p => Value.ref p.1).toArray 0) :: (D, listOf (dl.map fun p => Value.ref p.1).toArray nd) :: (dl ++ []))) := pickN [[(W9, listOf (ord.map fun j => Value.ref (ad pl j)).toArray nw9)], [(P, listOf (pl.map fun p => Value.ref p.1).toArray np)], [(lf, listOf vf.toArray nf)], [(L + 1 + 1 + 1 + 1 + 1 + 1, o6)], [(r, listOf #[.int ((sh12 up u0 lv : Nat) : Int) w0, .int ((sh12 up u1 lv : Nat) : Int) w1, .int ((sh12 up u2 lv : Nat) : Int) w2] nr)], [(L + 1, o1)], [(C, listOf ws.toArray nw)], pl, [((302 : Nat), tabObj tab9)], [((288 : Nat), tabObj tab8)], [(L + 1 + 1 + 1, o3)], [(l, listOf #[.str (spc (12 * u0)) a0, .str (spc (12 * u1)) a1, .str (spc (12 * u2)) a2] nl)], [(L + 1 + 1 + 1 + 1, o4)], [(q, listOf #[.int ((12 * u0 : Nat) : Int) t0, .int ((12 * u1 : Nat) : Int) t1, .int ((12 * u2 : Nat) : Int) t2] nq)], [((250 : Nat), tabObj tab3)], [(Td, listOf (tl.map fun p => Value.ref p.1).toArray nt)], tl, [(L + 1 + 1, o2)], [(H, listOf (cl.map fun p => Value.ref p.1).toArray n)], [(x, instObj 216 dx)], [(dx, bkD w.params tb H)], [(M, listOf vm.toArray nm)], cl, [(Fi, listOf (cl.map fun p => Value.ref p.1).toArray 0)], [(D, listOf (dl.map fun p => Value.ref p.1).toArray nd)], dl] [3, 4, 5, 6, 8, 9, 10, 11, 12, 13, 14, 17, 18, 19, 20, 21, 22, 23, 24, 25] N
  have N : News g L _ ((L + 1 + 1, o2) :: (H, listOf (cl.map fun p => Value.ref p.1).toArray n) :: (x, instObj 216 dx) :: (dx, bkD w.params tb H) :: (L + 1 + 1 + 1 + 1 + 1 + 1, o6) :: (r, listOf #[.int ((sh12 up u0 lv : Nat) : Int) w0, .int ((sh12 up u1 lv : Nat) : Int) w1, .int ((sh12 up u2 lv : Nat) : Int) w2] nr) :: (L + 1 + 1 + 1, o3) :: (l, listOf #[.str (spc (12 * u0)) a0, .str (spc (12 * u1)) a1, .str (spc (12 * u2)) a2] nl) :: (L + 1, o1) :: (C, listOf ws.toArray nw) :: (cl ++ ((302 : Nat), tabObj tab9) :: ((288 : Nat), tabObj tab8) :: (L + 1 + 1 + 1 + 1, o4) :: (q, listOf #[.int ((12 * u0 : Nat) : Int) t0, .int ((12 * u1 : Nat) : Int) t1, .int ((12 * u2 : Nat) : Int) t2] nq) :: ((250 : Nat), tabObj tab3) :: (M, listOf vm.toArray nm) :: (Fi, listOf (cl.map fun p => Value.ref p.1).toArray 0) :: (D, listOf (dl.map fun p => Value.ref p.1).toArray nd) :: (dl ++ []))) := pickN [[(L + 1 + 1 + 1 + 1 + 1 + 1, o6)], [(r, listOf #[.int ((sh12 up u0 lv : Nat) : Int) w0, .int ((sh12 up u1 lv : Nat) : Int) w1, .int ((sh12 up u2 lv : Nat) : Int) w2] nr)], [(L + 1, o1)], [(C, listOf ws.toArray nw)], [((302 : Nat), tabObj tab9)], [((288 : Nat), tabObj tab8)], [(L + 1 + 1 + 1, o3)], [(l, listOf #[.str (spc (12 * u0)) a0, .str (spc (12 * u1)) a1, .str (spc (12 * u2)) a2] nl)], [(L + 1 + 1 + 1 + 1, o4)], [(q, listOf #[.int ((12 * u0 : Nat) : Int) t0, .int ((12 * u1 : Nat) : Int) t1, .int ((12 * u2 : Nat) : Int) t2] nq)], [((250 : Nat), tabObj tab3)], [(L + 1 + 1, o2)], [(H, listOf (cl.map fun p => Value.ref p.1).toArray n)], [(x, instObj 216 dx)], [(dx, bkD w.params tb H)], [(M, listOf vm.toArray nm)], cl, [(Fi, listOf (cl.map fun p => Value.ref p.1).toArray 0)], [(D, listOf (dl.map fun p => Value.ref p.1).toArray nd)], dl] [11, 12, 13, 14, 0, 1, 6, 7, 2, 3, 16, 4, 5, 8, 9, 10, 15, 17, 18, 19] N
  have M9 : ∀ i p, p ∈ List.getD [[(L + 1 + 1, o2)], [(H, listOf (cl.map fun p => Value.ref p.1).toArray n)], [(x, instObj 216 dx)], [(dx, bkD w.params tb H)], [(L + 1 + 1 + 1 + 1 + 1 + 1, o6)], [(r, listOf #[.int ((sh12 up u0 lv : Nat) : Int) w0, .int ((sh12 up u1 lv : Nat) : Int) w1, .int ((sh12 up u2 lv : Nat) : Int) w2] nr)], [(L + 1 + 1 + 1, o3)], [(l, listOf #[.str (spc (12 * u0)) a0, .str (spc (12 * u1)) a1, .str (spc (12 * u2)) a2] nl)], [(L + 1, o1)], [(C, listOf ws.toArray nw)], cl, [((302 : Nat), tabObj tab9)], [((288 : Nat), tabObj tab8)], [(L + 1 + 1 + 1 + 1, o4)], [(q, listOf #[.int ((12 * u0 : Nat) : Int) t0, .int ((12 * u1 : Nat) : Int) t1, .int ((12 * u2 : Nat) : Int) t2] nq)], [((250 : Nat), tabObj tab3)], [(M, listOf vm.toArray nm)], [(Fi, listOf (cl.map fun p => Value.ref p.1).toArray 0)], [(D, listOf (dl.map fun p => Value.ref p.1).toArray nd)], dl] i [] → p ∈ ((L + 1 + 1, o2) :: (H, listOf (cl.map fun p => Value.ref p.1).toArray n) :: (x, instObj 216 dx) :: (dx, bkD w.params tb H) :: (L + 1 + 1 + 1 + 1 + 1 + 1, o6) :: (r, listOf #[.int ((sh12 up u0 lv : Nat) : Int) w0, .int ((sh12 up u1 lv : Nat) : Int) w1, .int ((sh12 up u2 lv : Nat) : Int) w2] nr) :: (L + 1 + 1 + 1, o3) :: (l, listOf #[.str (spc (12 * u0)) a0, .str (spc (12 * u1)) a1, .str (spc (12 * u2)) a2] nl) :: (L + 1, o1) :: (C, listOf ws.toArray nw) :: (cl ++ ((302 : Nat), tabObj tab9) :: ((288 : Nat), tabObj tab8) :: (L + 1 + 1 + 1 + 1, o4) :: (q, listOf #[.int ((12 * u0 : Nat) : Int) t0, .int ((12 * u1 : Nat) : Int) t1, .int ((12 * u2 : Nat) : Int) t2] nq) :: ((250 : Nat), tabObj tab3) :: (M, listOf vm.toArray nm) :: (Fi, listOf (cl.map fun p => Value.ref p.1).toArray 0) :: (D, listOf (dl.map fun p => Value.ref p.1).toArray nd) :: (dl ++ []))) := memB [[(L + 1 + 1, o2)], [(H, listOf (cl.map fun p => Value.ref p.1).toArray n)], [(x, instObj 216 dx)], [(dx, bkD w.params tb H)], [(L + 1 + 1 + 1 + 1 + 1 + 1, o6)], [(r, listOf #[.int ((sh12 up u0 lv : Nat) : Int) w0, .int ((sh12 up u1 lv : Nat) : Int) w1, .int ((sh12 up u2 lv : Nat) : Int) w2] nr)], [(L + 1 + 1 + 1, o3)], [(l, listOf #[.str (spc (12 * u0)) a0, .str (spc (12 * u1)) a1, .str (spc (12 * u2)) a2] nl)], [(L + 1, o1)], [(C, listOf ws.toArray nw)], cl, [((302 : Nat), tabObj tab9)], [((288 : Nat), tabObj tab8)], [(L + 1 + 1 + 1 + 1, o4)], [(q, listOf #[.int ((12 * u0 : Nat) : Int) t0, .int ((12 * u1 : Nat) : Int) t1, .int ((12 * u2 : Nat) : Int) t2] nq)], [((250 : Nat), tabObj tab3)], [(M, listOf vm.toArray nm)], [(Fi, listOf (cl.map fun p => Value.ref p.1).toArray 0)], [(D, listOf (dl.map fun p => Value.ref p.1).toArray nd)], dl]
  refine st21 Wg C D M Fi Td lf ft P W9 O x dx H tb o1 o2 cl n ws nw c6 t6 (12 * u0) (12 * u1) (12 * u2) lv ab tt v0 v1 l o3 a0 a1 a2 nl r o6 (sh12 up u0 lv) (sh12 up u1 lv) (sh12 up u2 lv) w0 w1 w2 nr hs F N d6 hs0 hs1 hs2 d3 hc0 hc1 hc2 d1 h6 d2 hcln hcl hl5 hk3 ⟨hs0c, hs1c, hs2c⟩ (fac (ne_kd (x := 1) (y := 0) N (M9 0 _ (.head _)) (M9 1 _ (.head _)) k2 rfl (by decide)) (fac (ne_kd (x := 4) (y := 0) N (M9 2 _ (.head _)) (M9 1 _ (.head _)) rfl rfl (by decide)) (fac (ne_kd (x := 3) (y := 0) N (M9 3 _ (.head _)) (M9 1 _ (.head _)) rfl rfl (by decide)) (fac (ne_kd (x := 1) (y := 0) N (M9 4 _ (.head _)) (M9 1 _ (.head _)) k6 rfl (by decide)) (fac (ne_len (N _ (M9 5 _ (.head _))).1 (N _ (M9 1 _ (.head _))).1 (by rw [List.length_map, hcln, hl5]; exact (by decide : (3 : Nat) ≠ 5))) (fac (ne_kd (x := 1) (y := 0) N (M9 6 _ (.head _)) (M9 1 _ (.head _)) k3 rfl (by decide)) (fac (ne_len (N _ (M9 7 _ (.head _))).1 (N _ (M9 1 _ (.head _))).1 (by rw [List.length_map, hcln, hl5]; exact (by decide : (3 : Nat) ≠ 5))) (fac (ne_kd (x := 1) (y := 0) N (M9 8 _ (.head _)) (M9 1 _ (.head _)) k1 rfl (by decide)) (fac hCH (faa (cl_ne hcl (fun p hp => (N p (M9 10 _ hp)).1) (N _ (M9 1 _ (.head _))).1) (fac (ne_kd (x := 2) (y := 0) N (M9 11 _ (.head _)) (M9 1 _ (.head _)) rfl rfl (by decide)) (fac (ne_kd (x := 2) (y := 0) N (M9 12 _ (.head _)) (M9 1 _ (.head _)) rfl rfl (by decide)) (fac (ne_kd (x := 1) (y := 0) N (M9 13 _ (.head _)) (M9 1 _ (.head _)) k4 rfl (by decide)) (fac (ne_len (N _ (M9 14 _ (.head _))).1 (N _ (M9 1 _ (.head _))).1 (by rw [List.length_map, hcln, hl5]; exact (by decide : (3 : Nat) ≠ 5))) (fac (ne_kd (x := 2) (y := 0) N (M9 15 _ (.head _)) (M9 1 _ (.head _)) rfl rfl (by decide)) (fac hMH (fac hFiH (fac hDH (faa hdlH (fun _ h => nomatch h)))))))))))))))))))) hd hu ?_
  clear F N
  intro h21 tk21 U ul cl2 nu n2 F N hul3 hul hcl23 hcl2
  have hpkc : ∀ i, pk3 (12 * u0) (12 * u1) (12 * u2) i ≤ 120 := fun i => by unfold pk3; split <;> (try split) <;> assumption
  have N : News g L _ ((U, listOf (ul.map fun p => Value.ref p.1).toArray nu) :: (L + 1 + 1, o2) :: (H, listOf (cl2.map fun p => Value.ref p.1).toArray n2) :: (x, instObj 216 dx) :: (dx, bkD w.params tb H) :: (M, listOf vm.toArray nm) :: (L + 1 + 1 + 1 + 1, o4) :: (q, listOf #[.int ((12 * u0 : Nat) : Int) t0, .int ((12 * u1 : Nat) : Int) t1, .int ((12 * u2 : Nat) : Int) t2] nq) :: (L + 1 + 1 + 1 + 1 + 1 + 1, o6) :: (r, listOf #[.int ((sh12 up u0 lv : Nat) : Int) w0, .int ((sh12 up u1 lv : Nat) : Int) w1, .int ((sh12 up u2 lv : Nat) : Int) w2] nr) :: (ul ++ (cl2 ++ (L + 1 + 1 + 1, o3) :: (l, listOf #[.str (spc (12 * u0)) a0, .str (spc (12 * u1)) a1, .str (spc (12 * u2)) a2] nl) :: (L + 1, o1) :: (C, listOf ws.toArray nw) :: (cl ++ ((302 : Nat), tabObj tab9) :: ((288 : Nat), tabObj tab8) :: ((250 : Nat), tabObj tab3) :: (Fi, listOf (cl.map fun p => Value.ref p.1).toArray 0) :: (D, listOf (dl.map fun p => Value.ref p.1).toArray nd) :: (dl ++ []))))) := pickN [[(U, listOf (ul.map fun p => Value.ref p.1).toArray nu)], [(L + 1 + 1, o2)], [(H, listOf (cl2.map fun p => Value.ref p.1).toArray n2)], [(x, instObj 216 dx)], [(dx, bkD w.params tb H)], [(L + 1 + 1 + 1 + 1 + 1 + 1, o6)], [(r, listOf #[.int ((sh12 up u0 lv : Nat) : Int) w0, .int ((sh12 up u1 lv : Nat) : Int) w1, .int ((sh12 up u2 lv : Nat) : Int) w2] nr)], [(L + 1 + 1 + 1, o3)], [(l, listOf #[.str (spc (12 * u0)) a0, .str (spc (12 * u1)) a1, .str (spc (12 * u2)) a2] nl)], [(L + 1, o1)], [(C, listOf ws.toArray nw)], ul, cl2, cl, [((302 : Nat), tabObj tab9)], [((288 : Nat), tabObj tab8)], [(L + 1 + 1 + 1 + 1, o4)], [(q, listOf #[.int ((12 * u0 : Nat) : Int) t0, .int ((12 * u1 : Nat) : Int) t1, .int ((12 * u2 : Nat) : Int) t2] nq)], [((250 : Nat), tabObj tab3)], [(M, listOf vm.toArray nm)], [(Fi, listOf (cl.map fun p => Value.ref p.1).toArray 0)], [(D, listOf (dl.map fun p => Value.ref p.1).toArray nd)], dl] [0, 1, 2, 3, 4, 19, 16, 17, 5, 6, 11, 12, 7, 8, 9, 10, 13, 14, 15, 18, 20, 21, 22] N
  refine st22 Wg D M Fi Td lf ft P W9 O U x dx H q tb o2 o4 cl2 ul nu n2 nm nq vm lv ab (12 * u0) (12 * u1) (12 * u2) t0 t1 t2 tt v0 v1 r o6 (sh12 up u0 lv) (sh12 up u1 lv) (sh12 up u2 lv) w0 w1 w2 nr (Mine.hs2 c6 (pk3 (12 * u0) (12 * u1) (12 * u2)) (pk3 (sh12 up u0 lv) (sh12 up u1 lv) (sh12 up u2 lv))) F N d6 hs0 hs1 hs2 hc0 hc1 hc2 d4 d2 hcl23 (hs2_at hcl23 hcl2) hul3 (hs2_at hul3 hul) rfl (fun q hq => (hs2_mem hpkc hq).1) (fun q hq => (hs2_mem hpkc hq).2) hvm3 (nGr c6) hvm (pk3_le hs0c hs1c hs2c) (hs2_get c6 _ _) (fun i => blk_ok _ (Nat.le_trans (Nat.sub_le _ _) (hpkc i))) hd hu ?_
  clear F N
  intro h22 tk22 F N
  have N : News g L _ ((Fi, listOf (cl.map fun p => Value.ref p.1).toArray 0) :: (D, listOf (dl.map fun p => Value.ref p.1).toArray nd) :: (cl ++ (dl ++ (U, listOf (ul.map fun p => Value.ref p.1).toArray nu) :: (L + 1 + 1, o2) :: (H, listOf (cl2.map fun p => Value.ref p.1).toArray n2) :: (x, instObj 216 dx) :: (dx, bkD w.params tb H) :: (M, listOf vm.toArray nm) :: (L + 1 + 1 + 1 + 1, o4) :: (q, listOf #[.int ((12 * u0 : Nat) : Int) t0, .int ((12 * u1 : Nat) : Int) t1, .int ((12 * u2 : Nat) : Int) t2] nq) :: (L + 1 + 1 + 1 + 1 + 1 + 1, o6) :: (r, listOf #[.int ((sh12 up u0 lv : Nat) : Int) w0, .int ((sh12 up u1 lv : Nat) : Int) w1, .int ((sh12 up u2 lv : Nat) : Int) w2] nr) :: (ul ++ (cl2 ++ (L + 1 + 1 + 1, o3) :: (l, listOf #[.str (spc (12 * u0)) a0, .str (spc (12 * u1)) a1, .str (spc (12 * u2)) a2] nl) :: (L + 1, o1) :: (C, listOf ws.toArray nw) :: ((302 : Nat), tabObj tab9) :: ((288 : Nat), tabObj tab8) :: ((250 : Nat), tabObj tab3) :: []))))) := pickN [[(U, listOf (ul.map fun p => Value.ref p.1).toArray nu)], [(L + 1 + 1, o2)], [(H, listOf (cl2.map fun p => Value.ref p.1).toArray n2)], [(x, instObj 216 dx)], [(dx, bkD w.params tb H)], [(M, listOf vm.toArray nm)], [(L + 1 + 1 + 1 + 1, o4)], [(q, listOf #[.int ((12 * u0 : Nat) : Int) t0, .int ((12 * u1 : Nat) : Int) t1, .int ((12 * u2 : Nat) : Int) t2] nq)], [(L + 1 + 1 + 1 + 1 + 1 + 1, o6)], [(r, listOf #[.int ((sh12 up u0 lv : Nat) : Int) w0, .int ((sh12 up u1 lv : Nat) : Int) w1, .int ((sh12 up u2 lv : Nat) : Int) w2] nr)], ul, cl2, [(L + 1 + 1 + 1, o3)], [(l, listOf #[.str (spc (12 * u0)) a0, .str (spc (12 * u1)) a1, .str (spc (12 * u2)) a2] nl)], [(L + 1, o1)], [(C, listOf ws.toArray nw)], cl, [((302 : Nat), tabObj tab9)], [((288 : Nat), tabObj tab8)], [((250 : Nat), tabObj tab3)], [(Fi, listOf (cl.map fun p => Value.ref p.1).toArray 0)], [(D, listOf (dl.map fun p => Value.ref p.1).toArray nd)], dl] [20, 21, 16, 22, 0, 1, 2, 3, 4, 5, 6, 7, 8, 9, 10, 11, 12, 13, 14, 15, 17, 18, 19] N
  exact st23 Wg D M Fi Td lf ft P W9 O U cl dl nd 0 lv ab (12 * u0) (12 * u1) (12 * u2) tt v0 v1 hs F N hcln hcl (hdl5.trans hl5.symm) hdr hk3 hok hd hu fun h' tk' F N => hQ h' tk' F (by have M9 : ∀ i p, p ∈ List.getD [[(U, listOf (ul.map fun p => Value.ref p.1).toArray nu)], [(L + 1 + 1, o2)], [(H, listOf (cl2.map fun p => Value.ref p.1).toArray n2)], [(x, instObj 216 dx)], [(dx, bkD w.params tb H)], [(M, listOf vm.toArray nm)], [(L + 1 + 1 + 1 + 1, o4)], [(q, listOf #[.int ((12 * u0 : Nat) : Int) t0, .int ((12 * u1 : Nat) : Int) t1, .int ((12 * u2 : Nat) : Int) t2] nq)], [(L + 1 + 1 + 1 + 1 + 1 + 1, o6)], [(r, listOf #[.int ((sh12 up u0 lv : Nat) : Int) w0, .int ((sh12 up u1 lv : Nat) : Int) w1, .int ((sh12 up u2 lv : Nat) : Int) w2] nr)], ul, cl2, [(L + 1 + 1 + 1, o3)], [(l, listOf #[.str (spc (12 * u0)) a0, .str (spc (12 * u1)) a1, .str (spc (12 * u2)) a2] nl)], [(L + 1, o1)], [(C, listOf ws.toArray nw)], [((302 : Nat), tabObj tab9)], [((288 : Nat), tabObj tab8)], [((250 : Nat), tabObj tab3)]] i [] → p ∈ ((U, listOf (ul.map fun p => Value.ref p.1).toArray nu) :: (L + 1 + 1, o2) :: (H, listOf (cl2.map fun p => Value.ref p.1).toArray n2) :: (x, instObj 216 dx) :: (dx, bkD w.params tb H) :: (M, listOf vm.toArray nm) :: (L + 1 + 1 + 1 + 1, o4) :: (q, listOf #[.int ((12 * u0 : Nat) : Int) t0, .int ((12 * u1 : Nat) : Int) t1, .int ((12 * u2 : Nat) : Int) t2] nq) :: (L + 1 + 1 + 1 + 1 + 1 + 1, o6) :: (r, listOf #[.int ((sh12 up u0 lv : Nat) : Int) w0, .int ((sh12 up u1 lv : Nat) : Int) w1, .int ((sh12 up u2 lv : Nat) : Int) w2] nr) :: (ul ++ (cl2 ++ (L + 1 + 1 + 1, o3) :: (l, listOf #[.str (spc (12 * u0)) a0, .str (spc (12 * u1)) a1, .str (spc (12 * u2)) a2] nl) :: (L + 1, o1) :: (C, listOf ws.toArray nw) :: ((302 : Nat), tabObj tab9) :: ((288 : Nat), tabObj tab8) :: ((250 : Nat), tabObj tab3) :: []))) := memB [[(U, listOf (ul.map fun p => Value.ref p.1).toArray nu)], [(L + 1 + 1, o2)], [(H, listOf (cl2.map fun p => Value.ref p.1).toArray n2)], [(x, instObj 216 dx)], [(dx, bkD w.params tb H)], [(M, listOf vm.toArray nm)], [(L + 1 + 1 + 1 + 1, o4)], [(q, listOf #[.int ((12 * u0 : Nat) : Int) t0, .int ((12 * u1 : Nat) : Int) t1, .int ((12 * u2 : Nat) : Int) t2] nq)], [(L + 1 + 1 + 1 + 1 + 1 + 1, o6)], [(r, listOf #[.int ((sh12 up u0 lv : Nat) : Int) w0, .int ((sh12 up u1 lv : Nat) : Int) w1, .int ((sh12 up u2 lv : Nat) : Int) w2] nr)], ul, cl2, [(L + 1 + 1 + 1, o3)], [(l, listOf #[.str (spc (12 * u0)) a0, .str (spc (12 * u1)) a1, .str (spc (12 * u2)) a2] nl)], [(L + 1, o1)], [(C, listOf ws.toArray nw)], [((302 : Nat), tabObj tab9)], [((288 : Nat), tabObj tab8)], [((250 : Nat), tabObj tab3)]]; exact ⟨⟨_, (N _ (M9 17 _ (.head _))).1⟩, ⟨_, (N _ (M9 18 _ (.head _))).1⟩, ⟨_, (N _ (M9 16 _ (.head _))).1⟩, trivial⟩)
end
section
set_option maxHeartbeats 4000000
open PySem PySem.W PySem.Calls PyProof.Rows
theorem law_walkA {w : World} {mean : ExcName → Option Value} {mg mb : Str → Option Value} {A : Around} {s : Shared} {Q : Flow → Shared → Prop} {g : Heap} {L S : Addr} {o1 o2 o3 o4 o5 o6 : Obj} {vs : List Value} {ns : List Int} (hA : A.handled = none) (Wg : Wd w mean mg mb g) (F : Fr g L s.heap (mp [(Str.ofString "script", .ref S)]))
   (N : News g L s.heap ((L + 1 + 1 + 1 + 1 + 1 + 1, o6) :: (L + 1 + 1 + 1 + 1 + 1, o5) :: (L + 1 + 1 + 1 + 1, o4) :: (L + 1 + 1 + 1, o3) :: (L + 1 + 1, o2) :: (L + 1, o1) :: ((288 : Nat), tabObj #[]) :: ((250 : Nat), tabObj #[]) :: ((302 : Nat), tabObj #[]) :: []))
   (d1 : o1.data = .cell none) (d2 : o2.data = .cell none) (d3 : o3.data = .cell none) (d4 : o4.data = .cell none) (d5 : o5.data = .cell none) (d6 : o6.data = .cell none)
   (hS : g.IsList S vs.toArray) (hI : IntsAre vs ns) (hlen : ns.length ≤ 63) (hd : A.depth + 30 < recursionLimit) (hu : A.units + 400 < cLine) (hQ : ∀ h' tk', (∃ m, Fr g L h' m) → GrownAll [(292, 288), (254, 250), (304, 302)] h' → Q (.ret (.bool true)) { s with heap := h', toks := tk' }) :
   wpAny (model prg w) A (execs (lawRest 0) (lawEnv L)) Q Fls s := by
  rw [ar_of hA]
  exact law_walk Wg F N d1 d2 d3 d4 d5 d6 hS hI hlen hd hu hQ
theorem holds : PySem.Challenge.rw_uc0030_01.Holds := Mine.hd (by
  w_strict (
    k_fill
    intro w s₀ s₁ mg mb G Y fa o pm cd doc dV kV ho hd hcd hD hmg hg args vals as hpre hlay hrd hwl hlo
    have KX := km_in_of Y
    km_tabs Y
    have X := (Ground.X G).1
    have V := (Ground.X G).2
    refine Ground.open G ?_
    intro T B D TE TW
    try (refine guard_noD D (by decide +kernel) ?_; clear D)
    have hfa : some (Value.ref fa) = some (Value.ref 305) := hmg.symm.trans (mg_of KX (Top.g T) (n := Str.ofString "law") (v := .ref 305) (by kernel_rfl))
    injection hfa with hfa
    injection hfa with hfa
    subst hfa
    km_lay T hmg ho hd cd
    clear hmg
    wrow_args hpre hlay hrd hwl hlo
    all_goals (
      first | refine callC_kw (enter_call ?_) | refine enter_call ?_
      w_top on
      kn_posts
      w_call any ho hd hcd hD T F
      clear hd
      kn_ghosts F T
      k_drop
      skip)
    (all_goals try k_fold)
    rename_i w5 w4 w3 w2 w1 w0 d6 d5 d4 d3 d2 d1 X0 X1 T1 K1 F1 _ _ N1 l0
    rename IntsAre _ _ => I1
    have F2 : Fr _ _ _ (mp [(Str.ofString "script", .ref _)]) := F1
    have Wg : Wd _ _ _ _ _ := ⟨X1, ⟨_, _, T1⟩⟩
    rename (¬ _ < _) => hc
    have lf : Heap.IsList (ghostOf _ _) _ _ := lifted
    refine wpAny_mono (Q := fun fl s' => fl = .ret (.bool true) ∧ ∃ h' tk', s' = { s₁ with heap := h', toks := tk' } ∧ GrownAll [(292, 288), (254, 250), (304, 302)] h' ∧ ∃ m, Fr (ghostOf s₁.heap [(292, 288), (254, 250), (304, 302)]) s₁.heap.objs.size h' m) (E := Fls) ?walk ?_ (fun _ _ x => x.elim)
    case walk =>
      with_unfolding_all show wpAny _ _ (execs (lawRest 0) (lawEnv _)) _ _ _
      refine law_walkA (by rfl) Wg F2 N1 d1 d2 d3 d4 d5 d6 lf I1 ?_ ?_ ?_ fun h' tk' hf hg => ⟨rfl, h', tk', rfl, hg, hf⟩
      · omega
      · first | omega | ((try simp only [depth_under_make, depth_under_kw, depth_in1, depth_deeper, depth_caller]); (try dsimp only); decide)
      · (try simp only [units_in1, units_deeper, Around.mark_units]); (try dsimp only); decide
    rintro fl s' ⟨rfl, h', tk', rfl, hgr, m9, F9⟩
    refine ⟨goodW_bool F9 hg (fun _ => rfl) ?_, hgr⟩
    with_unfolding_all rfl))
end
end Mine
theorem PySem.Challenge.cw_uc0030_01_holds : PySem.Challenge.rw_uc0030_01.Holds := by
  exact Mine.holds
