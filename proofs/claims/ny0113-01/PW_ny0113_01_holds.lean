import PyProof.Rows.All
import Wide.All
import OpenK.AllK
import Wide.FinOn
import Lean
import PySem.Challenge.RW_ny0113_01
set_option Elab.async false
set_option linter.unusedVariables false
set_option linter.unnecessarySimpa false
section
open PySem PySem.W PyProof.Rows
namespace Mine
set_option maxRecDepth 100000 in
set_option maxHeartbeats 8000000 in
open_top hd for PySem.Challenge.rw_ny0113_01
end Mine
end
section
open PySem PySem.W PyProof.Rows PySem.Calls
set_option maxRecDepth 100000
namespace Mine
noncomputable abbrev PR : Program := PySem.Challenge.rw_ny0113_01.row.prog
noncomputable abbrev VW : Program := hd.view_39
noncomputable abbrev LS : List Str := looseW hd.view_39 [Str.ofString "_filemode_table", Str.ofString "_initial_missing", Str.ofString "reduce"]
noncomputable abbrev KK (w : World) : Frag := hd.heap_39 w.params
noncomputable abbrev MM (w : World) : Model := model PR w
/-- the later heap holds all that the earlier one held -/
def KP (h h' : Heap) : Prop := ∀ b o, h.get? b = some o → h'.get? b = some o
theorem KP.rfl {h : Heap} : KP h h := fun _ _ e => e
theorem KP.trans {a b c : Heap} (x : KP a b) (y : KP b c) : KP a c := fun p o e => y p o (x p o e)
theorem KP.push {h : Heap} (o : Obj) : KP h (h.push o) := fun _ _ e => Heap.get?_push_of_some _ e

structure G (w : World) (h : Heap) : Prop where
  k : (KK w).In h
  t : ∃ mg mb, TopRead VW LS mg mb h
theorem G.kp {w : World} {h h' : Heap} (g : G w h) (k : KP h h') : G w h' := ⟨g.k.keeps k, let ⟨a, b, t⟩ := g.t; ⟨a, b, t.keeps k⟩⟩

/-- room for k more frames -/
structure Rm (A : Around) (k : Nat) : Prop where
  hh : A.handled = none
  d : A.depth + k < recursionLimit
  u : A.units + 20 * k + 50 < cLine
theorem Rm.deeper {A : Around} {k : Nat} (r : Rm A (k + 1)) (env : Env) : Rm (A.deeper env) k := ⟨r.hh, by have := r.d; show A.depth + 1 + k < _; omega, by have := r.u; show A.units + 3 + 20 * k + 50 < _; omega⟩
theorem Rm.less {A : Around} {k j : Nat} (r : Rm A k) (h : j ≤ k) : Rm A j := ⟨r.hh, by have := r.d; omega, by have := r.u; omega⟩

/-- a run that keeps the heap, told by what it gives back -/
def SE {α : Type} (w : World) (A : Around) (h : Heap) (t : Sem α) (P : α → Heap → Prop) : Prop :=
  ∀ (s : Shared) (Q : α → Shared → Prop) (E : Value → Shared → Prop), KP h s.heap → (∀ v h' tk, KP s.heap h' → P v h' → Q v { s with heap := h', toks := tk }) → wpAny (MM w) A t Q E s
def IsI (n : Int) (v : Value) : Prop := ∃ t, v = .int n t
section
variable {α : Type} {w : World} {A : Around} {h h' : Heap} {t : Sem α} {P P' : α → Heap → Prop}
theorem SE.kp (x : SE w A h t P) (k : KP h h') : SE w A h' t P := fun s Q E ks hQ => x s Q E (k.trans ks) hQ
theorem SE.mono (x : SE w A h t P) (hP : ∀ v g, KP h g → P v g → P' v g) : SE w A h t P' := fun s Q E ks hQ => x s Q E ks fun v g tk kg p => hQ v g tk kg (hP v g (ks.trans kg) p)
theorem SE.go {s : Shared} {Q : α → Shared → Prop} {E : Value → Shared → Prop} (x : SE w A s.heap t P) (hQ : ∀ v h' tk, KP s.heap h' → P v h' → Q v { s with heap := h', toks := tk }) : wpAny (MM w) A t Q E s := x s Q E KP.rfl hQ
end
section
variable {w : World} {A : Around} {h : Heap} {env : Env}
theorem se_const {i : Int} {k : Nat} {pos : Pos} : SE w A h (eval (.Constant (.int i) k pos) env) (fun v _ => IsI i v) :=
  fun s _ _ _ hQ => wpAny_Constant_int (hQ _ s.heap _ KP.rfl ⟨_, rfl⟩)
theorem se_local {x : Str} {pos : Pos} {m : Str → Option Value} {v : Value} (hn : h.Ns env.locals m) (hv : m x = some v) (hk : env.scope.kind = .function := by rfl) (hl : env.kindOf x = some .local := by rfl)
    (hd : (x == ("__debug__" : Str)) = false := by decide) : SE w A h (eval (.Name x pos) env) (fun u _ => u = v) :=
  fun s _ _ ks hQ => wpAny_Name (wpAny_loadName_local hk hl (hn.keeps ks) hv (hQ v s.heap s.toks KP.rfl rfl)) hd
theorem se_cell {x : Str} {pos : Pos} {c : Addr} {v : Value} (hc : env.cells.lookup x = some c) (hv : h.IsCell c (some v)) (hk : env.scope.kind = .function := by rfl) (hl : env.kindOf x = some .cell := by rfl)
    (hd : (x == ("__debug__" : Str)) = false := by decide) : SE w A h (eval (.Name x pos) env) (fun u _ => u = v) :=
  fun s _ _ ks hQ => wpAny_Name (wpAny_loadName_cell hk hl hc (hv.keeps ks) (hQ v s.heap s.toks KP.rfl rfl)) hd
theorem se_global {x : Str} {pos : Pos} {v : Value} (g : G w h) (e : nsIn (KK w) mainGlobals x = some (some v)) (hg : env.globals = mainGlobals := by rfl) (hk : env.scope.kind = .function := by rfl) (hx : env.kindOf x = some .globalImplicit := by rfl)
    (hd : (x == ("__debug__" : Str)) = false := by decide) : SE w A h (eval (.Name x pos) env) (fun u _ => u = v) := fun s _ _ ks hQ => by
  obtain ⟨mg, mb, T⟩ := g.t
  exact Name_function_global hk hx (loadGlobal_global (env := env) (by rw [hg]; exact T.g.keeps ks) (mg_of g.k T.g e) (hQ v s.heap s.toks KP.rfl rfl)) hd
theorem se_builtin {x : Str} {pos : Pos} {v : Value} (g : G w h) (e : nsIn (KK w) mainGlobals x = some none) (hv : bootBuiltins x = some v) (hn : x ≠ "__name__") (hg : env.globals = mainGlobals := by rfl) (hb : env.builtins = builtinsNs := by rfl)
    (hk : env.scope.kind = .function := by rfl) (hx : env.kindOf x = some .globalImplicit := by rfl) (hd : (x == ("__debug__" : Str)) = false := by decide) : SE w A h (eval (.Name x pos) env) (fun u _ => u = v) := fun s _ _ ks hQ => by
  obtain ⟨mg, mb, T⟩ := g.t
  exact Name_function_global hk hx (loadGlobal_builtin (env := env) (by rw [hg]; exact T.g.keeps ks) (mg_none_of g.k T.g e) (by rw [hb]; exact T.b.keeps ks) ((T.builtins x hn).trans hv) (hQ v s.heap s.toks KP.rfl rfl)) hd
theorem se_int {e : Expr} {n : Int} {t : Tok} (x : SE w A h (eval e env) (fun u _ => u = .int n t)) : SE w A h (eval e env) (fun u _ => IsI n u) := x.mono fun _ _ _ e => ⟨t, e⟩
theorem se_bin {l r : Expr} {op : Operator} {pos : Pos} {a b c : Int} (hl : SE w A h (eval l env) (fun v _ => IsI a v)) (hr : SE w A h (eval r env) (fun v _ => IsI b v))
    (hop : ∀ (s : Shared) (t u : Tok) (Q : Value → Shared → Prop) (E : Value → Shared → Prop), KP h s.heap → Q (.int c s.toks) { s with toks := s.toks + 1 } → wpAny (MM w) A (binaryOp op (.int a t) (.int b u)) Q E s) :
    SE w A h (eval (.BinOp l op r pos) env) (fun v _ => IsI c v) := fun s Q E ks hQ => by
  refine wpAny_BinOp (hl s _ _ ks fun v h1 tk1 k1 p1 => ?_)
  refine hr _ _ _ (ks.trans k1) fun v2 h2 tk2 k2 p2 => ?_
  obtain ⟨t, rfl⟩ := p1
  obtain ⟨u, rfl⟩ := p2
  exact hop _ t u _ _ (ks.trans (k1.trans k2)) (hQ _ h2 _ (k1.trans k2) ⟨_, rfl⟩)
theorem se_add {l r : Expr} {pos : Pos} {a b : Int} (hl : SE w A h (eval l env) (fun v _ => IsI a v)) (hr : SE w A h (eval r env) (fun v _ => IsI b v)) :
    SE w A h (eval (.BinOp l .Add r pos) env) (fun v _ => IsI (a + b) v) := se_bin hl hr fun _ _ _ _ _ _ q => PyProof.Rows.add_int q
theorem se_sub {l r : Expr} {pos : Pos} {a b : Int} (hl : SE w A h (eval l env) (fun v _ => IsI a v)) (hr : SE w A h (eval r env) (fun v _ => IsI b v)) :
    SE w A h (eval (.BinOp l .Sub r pos) env) (fun v _ => IsI (a - b) v) := se_bin hl hr fun _ _ _ _ _ _ q => PyProof.Rows.sub_int q
theorem se_mul {l r : Expr} {pos : Pos} {a b : Int} (hl : SE w A h (eval l env) (fun v _ => IsI a v)) (hr : SE w A h (eval r env) (fun v _ => IsI b v)) (hm : IntMulOk a b) :
    SE w A h (eval (.BinOp l .Mult r pos) env) (fun v _ => IsI (a * b) v) := se_bin hl hr fun _ _ _ _ _ _ q => PyProof.Rows.mul_int q hm
theorem se_mod {l r : Expr} {pos : Pos} {a b : Int} (hl : SE w A h (eval l env) (fun v _ => IsI a v)) (hr : SE w A h (eval r env) (fun v _ => IsI b v)) (hb : 0 < b) :
    SE w A h (eval (.BinOp l .Mod r pos) env) (fun v _ => IsI (a % b) v) := se_bin hl hr fun _ _ _ _ _ _ q => PyProof.Rows.mod_int (by omega) (by rw [Int.fmod_eq_emod_of_nonneg _ (by omega)]; exact q)
theorem se_and {l r : Expr} {pos : Pos} {a b : Int} (hl : SE w A h (eval l env) (fun v _ => IsI a v)) (hr : SE w A h (eval r env) (fun v _ => IsI b v)) :
    SE w A h (eval (.BinOp l .BitAnd r pos) env) (fun v _ => IsI (Builtin.bitAnd a b) v) := se_bin hl hr fun _ _ _ _ _ _ q => PyProof.Rows.and_int q
theorem se_xor {l r : Expr} {pos : Pos} {a b : Int} (hl : SE w A h (eval l env) (fun v _ => IsI a v)) (hr : SE w A h (eval r env) (fun v _ => IsI b v)) :
    SE w A h (eval (.BinOp l .BitXor r pos) env) (fun v _ => IsI (Builtin.bitXor a b) v) := se_bin hl hr fun _ _ _ _ _ _ q => PyProof.Rows.xor_int q
theorem se_shr {l r : Expr} {pos : Pos} {a b : Int} (hl : SE w A h (eval l env) (fun v _ => IsI a v)) (hr : SE w A h (eval r env) (fun v _ => IsI b v)) (hb : 0 ≤ b) :
    SE w A h (eval (.BinOp l .RShift r pos) env) (fun v _ => IsI (a / 2 ^ b.toNat) v) := se_bin hl hr fun _ _ _ _ _ _ q => PyProof.Rows.rshift_int hb (by rw [Int.fdiv_eq_ediv_of_nonneg _ (Int.le_of_lt (Int.pow_pos (by decide)))]; exact q)
theorem se_div {l r : Expr} {pos : Pos} {a b : Int} (hl : SE w A h (eval l env) (fun v _ => IsI a v)) (hr : SE w A h (eval r env) (fun v _ => IsI b v)) (hb : 0 < b) (hp : b < 1073741824) :
    SE w A h (eval (.BinOp l .FloorDiv r pos) env) (fun v _ => IsI (a / b) v) := se_bin hl hr fun _ _ _ _ _ _ q => PyProof.Rows.floordiv_int (by omega) (by rw [Int.fdiv_eq_ediv_of_nonneg _ (by omega)]; exact q) (.inl (PyProof.noPylong_small (by omega)))
theorem se_pow {l r : Expr} {pos : Pos} {a b : Int} (hl : SE w A h (eval l env) (fun v _ => IsI a v)) (hr : SE w A h (eval r env) (fun v _ => IsI b v)) (hb : 0 ≤ b) (hb2 : b ≤ 1000000) (ha : a.natAbs < 2 ^ 64) :
    SE w A h (eval (.BinOp l .Pow r pos) env) (fun v _ => IsI (a ^ b.toNat) v) := se_bin hl hr fun _ _ _ _ _ _ q => PyProof.Rows.pow_int_small hb hb2 ha q
theorem se_neg {l : Expr} {pos : Pos} {a : Int} (hl : SE w A h (eval l env) (fun v _ => IsI a v)) : SE w A h (eval (.UnaryOp .USub l pos) env) (fun v _ => IsI (-a) v) := fun s Q E ks hQ => by
  refine wpAny_UnaryOp (hl s _ _ ks fun v h1 tk1 k1 p1 => ?_)
  obtain ⟨t, rfl⟩ := p1
  exact PyProof.Rows.neg_int (hQ _ h1 _ k1 ⟨_, rfl⟩)
/-- tests -/
theorem st_eq {l r : Expr} {pos : Pos} {a b : Int} {whole : Sem Value} (hl : SE w A h (eval l env) (fun v _ => IsI a v)) (hr : SE w A h (eval r env) (fun v _ => IsI b v)) (hm : behindInMarks .Eq r = false := by with_unfolding_all rfl) :
    SE w A h (isTrue (.Compare l [.Eq] [r] pos) env whole) (fun c _ => c = (a == b)) := fun s Q E ks hQ => by
  refine wpAny_isTrue_Compare1 (hl s _ _ ks fun v h1 tk1 k1 p1 => ?_) hm
  refine hr _ _ _ (ks.trans k1) fun v2 h2 tk2 k2 p2 => ?_
  obtain ⟨t, rfl⟩ := p1
  obtain ⟨u, rfl⟩ := p2
  exact PyProof.Rows.eq_int (wpAny_truthy_bool (hQ _ h2 _ (k1.trans k2) rfl))
theorem st_ne {l r : Expr} {pos : Pos} {a b : Int} {whole : Sem Value} (hl : SE w A h (eval l env) (fun v _ => IsI a v)) (hr : SE w A h (eval r env) (fun v _ => IsI b v)) (hm : behindInMarks .NotEq r = false := by with_unfolding_all rfl) :
    SE w A h (isTrue (.Compare l [.NotEq] [r] pos) env whole) (fun c _ => c = (a != b)) := fun s Q E ks hQ => by
  refine wpAny_isTrue_Compare1 (hl s _ _ ks fun v h1 tk1 k1 p1 => ?_) hm
  refine hr _ _ _ (ks.trans k1) fun v2 h2 tk2 k2 p2 => ?_
  obtain ⟨t, rfl⟩ := p1
  obtain ⟨u, rfl⟩ := p2
  exact PyProof.Rows.ne_int (wpAny_truthy_bool (hQ _ h2 _ (k1.trans k2) rfl))
theorem st_int {e : Expr} {n : Int} (x : SE w A h (eval e env) (fun v _ => IsI n v)) (he : ∀ whole, isTrue e env whole = (do let v ← whole; standAt e.pos; holding [v] (truthy v)) := by intro _; rfl) :
    SE w A h (isTrue e env (eval e env)) (fun c _ => c = (n != 0)) := fun s Q E ks hQ => by
  refine isTrue_plain (x s _ _ ks fun v h1 tk1 k1 p1 => ?_) (he _)
  obtain ⟨t, rfl⟩ := p1
  exact PyProof.Rows.truthy_int (hQ _ h1 _ k1 rfl)
end
end Mine
end
section
open PySem PySem.W PyProof.Rows PySem.Calls
set_option maxRecDepth 100000
namespace Mine
/-- what one object is -/
abbrev OP := Obj → Prop
abbrev Own := List (Addr × OP)
def nsP (m : Str → Option Value) : OP := fun o => ∃ es ep, o.data = .dict es ep ∧ StrKeys es ∧ ∀ name, nsFind es name = m name
def cellP (v : Option Value) : OP := fun o => o.data = .cell v
def listP (vs : List Value) : OP := fun o => ∃ n, o = { cls := .type "list", data := .seq vs.toArray n }
def intsP (ns : List Int) : OP := fun o => ∃ vs, listP vs o ∧ IntsAre vs ns
def At (h : Heap) (a : Addr) (S : OP) : Prop := ∃ o, h.get? a = some o ∧ S o
theorem At.kp {h h' : Heap} {a : Addr} {S : OP} (x : At h a S) (k : KP h h') : At h' a S := let ⟨o, e, p⟩ := x; ⟨o, k _ _ e, p⟩
theorem At.ns {h : Heap} {a : Addr} {m} (x : At h a (nsP m)) : h.Ns a m := let ⟨o, e, es, ep, p⟩ := x; ⟨o, es, ep, e, p⟩
theorem at_ns {h : Heap} {a : Addr} {m} (x : h.Ns a m) : At h a (nsP m) := let ⟨o, es, ep, e, p⟩ := x; ⟨o, e, es, ep, p⟩
theorem At.cell {h : Heap} {a : Addr} {v} (x : At h a (cellP v)) : h.IsCell a v := x
theorem At.list {h : Heap} {a : Addr} {vs} (x : At h a (listP vs)) : h.PlainList a vs.toArray := let ⟨_, e, n, p⟩ := x; ⟨n, p ▸ e⟩
theorem at_list {h : Heap} {a : Addr} {vs : List Value} (x : h.PlainList a vs.toArray) : At h a (listP vs) := let ⟨n, e⟩ := x; ⟨_, e, n, rfl⟩
theorem At.ints {h : Heap} {a : Addr} {ns} (x : At h a (intsP ns)) : ∃ vs, h.IsList a vs.toArray ∧ IntsAre vs ns := let ⟨o, e, vs, p, i⟩ := x; ⟨vs, (At.list ⟨o, e, p⟩).isList, i⟩
theorem At.some {h : Heap} {a : Addr} {S : OP} (x : At h a S) : h.get? a ≠ none := let ⟨_, e, _⟩ := x; by rw [e]; exact fun q => nomatch q

structure Hp (h₀ h : Heap) (own : Own) : Prop where
  keep : KP h₀ h
  has : ∀ p ∈ own, At h p.1 p.2
  new : ∀ p ∈ own, h₀.get? p.1 = none
  apart : own.Pairwise fun p q => p.1 ≠ q.1
section
variable {h₀ h h' : Heap} {own r : Own} {a b : Addr} {S S' T : OP}
theorem Hp.kp (H : Hp h₀ h own) (k : KP h h') : Hp h₀ h' own := ⟨H.keep.trans k, fun p hp => (H.has p hp).kp k, H.new, H.apart⟩
theorem Hp.nil : Hp h h [] := ⟨KP.rfl, (fun _ m => nomatch m), (fun _ m => nomatch m), List.Pairwise.nil⟩
theorem Hp.nilK (k : KP h₀ h) : Hp h₀ h [] := ⟨k, (fun _ m => nomatch m), (fun _ m => nomatch m), List.Pairwise.nil⟩
theorem Hp.here (H : Hp h₀ h ((a, S) :: r)) : At h a S := H.has _ (.head _)
theorem Hp.tail {p : Addr × OP} (H : Hp h₀ h (p :: r)) : Hp h₀ h r := ⟨H.keep, fun q m => H.has q (.tail _ m), fun q m => H.new q (.tail _ m), (List.pairwise_cons.mp H.apart).2⟩
theorem Hp.set (H : Hp h₀ h ((a, S) :: r)) (hs : Heap.SameBut a h h') (x : At h' a S') : Hp h₀ h' ((a, S') :: r) := by
  have hap := List.pairwise_cons.mp H.apart
  refine ⟨fun q o e => (hs.2 q fun x => ?_).trans (H.keep q o e), fun p m => ?_, fun p m => ?_, List.pairwise_cons.mpr ⟨hap.1, hap.2⟩⟩
  · have := H.new _ (.head _); rw [← x, e] at this; cases this
  · rcases List.mem_cons.mp m with rfl | m
    · exact x
    · obtain ⟨o, e, q⟩ := H.has p (.tail _ m)
      exact ⟨o, (hs.2 _ (Ne.symm (hap.1 p m))).trans e, q⟩
  · rcases List.mem_cons.mp m with rfl | m
    · exact H.new (a, S) (.head _)
    · exact H.new p (.tail _ m)
/-- all but the first entries' addresses may grow, the first may turn -/
theorem Hp.setX (H : Hp h₀ h ((a, S) :: r)) (hs : Heap.ExtBut a h h') (x : At h' a S') : Hp h₀ h' ((a, S') :: r) := by
  have hap := List.pairwise_cons.mp H.apart
  refine ⟨fun q o e => hs q o (fun x => ?_) (H.keep q o e), fun p m => ?_, fun p m => ?_, List.pairwise_cons.mpr ⟨hap.1, hap.2⟩⟩
  · have := H.new _ (.head _); rw [← x, e] at this; cases this
  · rcases List.mem_cons.mp m with rfl | m
    · exact x
    · obtain ⟨o, e, q⟩ := H.has p (.tail _ m)
      exact ⟨o, hs _ _ (Ne.symm (hap.1 p m)) e, q⟩
  · rcases List.mem_cons.mp m with rfl | m
    · exact H.new (a, S) (.head _)
    · exact H.new p (.tail _ m)
theorem Hp.add (H : Hp h₀ h own) (k : KP h h') (hn : h.get? a = none) (x : At h' a S) : Hp h₀ h' ((a, S) :: own) := by
  refine ⟨H.keep.trans k, fun p m => ?_, fun p m => ?_, List.pairwise_cons.mpr ⟨fun p m q => ?_, H.apart⟩⟩
  · rcases List.mem_cons.mp m with rfl | m
    · exact x
    · exact (H.has p m).kp k
  · rcases List.mem_cons.mp m with rfl | m
    · cases e : h₀.get? a with
      | none => rfl
      | some o => rw [H.keep _ _ e] at hn; cases hn
    · exact H.new p m
  · exact (H.has p m).some (q ▸ hn)
theorem Hp.swap {p q : Addr × OP} (H : Hp h₀ h (p :: q :: r)) : Hp h₀ h (q :: p :: r) := by
  have h1 := List.pairwise_cons.mp H.apart
  have h2 := List.pairwise_cons.mp h1.2
  refine ⟨H.keep, fun x m => H.has x ?_, fun x m => H.new x ?_, List.pairwise_cons.mpr ⟨fun x m => ?_, List.pairwise_cons.mpr ⟨fun x m => h1.1 x (.tail _ m), h2.2⟩⟩⟩
  · simp only [List.mem_cons] at m ⊢; rcases m with m | m | m <;> simp [m]
  · simp only [List.mem_cons] at m ⊢; rcases m with m | m | m <;> simp [m]
  · rcases List.mem_cons.mp m with rfl | m
    · exact Ne.symm (h1.1 q (.head _))
    · exact h2.1 x m
theorem Hp.perm (H : Hp h₀ h own) (p : own.Perm r) : Hp h₀ h r :=
  ⟨H.keep, fun x m => H.has x (p.mem_iff.mpr m), fun x m => H.new x (p.mem_iff.mpr m), p.pairwise H.apart (fun h => Ne.symm h)⟩
theorem Hp.kpt (H : Hp h₀ h own) {g : Heap} (k : KP g h₀) (hn : ∀ p ∈ own, g.get? p.1 = none := by intro p m; assumption) : Hp g h own := ⟨k.trans H.keep, H.has, hn, H.apart⟩
/-- the world outside what is owned, frozen -/
theorem Hp.hide (H : Hp h₀ h own) : Hp (hideAll h (own.map (·.1))) h own :=
  ⟨fun _ _ e => of_hideAll _ e, H.has, fun _ m => hideAll_none _ (List.mem_map_of_mem m), H.apart⟩
theorem KP.hide (H : Hp h₀ h own) : KP h₀ (hideAll h (own.map (·.1))) := fun b o e => hideAll_get _ (H.keep b o e) fun m => by
  obtain ⟨p, hp, rfl⟩ := List.mem_map.mp m
  rw [H.new p hp] at e; cases e
theorem Hp.unhide (H : Hp h₀ h own) {own' : Own} (H' : Hp (hideAll h (own.map (·.1))) h' own') (ha : own'.map (·.1) = own.map (·.1)) : Hp h₀ h' own' :=
  ⟨(KP.hide H).trans H'.keep, H'.has, fun p m => by
    have : p.1 ∈ own.map (·.1) := ha ▸ List.mem_map_of_mem m
    obtain ⟨q, hq, e⟩ := List.mem_map.mp this
    rw [← e]; exact H.new q hq, H'.apart⟩
end

def upd (m : Str → Option Value) (x : Str) (v : Value) : Str → Option Value := fun y => if y = x then some v else m y

/-- what comes back: a plain value, or a new object -/
inductive Spec | val (p : Value → Prop) | obj (S : OP)
def Spec.Is (h : Heap) : Spec → Value → Heap → Prop
  | .val p, v, _ => p v
  | .obj S, v, h' => ∃ a, v = .ref a ∧ h.get? a = none ∧ At h' a S
abbrev vi (n : Int) : Spec := .val (IsI n)
theorem Spec.Is.kp {h h' h'' : Heap} {S : Spec} {v : Value} (x : S.Is h v h') (k : KP h' h'') : S.Is h v h'' := by
  cases S with
  | val p => exact x
  | obj S => obtain ⟨a, e, n, q⟩ := x; exact ⟨a, e, n, q.kp k⟩
theorem none_kp {h h' : Heap} {a : Addr} (k : KP h h') (n : h'.get? a = none) : h.get? a = none := by
  cases e : h.get? a with
  | none => rfl
  | some o => rw [k _ _ e] at n; cases n
theorem Spec.Is.low {h g h' : Heap} {S : Spec} {v : Value} (x : S.Is h v h') (k : KP g h) : S.Is g v h' := by
  cases S with
  | val p => exact x
  | obj S => obtain ⟨a, e, n, q⟩ := x; exact ⟨a, e, none_kp k n, q⟩

section
variable {w : World} {A : Around} {h : Heap} {env : Env}
theorem se_item {value slice : Expr} {pos : Pos} {l : Addr} {ns : List Int} {k : Int} (hv : SE w A h (eval value env) (fun u _ => u = .ref l)) (hi : SE w A h (eval slice env) (fun v _ => IsI k v)) (hl : At h l (intsP ns))
    (h0 : 0 ≤ k) (h1 : k < ns.length) (hfit : k < 2 ^ 63)
    (hs : ∀ u, subscripted slice false (.ref l) (.int k u) = operate [.ref l, .int k u] (getItem (.ref l) (.int k u)) := by intro _; with_unfolding_all rfl) (hg : ∀ r, letTemporaryGo value (.ref l) r = pure () := by intro _; with_unfolding_all rfl) :
    SE w A h (eval (.Subscript value slice pos) env) (fun v _ => IsI (ns.getD k.toNat 0) v) := fun s Q E ks hQ => by
  refine Subscript_ (hv s _ _ ks fun v h1 tk1 k1 p1 => ?_)
  refine hi _ _ _ (ks.trans k1) fun v2 h2 tk2 k2 p2 => ?_
  subst p1
  obtain ⟨u, rfl⟩ := p2
  obtain ⟨vs, hl', hi'⟩ := (hl.kp (ks.trans (k1.trans k2))).ints
  exact PyProof.Rows.item_list_ints hl' hi' h0 ‹_› hfit (fun t => hQ _ h2 _ (k1.trans k2) ⟨t, rfl⟩) (hs u) hg

def fnAt (K : Frag) (f : Addr) : Bool := match K.lookup f with | some ⟨_, _, .func _, _⟩ => true | _ => false
theorem fn_of {K : Frag} {f : Addr} (e : fnAt K f = true) : ∃ o fd, K.lookup f = some o ∧ o.data = .func fd := by
  unfold fnAt at e
  split at e
  · rename_i h; exact ⟨_, _, h, rfl⟩
  · cases e
theorem se_call1 {fn : Str} {p pos : Pos} {e1 : Expr} {f : Addr} {P1 P : Value → Heap → Prop} (g : G w h) (hf : SE w A h (eval (.Name fn p) env) (fun u _ => u = .ref f)) (hk : fnAt (KK w) f = true)
    (h1 : SE w A h (eval e1 env) P1) (hc : ∀ v g, KP h g → P1 v g → SE w A g (call (.ref f) [v]) P) (hs : starEach [e1] env = [(false, eval e1 env)] := by rfl) :
    SE w A h (eval (.Call (.Name fn p) [e1] [] pos) env) P := fun s Q E ks hQ => by
  obtain ⟨o, fd, hl, hd⟩ := fn_of hk
  refine Call_Name (trees := backTo pos (starEach [e1] env)) rfl (hf s _ _ ks fun v h' tk k p => ?_)
  subst p
  refine callWith_def (o := o) hd (args_cons ?_ ?_) ?_
  · refine h1 _ _ _ (ks.trans k) fun v1 h1' tk1 k1 p1 => args_nil ?_
    refine ⟨g.k.keeps (ks.trans (k.trans k1)) _ _ hl, ?_⟩
    exact hc v1 h1' (ks.trans (k.trans k1)) p1 _ _ _ KP.rfl fun v2 h2 tk2 k2 p2 => hQ _ h2 _ ((k.trans k1).trans k2) p2
  · rw [hs]; rfl
  · rw [hs]; rfl
theorem se_call2 {fn : Str} {p pos : Pos} {e1 e2 : Expr} {f : Addr} {P1 P2 P : Value → Heap → Prop} (g : G w h) (hf : SE w A h (eval (.Name fn p) env) (fun u _ => u = .ref f)) (hk : fnAt (KK w) f = true)
    (h1 : SE w A h (eval e1 env) P1) (h2 : ∀ v1 g1, KP h g1 → P1 v1 g1 → SE w A g1 (eval e2 env) P2) (hc : ∀ v1 v2 g1 g2, KP h g1 → P1 v1 g1 → KP g1 g2 → P2 v2 g2 → SE w A g2 (call (.ref f) [v1, v2]) P)
    (hs : starEach [e1, e2] env = (false, eval e1 env) :: starEach [e2] env := by rfl) (hs2 : starEach [e2] env = [(false, eval e2 env)] := by rfl) :
    SE w A h (eval (.Call (.Name fn p) [e1, e2] [] pos) env) P := fun s Q E ks hQ => by
  obtain ⟨o, fd, hl, hd⟩ := fn_of hk
  refine Call_Name (trees := backTo pos (starEach [e1, e2] env)) rfl (hf s _ _ ks fun v h' tk k p => ?_)
  subst p
  refine callWith_def (o := o) hd (args_cons ?_ hs) hs
  refine h1 _ _ _ (ks.trans k) fun v1 g1 tk1 k1 p1 => args_cons ?_ hs2
  refine h2 v1 g1 (ks.trans (k.trans k1)) p1 _ _ _ KP.rfl fun v2 g2 tk2 k2 p2 => args_nil ?_
  refine ⟨g.k.keeps (ks.trans (k.trans (k1.trans k2))) _ _ hl, ?_⟩
  exact hc v1 v2 g1 g2 (ks.trans (k.trans k1)) p1 k2 p2 _ _ _ KP.rfl fun v3 h3 tk3 k3 p3 => hQ _ h3 _ ((k.trans (k1.trans k2)).trans k3) p3
theorem se_call3 {fn : Str} {p pos : Pos} {e1 e2 e3 : Expr} {f : Addr} {P1 P2 P3 P : Value → Heap → Prop} (g : G w h) (hf : SE w A h (eval (.Name fn p) env) (fun u _ => u = .ref f)) (hk : fnAt (KK w) f = true)
    (h1 : SE w A h (eval e1 env) P1) (h2 : ∀ v1 g1, KP h g1 → P1 v1 g1 → SE w A g1 (eval e2 env) P2) (h3 : ∀ v1 v2 g1 g2, KP h g1 → P1 v1 g1 → KP g1 g2 → P2 v2 g2 → SE w A g2 (eval e3 env) P3)
    (hc : ∀ v1 v2 v3 g1 g2 g3, KP h g1 → P1 v1 g1 → KP g1 g2 → P2 v2 g2 → KP g2 g3 → P3 v3 g3 → SE w A g3 (call (.ref f) [v1, v2, v3]) P)
    (hs : starEach [e1, e2, e3] env = (false, eval e1 env) :: starEach [e2, e3] env := by rfl) (hs2 : starEach [e2, e3] env = (false, eval e2 env) :: starEach [e3] env := by rfl) (hs3 : starEach [e3] env = [(false, eval e3 env)] := by rfl) :
    SE w A h (eval (.Call (.Name fn p) [e1, e2, e3] [] pos) env) P := fun s Q E ks hQ => by
  obtain ⟨o, fd, hl, hd⟩ := fn_of hk
  refine Call_Name (trees := backTo pos (starEach [e1, e2, e3] env)) rfl (hf s _ _ ks fun v h' tk k p => ?_)
  subst p
  refine callWith_def (o := o) hd (args_cons ?_ hs) hs
  refine h1 _ _ _ (ks.trans k) fun v1 g1 tk1 k1 p1 => args_cons ?_ hs2
  refine h2 v1 g1 (ks.trans (k.trans k1)) p1 _ _ _ KP.rfl fun v2 g2 tk2 k2 p2 => args_cons ?_ hs3
  refine h3 v1 v2 g1 g2 (ks.trans (k.trans k1)) p1 k2 p2 _ _ _ KP.rfl fun v3 g3 tk3 k3 p3 => args_nil ?_
  refine ⟨g.k.keeps (ks.trans (k.trans (k1.trans (k2.trans k3)))) _ _ hl, ?_⟩
  exact hc v1 v2 v3 g1 g2 g3 (ks.trans (k.trans k1)) p1 k2 p2 k3 p3 _ _ _ KP.rfl fun v4 h4 tk4 k4 p4 => hQ _ h4 _ ((k.trans (k1.trans (k2.trans k3))).trans k4) p4
theorem se_call4 {fn : Str} {p pos : Pos} {e1 e2 e3 e4 : Expr} {f : Addr} {P1 P2 P3 P4 P : Value → Heap → Prop} (g : G w h) (hf : SE w A h (eval (.Name fn p) env) (fun u _ => u = .ref f)) (hk : fnAt (KK w) f = true)
    (h1 : SE w A h (eval e1 env) P1) (h2 : SE w A h (eval e2 env) P2) (h3 : SE w A h (eval e3 env) P3) (h4 : SE w A h (eval e4 env) P4)
    (hc : ∀ v1 v2 v3 v4 g1 g2 g3 g4, KP h g1 → P1 v1 g1 → KP g1 g2 → P2 v2 g2 → KP g2 g3 → P3 v3 g3 → KP g3 g4 → P4 v4 g4 → SE w A g4 (call (.ref f) [v1, v2, v3, v4]) P)
    (hs : starEach [e1, e2, e3, e4] env = (false, eval e1 env) :: starEach [e2, e3, e4] env := by rfl) (hs2 : starEach [e2, e3, e4] env = (false, eval e2 env) :: starEach [e3, e4] env := by rfl)
    (hs3 : starEach [e3, e4] env = (false, eval e3 env) :: starEach [e4] env := by rfl) (hs4 : starEach [e4] env = [(false, eval e4 env)] := by rfl) :
    SE w A h (eval (.Call (.Name fn p) [e1, e2, e3, e4] [] pos) env) P := fun s Q E ks hQ => by
  obtain ⟨o, fd, hl, hd⟩ := fn_of hk
  refine Call_Name (trees := backTo pos (starEach [e1, e2, e3, e4] env)) rfl (hf s _ _ ks fun v h' tk k p => ?_)
  subst p
  refine callWith_def (o := o) hd (args_cons ?_ hs) hs
  refine h1 _ _ _ (ks.trans k) fun v1 g1 tk1 k1 p1 => args_cons ?_ hs2
  refine h2 _ _ _ (ks.trans (k.trans k1)) fun v2 g2 tk2 k2 p2 => args_cons ?_ hs3
  refine h3 _ _ _ (ks.trans (k.trans (k1.trans k2))) fun v3 g3 tk3 k3 p3 => args_cons ?_ hs4
  refine h4 _ _ _ (ks.trans (k.trans (k1.trans (k2.trans k3)))) fun v4 g4 tk4 k4 p4 => args_nil ?_
  refine ⟨g.k.keeps (ks.trans (k.trans (k1.trans (k2.trans (k3.trans k4))))) _ _ hl, ?_⟩
  exact hc v1 v2 v3 v4 g1 g2 g3 g4 (ks.trans (k.trans k1)) p1 k2 p2 k3 p3 k4 p4 _ _ _ KP.rfl fun v5 h5 tk5 k5 p5 => hQ _ h5 _ ((k.trans (k1.trans (k2.trans (k3.trans k4)))).trans k5) p5

/-- how a body hands back -/
def Ret (h₀ : Heap) (s : Shared) (P : Value → Heap → Prop) (fl : Flow) (s' : Shared) : Prop := ∃ v h' tk, fl = .ret v ∧ s' = { s with heap := h', toks := tk } ∧ KP h₀ h' ∧ P v h'
theorem enter {f : Addr} {args : List Value} {binds : List (Str × Value)} {name qual : Str} {params : Arguments} {body : List Stmt} {scope : Scope} {dV kV doc pm cdv ct oc : Value} {an od : Option Addr} {osl : Array (Option Value)} {k : Nat} {P : Value → Heap → Prop}
    (ho : (KK w).lookup f = some ⟨oc, od, .func (fnOf name qual params body scope dV kV doc pm an cdv ct), osl⟩) (g : G w h) (rm : Rm A (k + 1)) (hcd : codeIn (KK w) cdv qual = true)
    (hbind : ∀ s : Shared, KP h s.heap → BindsTo s (fnOf name qual params body scope dV kV doc pm an cdv ct) ⟨args, []⟩ binds)
    (hb : ∀ (s : Shared) (h₀ : Heap) (L : Addr) (E : Value → Shared → Prop), KP h h₀ → Hp h₀ s.heap [(L, nsP fun y => binds.reverse.lookup y)] → Rm (A.deeper (envOf qual scope L f cdv)) k →
      wpAny (MM w) (A.deeper (envOf qual scope L f cdv)) (execs body (envOf qual scope L f cdv)) (Ret h₀ s P) E s)
    (hloc : ∀ y ∈ binds, scope.names.lookup y.1 = some .local) 
    (hco : scope.isCoroutine = false := by rfl) (hgen : scope.isGenerator = false := by rfl) (hk : scope.kind = .function := by rfl) (hcell : ∀ x ∈ scope.names, x.2 ≠ .cell := by decide) :
    SE w A h (call (.ref f) args) P := fun s Q E ks hQ => by
  refine wpAny_call ?_
  obtain ⟨mg, mb, T⟩ := g.t
  have X := g.k.keeps ks
  refine codeAny_call_def (fd := fnOf name qual params body scope dV kV doc pm an cdv ct) (body := body) (binds := binds) (by have := rm.d; omega) (X _ _ ho) rfl (T.nolimit.keeps ks) (codeRec_of X hcd) rfl (hbind s ks) hcell hloc (fun h₁ hns hk₁ => ?_) hco hgen hk
  have hnew : s.heap.get? s.heap.objs.size = none := by
    cases e : s.heap.get? s.heap.objs.size with
    | none => rfl
    | some o => exact absurd (Heap.lt_size e) (Nat.lt_irrefl _)
  have H : Hp s.heap h₁ [(s.heap.objs.size, nsP fun y => binds.reverse.lookup y)] := Hp.add Hp.nil hk₁ hnew (at_ns hns)
  refine wpAny_mono (hb { s with heap := h₁, toks := s.toks + binds.length } s.heap s.heap.objs.size _ ks H (rm.deeper _)) (fun fl s' hl => ?_) fun _ _ y => y
  obtain ⟨v, h', tk, rfl, rfl, kk, p⟩ := hl
  exact hQ v h' tk kk p
/-- a def that has cells -/
theorem enterC {f : Addr} {args : List Value} {binds : List (Str × Value)} {name qual : Str} {params : Arguments} {body : List Stmt} {scope : Scope} {dV kV doc pm cdv ct oc : Value} {an od : Option Addr} {osl : Array (Option Value)} {k : Nat} {P : Value → Heap → Prop}
    (ho : (KK w).lookup f = some ⟨oc, od, .func (fnOf name qual params body scope dV kV doc pm an cdv ct), osl⟩) (g : G w h) (rm : Rm A (k + 1)) (hcd : codeIn (KK w) cdv qual = true)
    (hbind : ∀ s : Shared, KP h s.heap → BindsTo s (fnOf name qual params body scope dV kV doc pm an cdv ct) ⟨args, []⟩ binds)
    (hb : ∀ (s : Shared) (h₀ : Heap) (L : Addr) (E : Value → Shared → Prop), KP h h₀ →
      Hp h₀ s.heap ((L, nsP (bindL (envOfC qual scope L f cdv).kindOf binds fun _ => none)) :: (cellsFrom (L + 1) scope.names []).map fun p => (p.2, cellP (bindC (envOfC qual scope L f cdv).kindOf binds (fun _ => none) p.1))) →
      Rm (A.deeper (envOfC qual scope L f cdv)) k → wpAny (MM w) (A.deeper (envOfC qual scope L f cdv)) (execs body (envOfC qual scope L f cdv)) (Ret h₀ s P) E s)
    (hkind : (binds.all fun y => scope.names.lookup y.1 == some .local || scope.names.lookup y.1 == some .cell) = true) (hnd : ((cellsFrom 0 scope.names []).map (·.1)).Nodup)
    (hco : scope.isCoroutine = false := by rfl) (hgen : scope.isGenerator = false := by rfl) (hk : scope.kind = .function := by rfl) :
    SE w A h (call (.ref f) args) P := fun s Q E ks hQ => by
  refine wpAny_call ?_
  obtain ⟨mg, mb, T⟩ := g.t
  have X := g.k.keeps ks
  refine codeAny_call_function (fd := fnOf name qual params body scope dV kV doc pm an cdv ct) (body := body) (by have := rm.d; omega) (X _ _ ho) rfl hco hgen rfl (codeRec_of X hcd) (hbind s ks _ _ _ _ ?_)
  refine wpAny_newFunctionEnv_cells hk (kindsX hkind _) fun env' he s' x => ?_
  subst he
  refine ⟨(T.nolimit.keeps ks).keeps x.toInCall.keep, codeAny_func ?_⟩
  obtain ⟨h₁, tk, rfl⟩ := x.toInCall.same
  have hnew : ∀ a, s.heap.objs.size ≤ a → s.heap.get? a = none := fun a ha => by
    cases e : s.heap.get? a with
    | none => rfl
    | some o => exact absurd (Heap.lt_size e) (Nat.not_lt.mpr ha)
  have nd : ((cellsFrom (s.heap.objs.size + 1) scope.names []).map (·.1)).Nodup := cellsFrom_names scope.names 0 (s.heap.objs.size + 1) [] [] rfl ▸ hnd
  have H : Hp s.heap h₁ ((s.heap.objs.size, nsP (bindL (envOfC qual scope s.heap.objs.size f cdv).kindOf binds fun _ => none)) :: (cellsFrom (s.heap.objs.size + 1) scope.names []).map fun p => (p.2, cellP (bindC (envOfC qual scope s.heap.objs.size f cdv).kindOf binds (fun _ => none) p.1))) := by
    refine ⟨x.toInCall.keep, fun p hp => ?_, fun p hp => ?_, List.pairwise_cons.mpr ⟨fun p hp => ?_, ?_⟩⟩
    · rcases List.mem_cons.mp hp with rfl | hp
      · exact at_ns x.toInCall.ns
      · obtain ⟨q, hq, rfl⟩ := List.mem_map.mp hp
        exact x.cell q.1 q.2 (lookup_of_mem_nodup nd hq)
    · rcases List.mem_cons.mp hp with rfl | hp
      · exact hnew _ (Nat.le_refl _)
      · obtain ⟨q, hq, rfl⟩ := List.mem_map.mp hp
        exact hnew _ (Nat.le_of_lt (x.above q.1 q.2 hq))
    · obtain ⟨q, hq, rfl⟩ := List.mem_map.mp hp
      exact Nat.ne_of_lt (x.above q.1 q.2 hq)
    · exact List.pairwise_map.mpr x.apart
  refine wpAny_mono (hb { s with heap := h₁, toks := tk } s.heap s.heap.objs.size _ ks H (rm.deeper _)) (fun fl s' hl => ?_) fun _ _ y => y
  obtain ⟨v, h', tk, rfl, rfl, kk, p⟩ := hl
  exact hQ v h' tk kk p
end

section
variable {w : World} {A : Around} {env : Env} {h₀ : Heap} {s : Shared} {E : Value → Shared → Prop} {m : Str → Option Value} {L : Addr} {r : Own}
theorem ex_store {x : Str} {v : Value} {Q : Unit → Shared → Prop} (H : Hp h₀ s.heap ((L, nsP m) :: r)) (hQ : ∀ h' tk, Hp h₀ h' ((L, nsP (upd m x v)) :: r) → Q () { s with heap := h', toks := tk })
    (hL : env.locals = L := by rfl) (hl : env.kindOf x = some .local := by rfl) (hp : (env.scope.kind == .class || (env.scope.kind == .module && env.locals != env.globals)) = false := by rfl) :
    wpAny (MM w) A (storeName env x v) Q E s := by
  subst hL
  exact wpAny_storeName_local hl H.here.ns (fun h' hn hs => hQ h' _ (H.set hs (at_ns hn))) hp
theorem ex_storeC {x : Str} {v : Value} {v₀ : Option Value} {c : Addr} {Q : Unit → Shared → Prop} (H : Hp h₀ s.heap ((c, cellP v₀) :: r)) (hQ : ∀ h' tk, Hp h₀ h' ((c, cellP (some v)) :: r) → Q () { s with heap := h', toks := tk })
    (hc : env.cells.lookup x = some c := by rfl) (hl : env.kindOf x = some .cell := by rfl) (hk : env.scope.kind = .function := by rfl) :
    wpAny (MM w) A (storeName env x v) Q E s := wpAny_storeName_cell hk hl hc H.here.cell (fun h' hn hs => hQ h' _ (H.set hs hn))
/-- x = e, a plain value or a new object, x a local -/
theorem ex_assign {x : Str} {pos' pos : Pos} {value : Expr} {P : Value → Prop} {Q : Flow → Shared → Prop} (H : Hp h₀ s.heap ((L, nsP m) :: r)) (hv : SE w A s.heap (eval value env) (fun v _ => P v))
    (hQ : ∀ v h' tk, P v → Hp h₀ h' ((L, nsP (upd m x v)) :: r) → Q .next { s with heap := h', toks := tk })
    (hL : env.locals = L := by rfl) (hl : env.kindOf x = some .local := by rfl) (hp : (env.scope.kind == .class || (env.scope.kind == .module && env.locals != env.globals)) = false := by rfl)
    (hs : swapsWith value (some (.Name x pos')) pos.line env = pure false := by rfl) : wpAny (MM w) A (exec (.Assign [.Name x pos'] value pos) env) Q E s :=
  wpAny_Assign_Name (hv.go fun v h' tk k p => ex_store (H.kp k) (fun h'' tk' H' => hQ v h'' tk' p H') hL hl hp) hs
theorem ex_assignN {x : Str} {pos' pos : Pos} {value : Expr} {S : OP} {Q : Flow → Shared → Prop} (H : Hp h₀ s.heap ((L, nsP m) :: r)) (hv : SE w A s.heap (eval value env) (Spec.Is s.heap (.obj S)))
    (hQ : ∀ a h' tk, Hp h₀ h' ((L, nsP (upd m x (.ref a))) :: (a, S) :: r) → Q .next { s with heap := h', toks := tk })
    (hL : env.locals = L := by rfl) (hl : env.kindOf x = some .local := by rfl) (hp : (env.scope.kind == .class || (env.scope.kind == .module && env.locals != env.globals)) = false := by rfl)
    (hs : swapsWith value (some (.Name x pos')) pos.line env = pure false := by rfl) : wpAny (MM w) A (exec (.Assign [.Name x pos'] value pos) env) Q E s := by
  refine wpAny_Assign_Name (hv.go fun v h' tk k p => ?_) hs
  obtain ⟨a, rfl, hn, q⟩ := p
  exact ex_store (H.add k hn q).swap (fun h'' tk' H' => hQ a h'' tk' H') hL hl hp
end
end Mine
end
section
open PySem PySem.W PyProof.Rows PySem.Calls
set_option maxRecDepth 100000
namespace Mine
variable {w : World} {A : Around} {h : Heap}
theorem ret_of {h₀ : Heap} {s : Shared} {P : Value → Heap → Prop} {env : Env} {e : Expr} {pos : Pos} {E : Value → Shared → Prop} {rest : List Stmt} {own : Own} (H : Hp h₀ s.heap own) (x : SE w A s.heap (eval e env) P) :
    wpAny (MM w) A (execs (.Return (some e) pos :: rest) env) (Ret h₀ s P) E s :=
  wpAny_execs_cons (wpAny_Return_some (x.go fun v h' tk kk p => ⟨v, h', tk, rfl, rfl, H.keep.trans kk, p⟩))
theorem add_c {k : Nat} {a b : Int} {t u : Tok} (g : G w h) (r : Rm A (k + 1)) : SE w A h (call (.ref 77) [.int a t, .int b u]) (fun v _ => IsI (a + b) v) := by
  refine enter (binds := [(Str.ofString "a", .int a t), (Str.ofString "b", .int b u)]) (by with_unfolding_all rfl) g r (by with_unfolding_all rfl) (fun s _ => BindsTo.of_eq rfl) ?_ (locs rfl)
  intro s h₀ L E k0 H r1
  exact ret_of H (se_add (se_int (se_local H.here.ns rfl)) (se_int (se_local H.here.ns rfl)))
theorem sub_c {k : Nat} {a b : Int} {t u : Tok} (g : G w h) (r : Rm A (k + 1)) : SE w A h (call (.ref 91) [.int a t, .int b u]) (fun v _ => IsI (a - b) v) := by
  refine enter (binds := [(Str.ofString "a", .int a t), (Str.ofString "b", .int b u)]) (by with_unfolding_all rfl) g r (by with_unfolding_all rfl) (fun s _ => BindsTo.of_eq rfl) ?_ (locs rfl)
  intro s h₀ L E k0 H r1
  exact ret_of H (se_sub (se_int (se_local H.here.ns rfl)) (se_int (se_local H.here.ns rfl)))
theorem mul_c {k : Nat} {a b : Int} {t u : Tok} (g : G w h) (r : Rm A (k + 1)) (hm : IntMulOk a b) : SE w A h (call (.ref 84) [.int a t, .int b u]) (fun v _ => IsI (a * b) v) := by
  refine enter (binds := [(Str.ofString "a", .int a t), (Str.ofString "b", .int b u)]) (by with_unfolding_all rfl) g r (by with_unfolding_all rfl) (fun s _ => BindsTo.of_eq rfl) ?_ (locs rfl)
  intro s h₀ L E k0 H r1
  exact ret_of H (se_mul (se_int (se_local H.here.ns rfl)) (se_int (se_local H.here.ns rfl)) hm)
theorem xor_c {k : Nat} {a b : Int} {t u : Tok} (g : G w h) (r : Rm A (k + 1)) : SE w A h (call (.ref 98) [.int a t, .int b u]) (fun v _ => IsI (Builtin.bitXor a b) v) := by
  refine enter (binds := [(Str.ofString "a", .int a t), (Str.ofString "b", .int b u)]) (by with_unfolding_all rfl) g r (by with_unfolding_all rfl) (fun s _ => BindsTo.of_eq rfl) ?_ (locs rfl)
  intro s h₀ L E k0 H r1
  exact ret_of H (se_xor (se_int (se_local H.here.ns rfl)) (se_int (se_local H.here.ns rfl)))
theorem ifmt_c {k : Nat} {a : Int} {t : Tok} (g : G w h) (r : Rm A (k + 1)) : SE w A h (call (.ref 21) [.int a t]) (fun v _ => IsI (Builtin.bitAnd a 61440) v) := by
  refine enter (binds := [(Str.ofString "mode", .int a t)]) (by with_unfolding_all rfl) g r (by with_unfolding_all rfl) (fun s _ => BindsTo.of_eq rfl) ?_ (locs rfl)
  intro s h₀ L E k0 H r1
  exact ret_of H (se_and (se_int (se_local H.here.ns rfl)) se_const)
def oddF (n : Int) : Int := (n + n / 2 + n / 4 + n / 8) % 2
theorem odd_c {k : Nat} {a : Int} {t : Tok} (g : G w h) (r : Rm A (k + 1)) : SE w A h (call (.ref 134) [.int a t]) (fun v _ => IsI (oddF a) v) := by
  refine enter (binds := [(Str.ofString "number", .int a t)]) (by with_unfolding_all rfl) g r (by with_unfolding_all rfl) (fun s _ => BindsTo.of_eq rfl) ?_ (locs rfl)
  intro s h₀ L E k0 H r1
  exact ret_of H (se_mod (se_add (se_add (se_add (se_int (se_local H.here.ns rfl)) (se_div (se_int (se_local H.here.ns rfl)) se_const (by decide) (by decide))) (se_div (se_int (se_local H.here.ns rfl)) se_const (by decide) (by decide))) (se_div (se_int (se_local H.here.ns rfl)) se_const (by decide) (by decide))) se_const (by decide))
end Mine
end
section
open PySem PySem.W PyProof.Rows PySem.Calls
set_option maxRecDepth 100000
set_option linter.unusedVariables false
set_option linter.unnecessarySimpa false
namespace Mine
variable {w : World} {A : Around} {env : Env} {h₀ h : Heap} {s : Shared} {E : Value → Shared → Prop}
def ritP (x left : Int) : OP := fun o => o = { cls := .type "range_iterator", dict := none, data := .fields #[rawInt x, rawInt left, rawInt 1], slots := #[] }
theorem At.rit {I : Addr} {x l : Int} (q : At h I (ritP x l)) : IsRangeIter h I x l 1 := by obtain ⟨o, e, p⟩ := q; subst p; exact e
/-- range(n), made -/
def rangeP (a b : Int) : OP := fun o => ∃ t u v, o = { cls := .type "range", dict := none, data := .fields #[.int a t, .int b u, .int 1 v], slots := #[] }
theorem fresh_size (h : Heap) : h.get? h.objs.size = none := by
  cases e : h.get? h.objs.size with
  | none => rfl
  | some o => exact absurd (Heap.lt_size e) (Nat.lt_irrefl _)
theorem se_range {p pos : Pos} {e : Expr} {n : Int} (g : G w h) (he : SE w A h (eval e env) (fun v _ => IsI n v)) (hg : env.globals = mainGlobals := by rfl) (hb : env.builtins = builtinsNs := by rfl)
    (hk : env.scope.kind = .function := by rfl) (hx : env.kindOf (Str.ofString "range") = some .globalImplicit := by rfl) (hs : starEach [e] env = [(false, eval e env)] := by rfl) :
    SE w A h (eval (.Call (.Name (Str.ofString "range") p) [e] [] pos) env) (fun v h' => ∃ r, v = .ref r ∧ At h' r (rangeP 0 n)) := fun s Q E ks hQ => by
  refine Call_Name (trees := backTo pos (starEach [e] env)) rfl (se_builtin (v := .type "range") g (by with_unfolding_all rfl) (by decide +kernel) (by decide) hg hb hk hx (by decide) s _ _ ks fun v h' tk k p => ?_)
  subst p
  refine callWith_type1 (args_cons ?_ ?_) ?_ ?_
  · refine he _ _ _ (ks.trans k) fun v1 h1 tk1 k1 p1 => args_nil ?_
    obtain ⟨t, rfl⟩ := p1
    refine call_range_1 (hQ _ _ _ ((k.trans k1).trans (KP.push _)) ⟨_, rfl, _, IsRange.new .., _, _, _, rfl⟩)
  · rw [hs]; rfl
  · rw [hs]; rfl
  · rfl
theorem se_range2 {p pos : Pos} {e1 e2 : Expr} {a b : Int} (g : G w h) (h1 : SE w A h (eval e1 env) (fun v _ => IsI a v)) (h2 : SE w A h (eval e2 env) (fun v _ => IsI b v)) (hg : env.globals = mainGlobals := by rfl) (hb : env.builtins = builtinsNs := by rfl)
    (hk : env.scope.kind = .function := by rfl) (hx : env.kindOf (Str.ofString "range") = some .globalImplicit := by rfl)
    (hs : starEach [e1, e2] env = (false, eval e1 env) :: starEach [e2] env := by rfl) (hs2 : starEach [e2] env = [(false, eval e2 env)] := by rfl) :
    SE w A h (eval (.Call (.Name (Str.ofString "range") p) [e1, e2] [] pos) env) (fun v h' => ∃ r, v = .ref r ∧ At h' r (rangeP a b)) := fun s Q E ks hQ => by
  refine Call_Name (trees := backTo pos (starEach [e1, e2] env)) rfl (se_builtin (v := .type "range") g (by with_unfolding_all rfl) (by decide +kernel) (by decide) hg hb hk hx (by decide) s _ _ ks fun v h' tk k p => ?_)
  subst p
  refine callWith_type1 (args_cons ?_ hs) hs ?_
  · refine h1 _ _ _ (ks.trans k) fun v1 g1 tk1 k1 p1 => args_cons ?_ hs2
    refine h2 _ _ _ (ks.trans (k.trans k1)) fun v2 g2 tk2 k2 p2 => args_nil ?_
    obtain ⟨t, rfl⟩ := p1
    obtain ⟨u, rfl⟩ := p2
    refine call_range_2 (hQ _ _ _ ((k.trans (k1.trans k2)).trans (KP.push _)) ⟨_, rfl, _, IsRange.new .., _, _, _, rfl⟩)
  · rw [hs2]; rfl
/-- what a loop's turn hands on -/
def Turn (h₀ : Heap) (s : Shared) (J : Own → Prop) (f : Flow) (s' : Shared) : Prop := (f = .next ∨ f = .cont) ∧ ∃ h' tk own, s' = { s with heap := h', toks := tk } ∧ J own ∧ Hp h₀ h' own
theorem ex_forRange {x : Str} {px pos : Pos} {iter : Expr} {body : List Stmt} {n : Nat} {own : Own} {Q : Flow → Shared → Prop} (J : Nat → Own → Prop) (r : Rm A 0) (hn : n < 2 ^ 61)
    (H : Hp h₀ s.heap own) (hJ : J 0 own) (hiter : SE w A s.heap (eval iter env) (fun v h' => ∃ r, v = .ref r ∧ At h' r (rangeP 0 (n : Int))))
    (turn : ∀ (i : Nat) (t : Tok) (s₁ : Shared) (own r : Own) E, i < n → J i own → Hp h₀ s₁.heap (own ++ r) →
      wpAny (MM w) A (assign (.Name x px) env (.int i t)) (fun _ s₂ => wpAny (MM w) A (execs body env) (Turn h₀ s₁ fun o => ∃ own', o = own' ++ r ∧ J (i + 1) own') E s₂) E s₁)
    (fin : ∀ h' tk own', J n own' → Hp h₀ h' own' → Q .next { s with heap := h', toks := tk })
    (hs : ∀ x, foldedSetIterable iter env x = pure x := by intro _; rfl) :
    wpAny (MM w) A (exec (.For (.Name x px) iter body [] pos) env) Q E s := by
  refine wpAny_For (hiter.go fun v h1 tk1 k1 p1 => ?_) hs
  obtain ⟨ra, rfl, o, ho, t, u, v, rfl⟩ := p1
  refine wpAny_pyIter_range ho (small_one (by decide) (by decide) (by omega) (by omega)) ?_
  have hsz : Builtin.Range.rangeSize 0 (n : Int) 1 = (n : Int) := by rw [rangeSize_one]; split <;> omega
  rw [hsz]
  have H1 : Hp h₀ (h1.push { cls := .type "range_iterator", data := .fields #[rawInt 0, rawInt (n : Int), rawInt 1] }) ((h1.objs.size, ritP 0 (n : Int)) :: own) :=
    (H.kp k1).add (KP.push _) (fresh_size h1) ⟨_, Heap.get?_push_size _ rfl, rfl⟩
  refine codeAny_forLoop_any (fun k s' => ∃ i h' tk own', s' = { s with heap := h', toks := tk } ∧ i ≤ n ∧ k = n + 1 - i ∧ J i own' ∧ Hp h₀ h' ((h1.objs.size, ritP (i : Int) ((n : Int) - i)) :: own')) ?_ (n + 1)
    ⟨0, _, _, own, rfl, Nat.zero_le _, rfl, hJ, by simpa using H1⟩
  rintro k s' ⟨i, h', tk, own', rfl, hi, rfl, hJ', H'⟩
  by_cases hlt : i < n
  · refine wpAny_pyNext_range_item H'.here.rit (by omega) fun h2 hit2 hs2 => ?_
    have H2 : Hp h₀ h2 ((h1.objs.size, ritP ((i + 1 : Nat) : Int) ((n : Int) - ((i + 1 : Nat) : Int))) :: own') := H'.set hs2 ⟨_, hit2, by
      have e1 : ((i + 1 : Nat) : Int) = (i : Int) + 1 := by push_cast; rfl
      have e2 : (n : Int) - ((i + 1 : Nat) : Int) = (n : Int) - i - 1 := by push_cast; omega
      rw [e1, ← e1, e2, e1]; rfl⟩
    refine wpAny_pure ?_
    have H3 : Hp h₀ h2 (own' ++ [(h1.objs.size, ritP ((i + 1 : Nat) : Int) ((n : Int) - ((i + 1 : Nat) : Int)))]) := H2.perm (by
      have := List.perm_append_comm (l₁ := [(h1.objs.size, ritP ((i + 1 : Nat) : Int) ((n : Int) - ((i + 1 : Nat) : Int)))]) (l₂ := own')
      simpa using this)
    refine wpAny_mono (turn i _ _ own' _ _ hlt hJ' H3) (fun _ s₂ h₂ => wpAny_mono h₂ (fun f s₃ h₃ => ?_) fun _ _ e => e) fun _ _ e => e
    obtain ⟨hf, h3, tk3, own3, rfl, ⟨own4, rfl, hJ4⟩, H4⟩ := h₃
    have fin : ∃ m, m < n + 1 - i ∧ ∃ i h' tk own', ({ s with heap := h3, toks := tk3 } : Shared) = { s with heap := h', toks := tk } ∧ i ≤ n ∧ m = n + 1 - i ∧ J i own' ∧ Hp h₀ h' ((h1.objs.size, ritP (i : Int) ((n : Int) - i)) :: own') :=
      ⟨n + 1 - (i + 1), by omega, i + 1, h3, tk3, own4, rfl, hlt, rfl, hJ4, H4.perm (by
        have := List.perm_append_comm (l₁ := own4) (l₂ := [(h1.objs.size, ritP ((i + 1 : Nat) : Int) ((n : Int) - ((i + 1 : Nat) : Int)))])
        simpa using this)⟩
    rcases hf with rfl | rfl
    · exact fin
    · exact fin
  · have hin : i = n := by omega
    subst hin
    refine wpAny_pyNext_range_end r.hh H'.here.rit (by omega) fun h2 he2 => wpAny_execs_nil ?_
    refine fin h2 _ own' hJ' ?_
    have Ht := H'.tail
    refine ⟨fun b o e => he2 b o (fun q => ?_) (H'.keep b o e), fun p m => ?_, Ht.new, Ht.apart⟩
    · have := H'.new _ (.head _); rw [q] at e; rw [e] at this; cases this
    · obtain ⟨o, e, q⟩ := Ht.has p m
      exact ⟨o, he2 _ _ (fun x => (List.pairwise_cons.mp H'.apart).1 p m x.symm) e, q⟩
end Mine
end
section
open PySem PySem.W PyProof.Rows PySem.Calls
set_option maxRecDepth 100000
set_option linter.unusedVariables false
namespace Mine
variable {w : World} {A : Around} {env : Env} {h₀ h : Heap} {s : Shared} {E : Value → Shared → Prop}
/-- expressions that are these ints -/
inductive SEs (w : World) (A : Around) (h : Heap) (env : Env) : List Expr → List Int → Prop
  | nil : SEs w A h env [] []
  | cons {e : Expr} {es : List Expr} {n : Int} {ns : List Int} : SE w A h (eval e env) (fun v _ => IsI n v) → starEach (e :: es) env = (false, eval e env) :: starEach es env → SEs w A h env es ns → SEs w A h env (e :: es) (n :: ns)
theorem ses_go {es : List Expr} {ns : List Int} {pos : Pos} (x : SEs w A h env es ns) : SE w A h (spliced (backTo pos (starEach es env))) (fun vs _ => IntsAre vs ns) := by
  induction x with
  | nil => exact fun s Q E ks hQ => args_nil (hQ _ s.heap s.toks KP.rfl IntsAre.nil)
  | cons he hs _ ih =>
    intro s Q E ks hQ
    refine args_cons (he s _ _ ks fun v h1 tk1 k1 p1 => ?_) hs
    refine ih _ _ _ (ks.trans k1) fun vs h2 tk2 k2 p2 => ?_
    obtain ⟨t, rfl⟩ := p1
    exact hQ _ h2 tk2 (k1.trans k2) (IntsAre.cons _ t p2)
theorem ints_len {vs : List Value} {ns : List Int} (x : IntsAre vs ns) : vs.length = ns.length := by
  induction x with
  | nil => rfl
  | cons n t _ ih => simp [ih]
theorem ints_app {vs : List Value} {ns : List Int} (x : IntsAre vs ns) (n : Int) (t : Tok) : IntsAre (vs ++ [.int n t]) (ns ++ [n]) := by
  induction x with
  | nil => exact .cons n t .nil
  | cons k u _ ih => exact .cons k u ih
theorem new_list {vs : List Value} {Q : Value → Shared → Prop} (hsz : vs.length ≤ sizeLine) (hQ : ∀ a h' tk, KP s.heap h' → s.heap.get? a = none → At h' a (listP vs) → Q (.ref a) { s with heap := h', toks := tk }) : wpAny (MM w) A (newList vs) Q E s :=
  wpAny_newList (hQ _ _ _ (KP.push _) (fresh_size _) ⟨_, Heap.get?_push_size _ rfl, _, rfl⟩) hsz
theorem se_listI {es : List Expr} {ns : List Int} {pos : Pos} (x : SEs w A h env es ns) (hn : ns.length ≤ 1000) : SE w A h (eval (.List es pos) env) (Spec.Is h (.obj (intsP ns))) := fun s Q E ks hQ => by
  refine List_ (ses_go x s _ _ ks fun vs h1 tk1 k1 p1 => ?_)
  refine new_list (by rw [ints_len p1, sizeLine_eq]; omega) fun a h2 tk2 k2 hn hA => ?_
  obtain ⟨o, e, q⟩ := hA
  exact hQ _ h2 _ (k1.trans k2) ⟨a, rfl, none_kp (ks.trans k1) hn, o, e, vs, q, p1⟩
theorem se_list0 {pos : Pos} : SE w A h (eval (.List [] pos) env) (Spec.Is h (.obj (listP []))) := fun s Q E ks hQ => by
  refine List_ (args_nil ?_)
  exact new_list (by decide) fun a h2 tk2 k2 hn hA => hQ _ h2 _ k2 ⟨a, rfl, none_kp ks hn, hA⟩
theorem plainL_of {D : Addr} {vs : List Value} (x : At h D (listP vs)) : PlainL h D vs.toArray := by
  obtain ⟨o, e, n, rfl⟩ := x
  exact ⟨_, n, e, rfl, rfl, rfl⟩
theorem ex_append {x : Str} {m : Str → Option Value} {L D : Addr} {vs : List Value} {r : Own} {elt : Expr} {p apos pos spos : Pos} {P : Value → Prop} {Q : Flow → Shared → Prop}
    (H : Hp h₀ s.heap ((L, nsP m) :: (D, listP vs) :: r)) (hx : m x = some (.ref D)) (hlen : vs.length ≤ 1000) (he : SE w A s.heap (eval elt env) (fun v _ => P v))
    (hQ : ∀ v h' tk, P v → Hp h₀ h' ((L, nsP m) :: (D, listP (vs ++ [v])) :: r) → Q .next { s with heap := h', toks := tk })
    (hL : env.locals = L := by rfl) (hk : env.scope.kind = .function := by rfl) (hl : env.kindOf x = some .local := by rfl) (hd : (x == ("__debug__" : Str)) = false := by decide)
    (hline : (apos.endLine == pos.line) = true := by rfl) (hs : starEach [elt] env = [(false, eval elt env)] := by rfl)
    (hi : interactive env = false := by rfl) (hsw : swapsWith (.Call (.Attribute (.Name x p) "append" apos) [elt] [] pos) none spos.line env = pure false := by rfl) 
    (hbase : attributeBase (.Name x p) "append" env (eval (.Name x p) env) = eval (.Name x p) env := by rfl) :
    wpAny (MM w) A (exec (.Expr (.Call (.Attribute (.Name x p) "append" apos) [elt] [] pos) spos) env) Q E s := by
  subst hL
  refine wpAny_Expr (wpAny_Call_append hbase ?_ hline (by rw [hs]; rfl) ?_) hi hsw
  · rw [hs]; rfl
  · refine (se_local H.here.ns hx hk hl hd).go fun v h1 tk1 k1 p1 => ?_
    subst p1
    have H1 := H.kp k1
    refine ⟨D, vs.toArray, rfl, plainL_of H1.tail.here, ?_⟩
    refine (he.kp k1).go fun v h2 tk2 k2 p2 => ?_
    have H2 := (H1.kp k2).swap
    refine wpAny_list_append_plain H2.here.list (fun h3 hp3 hs3 => ?_) (by rw [List.size_toArray, sizeLine_eq]; omega)
    exact hQ v h3 _ p2 (H2.set hs3 (at_list (by simpa using hp3))).swap
end Mine
end
section
open PySem PySem.W PyProof.Rows PySem.Calls
set_option maxRecDepth 100000
set_option linter.unusedVariables false
namespace Mine
variable {w : World} {A : Around} {h : Heap}
def crossF (row : List Int) (width : Int) (i : Nat) : Int := if ((i : Int) / width % 2 == 0) = true then row.getD (i : Int).toNat 0 + row.getD ((i : Int) + width).toNat 0 else row.getD ((i : Int) - width).toNat 0 - row.getD (i : Int).toNat 0
def crossL (row : List Int) (width : Int) : List Int := (List.range 16).map (crossF row width)
theorem cross_c {k : Nat} {l : Addr} {row : List Int} {width : Int} {u : Tok} (g : G w h) (r : Rm A (k + 2)) (hl : At h l (intsP row)) (hlen : row.length = 16) (hw : width = 1 ∨ width = 2 ∨ width = 4 ∨ width = 8) :
    SE w A h (call (.ref 120) [.ref l, .int width u]) (Spec.Is h (.obj (intsP (crossL row width)))) := by
  refine enter (binds := [(Str.ofString "row", .ref l), (Str.ofString "width", .int width u)]) (by with_unfolding_all rfl) g r (by with_unfolding_all rfl) (fun s _ => BindsTo.of_eq rfl) ?_ (locs rfl)
  intro s h₀ L E k0 H r1
  have g0 : G w h₀ := g.kp k0
  refine wpAny_execs_cons (ex_assignN H se_list0 fun D h1 tk1 H1 => ?_)
  refine wpAny_execs_cons (ex_forRange (n := 16) (fun i own => ∃ m vs, own = [(L, nsP m), (D, listP vs)] ∧ IntsAre vs ((List.range i).map (crossF row width)) ∧ m (Str.ofString "row") = some (.ref l) ∧ m (Str.ofString "width") = some (.int width u) ∧ m (Str.ofString "crossed") = some (.ref D))
    (r1.less (Nat.zero_le _)) (by decide) H1 ⟨_, _, rfl, IntsAre.nil, rfl, rfl, rfl⟩ (se_range (g0.kp H1.keep) se_const) ?_ ?_)
  · rintro i t s₁ own ro E hi ⟨m, vs, rfl, hvs, hrow, hwid, hcr⟩ H2
    refine wpAny_assign_Name (ex_store H2 fun h2 tk2 H3 => ?_)
    have g2 : G w h2 := g0.kp H3.keep
    have hl2 : At h2 l (intsP row) := hl.kp (k0.trans H3.keep)
    have hvl : vs.length ≤ 1000 := by have := ints_len hvs; simp at this; omega
    have done : ∀ {n : Int} {v : Value} {h3 : Heap} {tk3 : Nat}, IsI n v → n = crossF row width i → Hp h₀ h3 ((L, nsP (upd m (Str.ofString "place") (.int i t))) :: (D, listP (vs ++ [v])) :: ro) →
        Turn h₀ s₁ (fun o => ∃ own', o = own' ++ ro ∧ ∃ m vs, own' = [(L, nsP m), (D, listP vs)] ∧ IntsAre vs ((List.range (i + 1)).map (crossF row width)) ∧ m (Str.ofString "row") = some (.ref l) ∧ m (Str.ofString "width") = some (.int width u) ∧ m (Str.ofString "crossed") = some (.ref D)) .next { s₁ with heap := h3, toks := tk3 } := by
      intro n v h3 tk3 hv hn H4
      obtain ⟨t', rfl⟩ := hv
      refine ⟨.inl rfl, h3, tk3, _, rfl, ⟨[_, _], rfl, _, _, rfl, ?_, by exact hrow, by exact hwid, by exact hcr⟩, H4⟩
      rw [List.range_succ, List.map_append, List.map_singleton, ← hn]
      exact ints_app hvs _ _
    refine wpAny_execs_cons (wpAny_If ((st_eq (se_mod (se_div (se_int (se_local H3.here.ns rfl)) (se_int (se_local H3.here.ns (by exact hwid))) (by omega) (by omega)) se_const (by decide)) se_const).go fun b h3 tk3 k3 p3 => ?_))
    subst p3
    have H4 := H3.kp k3
    have g3 := g2.kp k3
    have hl3 := hl2.kp k3
    by_cases hc : ((i : Int) / width % 2 == 0) = true
    · rw [if_pos hc]
      refine wpAny_execs_cons (ex_append (P := IsI (crossF row width i)) H4 (by exact hcr) hvl (se_call2 g3 (se_global g3 (by with_unfolding_all rfl)) (by with_unfolding_all rfl)
        (se_item (se_local H4.here.ns (by exact hrow)) (se_int (se_local H4.here.ns rfl)) hl3 (by omega) (by rw [hlen]; omega) (by omega))
        (fun v1 g1 k1 p1 => (se_item (k := (i : Int) + width) (se_local H4.here.ns (by exact hrow)) (se_add (se_int (se_local H4.here.ns rfl)) (se_int (se_local H4.here.ns (by exact hwid)))) hl3 (by omega) (by rw [hlen]; simp at hc; rcases hw with rfl | rfl | rfl | rfl <;> omega) (by rcases hw with rfl | rfl | rfl | rfl <;> omega)).kp k1)
        (fun v1 v2 g1 g4 k1 p1 k2 p2 => ?_)) fun v h5 tk5 hv H5 => wpAny_execs_nil (wpAny_execs_nil (done hv rfl H5)))
      · obtain ⟨t1, rfl⟩ := p1
        obtain ⟨t2, rfl⟩ := p2
        refine (add_c (g3.kp (k1.trans k2)) r1).mono fun v _ _ q => ?_
        unfold crossF; rw [if_pos hc]; exact q
    · rw [if_neg hc]
      refine wpAny_execs_cons (ex_append (P := IsI (crossF row width i)) H4 (by exact hcr) hvl (se_call2 g3 (se_global g3 (by with_unfolding_all rfl)) (by with_unfolding_all rfl)
        (se_item (k := (i : Int) - width) (se_local H4.here.ns (by exact hrow)) (se_sub (se_int (se_local H4.here.ns rfl)) (se_int (se_local H4.here.ns (by exact hwid)))) hl3 (by simp at hc; rcases hw with rfl | rfl | rfl | rfl <;> omega) (by rw [hlen]; omega) (by omega))
        (fun v1 g1 k1 p1 => (se_item (se_local H4.here.ns (by exact hrow)) (se_int (se_local H4.here.ns rfl)) hl3 (by omega) (by rw [hlen]; omega) (by omega)).kp k1)
        (fun v1 v2 g1 g4 k1 p1 k2 p2 => ?_)) fun v h5 tk5 hv H5 => wpAny_execs_nil (wpAny_execs_nil (done hv rfl H5)))
      · obtain ⟨t1, rfl⟩ := p1
        obtain ⟨t2, rfl⟩ := p2
        refine (sub_c (g3.kp (k1.trans k2)) r1).mono fun v _ _ q => ?_
        unfold crossF; rw [if_neg hc]; exact q
  · rintro h2 tk2 own ⟨m, vs, rfl, hvs, hrow, hwid, hcr⟩ H2
    refine wpAny_execs_cons (wpAny_Return_some ((se_local H2.here.ns hcr).go fun v h3 tk3 k3 p3 => ⟨v, h3, tk3, rfl, rfl, H2.keep.trans k3, ?_⟩))
    subst p3
    have D' := (H2.kp k3).tail.here
    obtain ⟨o, e, q⟩ := D'
    exact ⟨D, rfl, none_kp k0 (H2.tail.new _ (.head _)), o, e, vs, q, hvs⟩
end Mine
end
section
open PySem PySem.W PyProof.Rows PySem.Calls
set_option maxRecDepth 100000
set_option linter.unusedVariables false
namespace Mine
variable {w : World} {A : Around} {env : Env} {h₀ h : Heap} {s : Shared} {E : Value → Shared → Prop}
def litP (l : Addr) (i : Nat) : OP := fun o => o.cls = .type "list_iterator" ∧ o.data = .fields #[.ref l, .int i 0]
theorem At.lit {I l : Addr} {i : Nat} (q : At h I (litP l i)) : h.IsListIter I l i := q
theorem at_lit {I l : Addr} {i : Nat} (q : h.IsListIter I l i) : At h I (litP l i) := q
/-- iter of a list -/
theorem call_iter {l : Addr} {vs : List Value} {Q : Value → Shared → Prop} (hl : At s.heap l (listP vs)) (hQ : ∀ I h' tk, KP s.heap h' → s.heap.get? I = none → At h' I (litP l 0) → Q (.ref I) { s with heap := h', toks := tk }) :
    wpAny (MM w) A (call (.builtin "iter") [.ref l]) Q E s := by
  refine call_function_entry (by decide +kernel) (by decide +kernel) kdk_entry_iter (kdk_args_iter _) ?_
  unfold Builtin.«iter»
  refine wpAny_bind (m := someArgs "iter" 1 2 _) (wpAny_of_eq (a := [Value.ref l]) (by first | rfl | kernel_rfl!) ?_)
  show wpAny _ _ (pyIter (.ref l) >>= _) _ _ _
  refine wpAny_bind (wpAny_pyIter_list hl.list.isList ?_)
  exact wpAny_pure ⟨_, rfl, hQ _ _ _ (KP.push _) (fresh_size _) ⟨_, Heap.get?_push_size _ rfl, rfl, rfl⟩⟩
theorem call_next {I l : Addr} {i : Nat} {vs : List Value} {x : Value} {Q : Value → Shared → Prop} (hit : At s.heap I (litP l i)) (hl : At s.heap l (listP vs)) (hx : vs[i]? = some x)
    (hQ : ∀ h', At h' I (litP l (i + 1)) → Heap.SameBut I s.heap h' → Q x { s with heap := h' }) : wpAny (MM w) A (call (.builtin "next") [.ref I]) Q E s := by
  refine call_function_entry (by decide +kernel) (by decide +kernel) kdk_entry_next (kdk_args_next _) ?_
  unfold Builtin.«next»
  refine wpAny_bind (m := someArgs "next" 1 2 _) (wpAny_of_eq (a := [Value.ref I]) (by first | rfl | kernel_rfl!) ?_)
  dsimp only
  refine wpAny_bind (wpAny_specialOf (name := Str.ofString "__next__") hit.lit.typeIs slot_listiter_next.lookup ?_)
  refine wpAny_ite_split (fun hab => absurd hab (by decide)) (fun _ => ?_)
  obtain ⟨o, ho, hc, hd⟩ := id hit.lit
  obtain ⟨ol, hol, _, nl, hdl⟩ := hl.list.isList
  refine wpAny_bind (wpAny_callSpecial?_slot (name := Str.ofString "__next__") hit.lit.typeIs slot_listiter_next (wpAny_call_entry slot_listiter_next hit.lit.typeIs entry_listiter_next ?_ (args_listiter_next _)))
  show wpAny _ _ (field (.ref I) 0 >>= _) _ _ s
  refine wpAny_bind (wpAny_field ho hd (x := .ref l) rfl ?_)
  show wpAny _ _ (if (Value.ref l == Value.none) = true then _ else _) _ _ s
  rw [if_neg (show ¬ ((Value.ref l == Value.none) = true) from Bool.false_ne_true)]
  show wpAny _ _ (field (.ref I) 1 >>= _) _ _ s
  refine wpAny_bind (wpAny_field ho hd (x := .int i 0) rfl ?_)
  show wpAny _ _ (seqItems? (.ref l) >>= _) _ _ s
  refine wpAny_bind (wpAny_seqItems hol hdl ?_)
  have hx' : vs.toArray[i]? = some x := by simpa using hx
  simp only [Int.toNat_natCast, hx']
  refine wpAny_bind (wpAny_setField ho hd (by simp) (wpAny_pure ⟨x, rfl, wpAny_pure ⟨_, rfl, hQ _ ?_ (Heap.SameBut.update ..)⟩⟩))
  exact ⟨_, Heap.get?_update_self _ ho (Obj.isFreed_of_fields (Obj.data_mapFields hd _)), (Obj.cls_mapFields ..).trans hc, by rw [Obj.data_mapFields hd]; simp [rawInt]⟩

/-- the value carried: a plain one, or an object, old or owned -/
def Acc (h₀ : Heap) : Spec → Value → Own → Prop
  | .val p, v, ex => p v ∧ ex = []
  | .obj S, v, ex => ∃ a, v = .ref a ∧ ((At h₀ a S ∧ ex = []) ∨ ex = [(a, S)])
def AccH (g : Heap) : Spec → Value → Prop
  | .val p, v => p v
  | .obj S, v => ∃ a, v = .ref a ∧ At g a S
theorem AccH.kp {g g' : Heap} {S : Spec} {v : Value} (x : AccH g S v) (k : KP g g') : AccH g' S v := by
  cases S with
  | val p => exact x
  | obj S => obtain ⟨a, e, q⟩ := x; exact ⟨a, e, q.kp k⟩
theorem Acc.at {S : Spec} {v : Value} {ex r : Own} {g : Heap} (x : Acc h₀ S v ex) (H : Hp h₀ g (r ++ ex)) : AccH g S v := by
  cases S with
  | val p => exact x.1
  | obj S =>
    obtain ⟨a, e, q⟩ := x
    refine ⟨a, e, ?_⟩
    rcases q with ⟨q, _⟩ | rfl
    · exact q.kp H.keep
    · exact H.has (a, S) (by simp)
abbrev redEnv (L : Addr) : Env := envOf (Str.ofString "reduce") { kind := ScopeKind.function, names := [(Str.ofString "function", NameKind.local), (Str.ofString "sequence", NameKind.local), (Str.ofString "initial", NameKind.local), (Str.ofString "it", NameKind.local), (Str.ofString "value", NameKind.local), (Str.ofString "element", NameKind.local), (Str.ofString "iter", NameKind.globalImplicit), (Str.ofString "_initial_missing", NameKind.globalImplicit), (Str.ofString "next", NameKind.globalImplicit), (Str.ofString "StopIteration", NameKind.globalImplicit), (Str.ofString "TypeError", NameKind.globalImplicit)], isGenerator := false, isCoroutine := false } L 70 (.ref 69)
/-- what reduce's frame holds between the turns -/
def RInv (h₀ : Heap) (L I l f : Addr) (S : Nat → Spec) (i₀ i : Nat) (own : Own) : Prop :=
  ∃ m v ex, own = (L, nsP m) :: (I, litP l i) :: ex ∧ Acc h₀ (S i) v ex ∧ m (Str.ofString "function") = some (.ref f) ∧ m (Str.ofString "it") = some (.ref I) ∧ m (Str.ofString "value") = some v ∧ (∀ T, S i = .obj T → i₀ < i → ex ≠ [])
theorem red_loop {L I l f : Addr} {vs : List Value} {S : Nat → Spec} {k i₀ : Nat} {own : Own} {pe pf pi pt1 pt2 pt3 pt4 pc pr1 pr2 pv : Pos} (g : G w h₀) (r : Rm A k) (hf : fnAt (KK w) f = true) (hl : At h₀ l (listP vs)) (hi : i₀ ≤ vs.length)
    (H : Hp h₀ s.heap own) (hJ : RInv h₀ L I l f S i₀ i₀ own)
    (step : ∀ i v x g, KP h₀ g → G w g → vs[i]? = some x → AccH g (S i) v → SE w A g (call (.ref f) [v, x]) ((S (i + 1)).Is g)) :
    wpAny (MM w) A (execs [.For (.Name (Str.ofString "element") pe) (.Name (Str.ofString "it") pi) [.Assign [.Name (Str.ofString "value") pt1] (.Call (.Name (Str.ofString "function") pt2) [.Name (Str.ofString "value") pt3, .Name (Str.ofString "element") pt4] [] pc) pv] [] pf, .Return (some (.Name (Str.ofString "value") pr1)) pr2] (redEnv L))
      (Ret h₀ s fun v h' => ∃ ex own', Acc h₀ (S vs.length) v ex ∧ Hp h₀ h' (own' ++ ex) ∧ (∀ T, S vs.length = .obj T → i₀ < vs.length → ex ≠ [])) E s := by
  refine wpAny_execs_cons (wpAny_For ?_ (by intro _; rfl))
  obtain ⟨m, v, ex, rfl, ha, h1, h2, h3, hx0⟩ := hJ
  refine (se_local (v := .ref I) H.here.ns h2).go fun v' g1 tk1 k1 p1 => ?_
  subst p1
  have H1 := H.kp k1
  refine wpAny_pyIter_listiter H1.tail.here.lit ?_
  refine codeAny_forLoop_any (fun n s' => ∃ i h' tk own', s' = { s with heap := h', toks := tk } ∧ i ≤ vs.length ∧ n = vs.length + 1 - i ∧ RInv h₀ L I l f S i₀ i own' ∧ Hp h₀ h' own') ?_ (vs.length + 1 - i₀)
    ⟨i₀, g1, tk1, _, rfl, hi, rfl, ⟨m, v, ex, rfl, ha, h1, h2, h3, hx0⟩, H1⟩
  rintro n s' ⟨i, h', tk, own', rfl, hi', rfl, ⟨m, v, ex, rfl, ha, h1, h2, h3, hx0⟩, H'⟩
  by_cases hlt : i < vs.length
  · have hx : vs.toArray[i]? = some vs[i] := by simp [hlt]
    refine wpAny_pyNext_list_item H'.tail.here.lit (hl.kp H'.keep).list.isList hx fun h2' hit2 hs2 => wpAny_pure ?_
    have H2 := (H'.swap.set hs2 (at_lit hit2)).swap
    refine wpAny_assign_Name (ex_store H2 fun h3' tk3 H3 => ?_)
    have g3 : G w h3' := g.kp H3.keep
    have hA : AccH h3' (S i) v := ha.at (r := [_, _]) H3
    have hS : SE w A h3' (eval (.Call (.Name (Str.ofString "function") pt2) [.Name (Str.ofString "value") pt3, .Name (Str.ofString "element") pt4] [] pc) (redEnv L)) ((S (i + 1)).Is h3') := by
      refine se_call2 g3 (se_local (v := .ref f) H3.here.ns (by exact h1)) hf (se_local (v := v) H3.here.ns (by exact h3)) (fun v1 g1 k1 p1 => SE.kp (se_local (env := redEnv L) (x := Str.ofString "element") (v := vs[i]) H3.here.ns rfl) k1) ?_
      intro v1 v2 g1 g2 k1 p1 k2 p2
      subst p1 p2
      exact (step i v1 _ g2 (H3.keep.trans (k1.trans k2)) (g3.kp (k1.trans k2)) (by simp [hlt]) (hA.kp (k1.trans k2))).mono fun _ _ _ q => q.low (k1.trans k2)
    have fin : ∀ (v' : Value) (ex' : Own) (h4 : Heap) (tk4 : Nat), Acc h₀ (S (i + 1)) v' ex' → (∀ T, S (i + 1) = .obj T → ex' ≠ []) → Hp h₀ h4 ((L, nsP (upd (upd m (Str.ofString "element") vs[i]) (Str.ofString "value") v')) :: (I, litP l (i + 1)) :: ex') →
        ∃ m, m < vs.length + 1 - i ∧ ∃ i h' tk own', ({ s with heap := h4, toks := tk4 } : Shared) = { s with heap := h', toks := tk } ∧ i ≤ vs.length ∧ m = vs.length + 1 - i ∧ RInv h₀ L I l f S i₀ i own' ∧ Hp h₀ h' own' :=
      fun v' ex' h4 tk4 a hne H4 => ⟨vs.length + 1 - (i + 1), by omega, i + 1, h4, tk4, _, rfl, hlt, rfl, ⟨_, v', ex', rfl, a, by exact h1, by exact h2, rfl, fun T q _ => hne T q⟩, H4⟩
    have Hb : Hp h₀ h3' [(L, nsP (upd m (Str.ofString "element") vs[i])), (I, litP l (i + 1))] :=
      ⟨H3.keep, fun p hp => H3.has p (by simp only [List.mem_cons, List.not_mem_nil, or_false] at hp; rcases hp with rfl | rfl <;> simp), fun p hp => H3.new p (by simp only [List.mem_cons, List.not_mem_nil, or_false] at hp; rcases hp with rfl | rfl <;> simp), by
        have := H3.apart
        simp only [List.pairwise_cons, List.mem_cons, List.not_mem_nil, or_false] at this ⊢
        exact ⟨fun p hp => this.1 p (.inl hp), fun p hp => absurd hp (by simp), .nil⟩⟩
    cases hsp : S (i + 1) with
    | val p =>
      rw [hsp] at hS
      exact wpAny_execs_cons (ex_assign (P := p) Hb (hS.mono fun _ _ _ q => q) fun v' h4 tk4 pv H4 => wpAny_execs_nil (fin v' [] h4 tk4 (by rw [hsp]; exact ⟨pv, rfl⟩) (fun T q => by rw [hsp] at q; cases q) H4))
    | obj T =>
      rw [hsp] at hS
      exact wpAny_execs_cons (ex_assignN Hb hS fun a h4 tk4 H4 => wpAny_execs_nil (fin (.ref a) [(a, T)] h4 tk4 (by rw [hsp]; exact ⟨a, rfl, .inr rfl⟩) (fun T q => by simp) (H4.perm (by
        refine List.Perm.cons _ (List.Perm.swap _ _ _)))))
  · have hin : i = vs.length := by omega
    subst hin
    have hx : vs.toArray[vs.length]? = none := by simp
    refine wpAny_pyNext_list_end r.hh H'.tail.here.lit (hl.kp H'.keep).list.isList hx fun h2' he2 => wpAny_execs_nil ?_
    have H2 : Hp h₀ h2' ((L, nsP m) :: ex) := by
      have hsw := H'.swap
      have Ht := hsw.tail
      refine ⟨fun b o e => he2 b o (fun q => ?_) (H'.keep b o e), fun p m => ?_, Ht.new, Ht.apart⟩
      · have := hsw.new _ (.head _); rw [q] at e; rw [e] at this; cases this
      · obtain ⟨o, e, q⟩ := Ht.has p m
        exact ⟨o, he2 _ _ (fun x => (List.pairwise_cons.mp hsw.apart).1 p m x.symm) e, q⟩
    refine wpAny_execs_cons (wpAny_Return_some ((se_local (v := v) H2.here.ns h3).go fun v' h3' tk3 k3 p3 => ?_))
    subst p3
    exact ⟨_, h3', tk3, rfl, rfl, H2.keep.trans k3, ex, [_], ha, H2.kp k3, hx0⟩
theorem acc_out {S : Spec} {v : Value} {ex own' : Own} {h' : Heap} (k0 : KP h h₀) (hn : ∀ T, S = .obj T → ex ≠ []) (ha : Acc h₀ S v ex) (H : Hp h₀ h' (own' ++ ex)) : S.Is h v h' := by
  cases S with
  | val p => exact ha.1
  | obj T =>
    obtain ⟨a, e, q⟩ := ha
    rcases q with ⟨_, q⟩ | rfl
    · exact absurd q (hn T rfl)
    · exact ⟨a, e, none_kp k0 (H.new (a, T) (by simp)), H.has (a, T) (by simp)⟩
end Mine
end
section
open PySem PySem.W PyProof.Rows PySem.Calls
set_option maxRecDepth 100000
set_option linter.unusedVariables false
namespace Mine
variable {w : World} {A : Around} {env : Env} {h₀ h : Heap} {s : Shared} {E : Value → Shared → Prop}
/-- a builtin called by its name with one argument -/
theorem se_bcall1 {fn : Str} {id : String} {p pos : Pos} {e : Expr} {v : Value} {Q : Value → Shared → Prop} (hf : SE w A s.heap (eval (.Name fn p) env) (fun u _ => u = .builtin id)) (he : SE w A s.heap (eval e env) (fun u _ => u = v))
    (hc : ∀ h' tk, KP s.heap h' → wpAny (MM w) A (call (.builtin id) [v]) Q E { s with heap := h', toks := tk }) (hs : starEach [e] env = [(false, eval e env)] := by rfl) :
    wpAny (MM w) A (eval (.Call (.Name fn p) [e] [] pos) env) Q E s := by
  refine Call_Name (trees := backTo pos (starEach [e] env)) rfl (hf.go fun v' h' tk k p => ?_)
  subst p
  refine callWith_builtin1 (args_cons ?_ ?_) ?_ ?_
  · refine (he.kp k).go fun v1 h1 tk1 k1 p1 => args_nil ?_
    subst p1
    exact hc h1 tk1 (k.trans k1)
  · rw [hs]; rfl
  · rw [hs]; rfl
  · rfl
/-- an initial value that is not the missing mark -/
def NotMark (g : Heap) (v : Value) : Prop := (∃ n t, v = .int n t) ∨ ∃ a o, v = .ref a ∧ a ≠ 62 ∧ g.get? a = some o ∧ o.cls = .type "list"
theorem reduce3_c {l f : Addr} {v0 : Value} {vs : List Value} {S : Nat → Spec} {k : Nat} (g : G w h) (r : Rm A (k + 1)) (hf : fnAt (KK w) f = true) (hl : At h l (listP vs)) (hm : NotMark h v0) (h0 : AccH h (S 0) v0)
    (hob : ∀ T, S 0 = .obj T → 0 < vs.length)
    (step : ∀ A' i v x g, Rm A' k → KP h g → G w g → vs[i]? = some x → AccH g (S i) v → SE w A' g (call (.ref f) [v, x]) ((S (i + 1)).Is g)) :
    SE w A h (call (.ref 70) [.ref f, .ref l, v0]) ((S vs.length).Is h) := by
  refine enter (binds := [(Str.ofString "function", .ref f), (Str.ofString "sequence", .ref l), (Str.ofString "initial", v0)]) (by with_unfolding_all rfl) g r (by with_unfolding_all rfl) (fun s ks => kp_binds (g.k.keeps ks) (fun S => by with_unfolding_all rfl)) ?_ (locs rfl)
  intro s h₀ L E k0 H r1
  have g0 : G w h₀ := g.kp k0
  refine wpAny_execs_cons (wpAny_Assign_Name (se_bcall1 (id := "iter") (se_builtin (g0.kp H.keep) (by with_unfolding_all rfl) (by decide +kernel) (by decide)) (se_local (v := .ref l) H.here.ns rfl) fun h1 tk1 k1 => ?_))
  refine call_iter (hl.kp (k0.trans (H.keep.trans k1))) fun I h2 tk2 k2 hn2 hI => ?_
  have H2 := ((H.kp k1).add k2 hn2 hI).swap
  refine ex_store H2 fun h3 tk3 H3 => ?_
  refine wpAny_execs_cons (wpAny_If (wpAny_isTrue_Compare1 ?_))
  refine (se_local (v := v0) H3.here.ns rfl).go fun v4 h4 tk4 k4 p4 => ?_
  subst p4
  have H4 := H3.kp k4
  refine (se_global (v := .ref 62) (g0.kp H4.keep) (by with_unfolding_all rfl)).go fun v5 h5 tk5 k5 p5 => ?_
  subst p5
  have H5 := H4.kp k5
  have cmp : ∀ {Q : Value → Shared → Prop} {E : Value → Shared → Prop} {tk : Nat}, Q (.bool false) { s with heap := h5, toks := tk } → wpAny (MM w) (A.deeper (redEnv L)) (compareOp .Is v4 (.ref 62)) Q E { s with heap := h5, toks := tk } := by
    intro Q E tk hq
    rcases hm with ⟨n, t, rfl⟩ | ⟨a, o, rfl, hne, ho, hc⟩
    · exact wpAny_is_other rfl (by simp) hq
    · obtain ⟨o2, ho2⟩ : ∃ o2, (KK w).lookup 62 = some o2 := ⟨_, by with_unfolding_all rfl⟩
      exact wpAny_is_ref_other hne (k0.trans H5.keep _ _ ho) ((g0.kp H5.keep).k _ _ ho2) (by rw [hc]; simp) hq
  refine cmp (wpAny_truthy_bool ?_)
  simp only [Bool.false_eq_true, if_false]
  refine wpAny_execs_cons (ex_assign (P := fun u => u = v4) H5 (se_local (v := v4) H5.here.ns rfl) fun v6 h6 tk6 p6 H6 => wpAny_execs_nil ?_)
  subst p6
  refine wpAny_mono (red_loop g0 r1 hf (hl.kp k0) (Nat.zero_le _) H6 ⟨_, v6, [], rfl, ?_, rfl, rfl, rfl, fun _ _ q => absurd q (Nat.lt_irrefl _)⟩ (fun i v x g' kg gg hx hA => step _ i v x g' r1 (k0.trans kg) gg hx hA)) (fun fl s' hl' => ?_) fun _ _ e => e
  · cases hS : S 0 with
    | val p => rw [hS] at h0; exact ⟨h0, rfl⟩
    | obj T => rw [hS] at h0; obtain ⟨a, e, q⟩ := h0; exact ⟨a, e, .inl ⟨q.kp k0, rfl⟩⟩
  · obtain ⟨v, h', tk, rfl, rfl, kk, ex, own', ha, Hx, hne⟩ := hl'
    refine ⟨v, h', tk, rfl, rfl, kk, acc_out k0 (fun T q => ?_) ha Hx⟩
    by_cases hz : vs.length = 0
    · have := hob T (by rw [← hz]; exact q); omega
    · exact hne T q (by omega)
theorem reduce2_c {l f : Addr} {x0 : Value} {vs : List Value} {S : Nat → Spec} {k : Nat} (g : G w h) (r : Rm A (k + 1)) (hf : fnAt (KK w) f = true) (hl : At h l (listP vs)) (hx0 : vs[0]? = some x0) {p0 : Value → Prop} (hp0 : S 1 = .val p0) (h0 : p0 x0)
    (step : ∀ A' i v x g, Rm A' k → KP h g → G w g → vs[i]? = some x → AccH g (S i) v → SE w A' g (call (.ref f) [v, x]) ((S (i + 1)).Is g)) :
    SE w A h (call (.ref 70) [.ref f, .ref l]) ((S vs.length).Is h) := by
  have hpos : 1 ≤ vs.length := by
    cases vs with
    | nil => simp at hx0
    | cons a r => simp
  refine enter (binds := [(Str.ofString "function", .ref f), (Str.ofString "sequence", .ref l), (Str.ofString "initial", .ref 62)]) (by with_unfolding_all rfl) g r (by with_unfolding_all rfl) (fun s ks => kp_binds (g.k.keeps ks) (fun S => by with_unfolding_all rfl)) ?_ (locs rfl)
  intro s h₀ L E k0 H r1
  have g0 : G w h₀ := g.kp k0
  refine wpAny_execs_cons (wpAny_Assign_Name (se_bcall1 (id := "iter") (se_builtin (g0.kp H.keep) (by with_unfolding_all rfl) (by decide +kernel) (by decide)) (se_local (v := .ref l) H.here.ns rfl) fun h1 tk1 k1 => ?_))
  refine call_iter (hl.kp (k0.trans (H.keep.trans k1))) fun I h2 tk2 k2 hn2 hI => ?_
  have H2 := ((H.kp k1).add k2 hn2 hI).swap
  refine ex_store H2 fun h3 tk3 H3 => ?_
  refine wpAny_execs_cons (wpAny_If (wpAny_isTrue_Compare1 ?_))
  refine (se_local (v := .ref 62) H3.here.ns rfl).go fun v4 h4 tk4 k4 p4 => ?_
  subst p4
  have H4 := H3.kp k4
  refine (se_global (v := .ref 62) (g0.kp H4.keep) (by with_unfolding_all rfl)).go fun v5 h5 tk5 k5 p5 => ?_
  subst p5
  have H5 := H4.kp k5
  refine wpAny_is_ref_self (wpAny_truthy_bool ?_)
  simp only [if_true]
  refine wpAny_execs_cons (wpAny_Try_except (wpAny_execs_cons (wpAny_Assign_Name (se_bcall1 (id := "next") (se_builtin (g0.kp H5.keep) (by with_unfolding_all rfl) (by decide +kernel) (by decide)) (se_local (v := .ref I) H5.here.ns rfl) fun h6 tk6 k6 => ?_))))
  have H6 := H5.kp k6
  refine call_next H6.tail.here (hl.kp (k0.trans H6.keep)) hx0 fun h7 hI7 hs7 => ?_
  have H7 := (H6.swap.set hs7 hI7).swap
  refine ex_store H7 fun h8 tk8 H8 => wpAny_execs_nil (wpAny_execs_nil (wpAny_execs_nil ?_))
  refine wpAny_mono (red_loop (i₀ := 1) g0 r1 hf (hl.kp k0) hpos H8 ⟨_, x0, [], rfl, ?_, rfl, rfl, rfl, fun _ _ q => absurd q (Nat.lt_irrefl _)⟩ (fun i v x g' kg gg hx hA => step _ i v x g' r1 (k0.trans kg) gg hx hA)) (fun fl s' hl' => ?_) fun _ _ e => e
  · rw [hp0]; exact ⟨h0, rfl⟩
  · obtain ⟨v, h', tk, rfl, rfl, kk, ex, own', ha, Hx, hne⟩ := hl'
    refine ⟨v, h', tk, rfl, rfl, kk, acc_out k0 (fun T q => ?_) ha Hx⟩
    by_cases hz : vs.length = 1
    · rw [hz, hp0] at q; cases q
    · exact hne T q (by omega)
end Mine
end
section
open PySem PySem.W PyProof.Rows PySem.Calls
set_option maxRecDepth 100000
set_option linter.unusedVariables false
namespace Mine
variable {w : World} {A : Around} {env : Env} {h₀ h g : Heap} {s : Shared} {E : Value → Shared → Prop}
/-- an iterable: what its iterator yields -/
def It (w : World) (A : Around) (g : Heap) (v : Value) (n : Nat) (P : Nat → Value → Prop) : Prop :=
  ∀ (s : Shared) (Q : Value → Shared → Prop) (E : Value → Shared → Prop), KP g s.heap → (∀ I fp wr St h' tk, Walks PR w A I fp wr n P St → St 0 h' → KP s.heap h' → (∀ b ∈ fp, b < h'.objs.size) → (∀ b ∈ wr, s.heap.get? b = none) →
    (∀ i x, St i x → ∀ b ∈ wr, x.get? b ≠ none) → Q (.ref I) { s with heap := h', toks := tk }) → wpAny (MM w) A (pyIter v) Q E s
theorem it_list {l : Addr} {vs : List Value} (hh : A.handled = none) (hl : At g l (listP vs)) : It w A g (.ref l) vs.length (fun i v => vs[i]? = some v) := fun s Q E ks hQ => by
  have hl' := (hl.kp ks).list.isList
  have hlt : l < s.heap.objs.size := by obtain ⟨_, e, _⟩ := hl'; exact Heap.lt_size e
  refine wpAny_pyIter_list hl' ?_
  have W := Walks.list (prog := PR) (w := w) hh s.heap.objs.size l (Nat.ne_of_lt hlt) vs.toArray
  simp only [List.size_toArray, List.getElem?_toArray] at W
  refine hQ _ _ _ _ _ _ W ⟨⟨_, Heap.get?_push_size _ rfl, rfl, rfl⟩, hl'.push _⟩ (KP.push _) ?_ ?_ ?_
  · intro b hb
    rw [Heap.size_push]
    simp only [List.mem_cons, List.not_mem_nil, or_false] at hb
    rcases hb with rfl | rfl
    · exact Nat.lt_succ_self _
    · exact Nat.lt_succ_of_lt hlt
  · intro b hb
    simp only [List.mem_cons, List.not_mem_nil, or_false] at hb
    subst hb; exact fresh_size _
  · intro i x st b hb
    simp only [List.mem_cons, List.not_mem_nil, or_false] at hb
    subst hb
    obtain ⟨⟨o, e, _⟩, _⟩ := st
    rw [e]; simp
theorem it_range {r : Addr} {a b : Int} (hh : A.handled = none) (ha : -(2 ^ 62) ≤ a) (ha' : a < 2 ^ 62) (hb : -(2 ^ 62) ≤ b) (hb' : b < 2 ^ 62) (hr : At g r (rangeP a b)) :
    It w A g (.ref r) (b - a).toNat (fun i v => IsI (a + i) v) := fun s Q E ks hQ => by
  obtain ⟨o, ho, t, u, v, rfl⟩ := hr.kp ks
  refine wpAny_pyIter_range ho (small_one ha ha' hb hb') ?_
  have hsz : Builtin.Range.rangeSize a b 1 = ((b - a).toNat : Int) := by rw [rangeSize_one]; split <;> omega
  have W := Walks.range (prog := PR) (w := w) hh s.heap.objs.size a 1 (b - a).toNat
  simp only [Int.mul_one] at W
  refine hQ _ _ _ _ _ _ W ?_ (KP.push _) ?_ ?_ ?_
  · rw [hsz]
    have e0 : a + ((0 : Nat) : Int) = a := by simp
    have e1 : (((b - a).toNat : Nat) : Int) - ((0 : Nat) : Int) = ((b - a).toNat : Int) := by simp
    simp only [e0, e1]
    exact Heap.get?_push_size _ rfl
  · intro c hc
    rw [Heap.size_push]
    simp only [List.mem_cons, List.not_mem_nil, or_false] at hc
    subst hc; exact Nat.lt_succ_self _
  · intro c hc
    simp only [List.mem_cons, List.not_mem_nil, or_false] at hc
    subst hc; exact fresh_size _
  · intro i x st c hc
    simp only [List.mem_cons, List.not_mem_nil, or_false] at hc
    subst hc
    rw [st]; simp
theorem it_ints {l : Addr} {ns : List Int} (hh : A.handled = none) (hl : At g l (intsP ns)) : It w A g (.ref l) ns.length (fun i v => ∃ n, ns[i]? = some n ∧ IsI n v) := fun s Q E ks hQ => by
  obtain ⟨o, e, vs, q, hi⟩ := hl
  have := it_list (w := w) hh (⟨o, e, q⟩ : At g l (listP vs)) s Q E ks
  refine this fun I fp wr St h' tk W hst k hfp hwr hex => ?_
  rw [ints_len hi] at W
  refine hQ I fp wr St h' tk ?_ hst k hfp hwr hex
  refine ⟨W.sub, W.frame, fun i s Q E hlt st hq => W.item i s Q E hlt st fun v h' tk p => hq v h' tk ?_, W.done, W.self⟩
  have : ∀ {vs : List Value} {ns : List Int}, IntsAre vs ns → ∀ {i : Nat}, vs[i]? = some v → ∃ n, ns[i]? = some n ∧ IsI n v := by
    intro vs ns hi
    induction hi with
    | nil => intro i e; simp at e
    | cons n t _ ih =>
      intro i e
      cases i with
      | zero => simp at e; exact ⟨n, rfl, t, e.symm⟩
      | succ i => simpa using ih (by simpa using e)
  exact this hi p
theorem Hp.swapAdd {p : Addr × OP} {r : Own} {D : Addr} {S : OP} {h' : Heap} (H : Hp h₀ h' (p :: r)) (x : At h' D S) (hn : ∀ {q : Addr × OP}, q ∈ p :: r → q.1 ≠ D) (h0 : h₀.get? D = none) : Hp h₀ h' (p :: (D, S) :: r) := by
  have H2 : Hp h₀ h' ((D, S) :: p :: r) := ⟨H.keep, fun q hq => by
    rcases List.mem_cons.mp hq with rfl | hq
    · exact x
    · exact H.has q hq, fun q hq => by
    rcases List.mem_cons.mp hq with rfl | hq
    · exact h0
    · exact H.new q hq, List.pairwise_cons.mpr ⟨fun q hq => Ne.symm (hn hq), H.apart⟩⟩
  exact H2.swap
def Spec.AtX (base h : Heap) (C D : Addr) (wr : List Addr) : Spec → Value → Prop
  | .val p, v => p v
  | .obj S, v => ∃ b, v = .ref b ∧ b ≠ C ∧ b ≠ D ∧ b ∉ wr ∧ base.get? b = none ∧ At h b S
def Spec.At (h : Heap) : Spec → Value → Prop
  | .val p, v => p v
  | .obj S, v => ∃ b, v = .ref b ∧ Mine.At h b S
theorem Paired.imp {α β : Type} {F G : α → β → Prop} (hFG : ∀ a b, F a b → G a b) : ∀ {l : List α} {r : List β}, Paired F l r → Paired G l r
  | _, _, .nil => .nil
  | _, _, .cons x y => .cons (hFG _ _ x) (Paired.imp hFG y)
def pairP {α : Type} (F : α → Value → Prop) (as : List α) : OP := fun o => ∃ ys, listP ys o ∧ Paired F as ys
abbrev testsOf (ifs : List Expr) (env : Env) : Sem Bool := forIn ifs true fun c r => if r = true then do let ok ← isTrue c env (eval c env); pure (ForInStep.yield ok) else pure (ForInStep.yield r)
theorem tests0 : SE w A h (testsOf [] env) (fun ok _ => ok = true) := fun s Q E ks hQ => by
  show wpAny _ _ (pure true) _ _ _
  exact wpAny_pure (hQ true s.heap s.toks KP.rfl rfl)
theorem tests1 {c : Expr} {b : Bool} (x : SE w A h (isTrue c env (eval c env)) (fun v _ => v = b)) : SE w A h (testsOf [c] env) (fun ok _ => ok = b) := fun s Q E ks hQ => by
  show wpAny _ _ (forIn [c] true _) _ _ _
  rw [List.forIn_cons]
  simp only [if_true]
  refine wpAny_bind (wpAny_bind (x s _ _ ks fun v h1 tk1 k1 p1 => wpAny_pure ?_))
  subst p1
  show wpAny _ _ (pure v) _ _ _
  exact wpAny_pure (hQ v h1 tk1 k1 rfl)
/-- the loop of a comprehension, from its iterator on -/
theorem comp_core {α : Type} {elt iter : Expr} {x : Str} {px : Pos} {ifs : List Expr} {scope : Scope} {cl : List (Str × Addr)} {pos : Pos} (as : List α) (R : α → Value → Prop) (p : α → Bool) (Sp : α → Spec)
    {h1 h2 : Heap} {tk2 : Nat} {I : Addr} {fp wr : List Addr} {St : Nat → Heap → Prop} {RR : Value → Addr → Result → Shared → Prop}
    (kh : KP h h1) (k2 : KP h1 h2) (W : Walks PR w A I fp wr as.length (fun i v => ∃ a, as[i]? = some a ∧ R a v) St) (hst : St 0 h2) (hfp : ∀ b ∈ fp, b < h2.objs.size) (hwr : ∀ b ∈ wr, h1.get? b = none) (hex : ∀ i x, St i x → ∀ b ∈ wr, x.get? b ≠ none)
    (htests : ∀ C m a v g, KP h g → g.Ns C m → m x = some v → a ∈ as → R a v → SE w A g (testsOf ifs (compEnvC scope cl C env)) (fun ok _ => ok = p a))
    (helt : ∀ C m a v g, KP h g → g.Ns C m → m x = some v → a ∈ as → R a v → p a = true → SE w A g (eval elt (compEnvC scope cl C env)) ((Sp a).Is g)) (hlen : as.length ≤ 1000)
    (hcell : ∀ y ∈ scope.names, y.2 ≠ .cell) (hkind : scope.kind = .function) (hx : scope.names.lookup x = some .local)
    (fin : ∀ C D h6 tk6 m5 ys, h2.get? C = none → h2.get? D = none → D ≠ C → h6.Ns C m5 → At h6 D (listP ys) → Paired (fun a y => (Sp a).AtX h2 h6 C D wr y) (as.filter p) ys → (∀ b o, b ∉ wr → h2.get? b = some o → h6.get? b = some o) → C ∉ wr → D ∉ wr →
      RR (.ref D) C (.ok .next) { s with heap := h6, toks := tk6 }) :
    wpAny (MM w) A (newList []) (fun acc s₃ => wpAny (MM w) A (newFunctionEnv scope env.globals cl [] env.qual none .none (some env)) (fun cenv s₄ =>
      codeAny (MM w) A (.compStart (.ListComp elt [⟨.Name x px, iter, ifs, 0⟩] scope pos) 0 (.ref I) acc { cenv with scope := relabel scope env }) (RR acc cenv.locals) s₄) E s₃) E { s with heap := h2, toks := tk2 } := by
  refine wpAny_newList ?_
  refine wpAny_newFunctionEnv hcell (by intro y hy; simp at hy) (fun h4 hns4 hsb4 => ?_) hkind
  dsimp only at hns4 hsb4 ⊢
  generalize hH3 : h2.push { cls := .type "list", dict := none, data := .seq ([] : List Value).toArray } = h3 at hns4 hsb4 ⊢
  have hC : h3.objs.size = h2.objs.size + 1 := by rw [← hH3, Heap.size_push]
  have k34 : KP h3 h4 := fun b o e => hsb4.extBut b o (Nat.ne_of_lt (Heap.lt_size e)) (Heap.get?_push_of_some _ e)
  have k23 : KP h2 h3 := hH3 ▸ KP.push _
  have hD4 : At h4 h2.objs.size (listP []) := by
    refine (At.kp ?_ k34 : At h4 h2.objs.size (listP []))
    rw [← hH3]
    exact ⟨_, Heap.get?_push_size _ rfl, _, rfl⟩
  have hDC : h2.objs.size ≠ h3.objs.size := by omega
  have hst4 : St 0 h4 := W.frame _ _ _ hst fun b _ o e => (k23.trans k34) b o e
  have hDf : h2.objs.size ∉ fp := fun hm => Nat.lt_irrefl _ (hfp _ hm)
  have hCf : h3.objs.size ∉ fp := fun hm => by have h9 : h3.objs.size < h2.objs.size := hfp _ hm; omega
  generalize hDe : h2.objs.size = D at *
  generalize hCe : h3.objs.size = C at *
  have hD2 : h2.get? D = none := by rw [← hDe]; exact fresh_size _
  have hC2 : h2.get? C = none := none_kp k23 (by rw [← hCe]; exact fresh_size _)
  have hhw : ∀ b o, h.get? b = some o → b ∉ wr := fun b o e hb => by
    have := hwr b hb
    rw [kh b o e] at this; cases this
  have loop : ∀ s₃ : Shared, s₃ = { s with heap := h4, toks := tk2 + ([] : List (Str × Value)).length } →
      codeAny (MM w) A (.compLoop (.ListComp elt [⟨.Name x px, iter, ifs, 0⟩] scope pos) 0 (.ref I) (.ref D) (compEnvC scope cl C env)) (RR (.ref D) C) s₃ := by
    rintro s₃ rfl
    refine codeAny_compLoop_tests (fun k s' => ∃ i h' tk m ys, s' = { s with heap := h', toks := tk } ∧ i ≤ as.length ∧ k = as.length + 1 - i ∧ St i h' ∧ (∀ b o, b ∉ wr → h2.get? b = some o → h'.get? b = some o) ∧ h'.Ns C m ∧ At h' D (listP ys) ∧
      ys.length ≤ i ∧ Paired (fun a y => (Sp a).AtX h2 h' C D wr y) ((as.take i).filter p) ys) ?_ (as.length + 1)
      ⟨0, h4, _, _, [], rfl, Nat.zero_le _, rfl, hst4, fun b o _ e => (k23.trans k34) b o e, hns4, hD4, Nat.le_refl _, by simpa using Paired.nil⟩
    rintro k s' ⟨i, h5, tk5, m5, ys, rfl, hi, rfl, hst5, hk5, hn5, hD5, hyl, hP5⟩
    have hCw : C ∉ wr := fun q => hCf (W.sub _ q)
    have hDw : D ∉ wr := fun q => hDf (W.sub _ q)
    by_cases hlt : i < as.length
    · refine W.item i _ _ _ hlt hst5 fun v h6 tk6 hv hst6 hk6 => ?_
      obtain ⟨a, ha, hRa⟩ := hv
      have hmem : a ∈ as := List.mem_of_getElem? ha
      have htk : as.take (i + 1) = as.take i ++ [a] := by rw [List.take_add_one, ha]; rfl
      refine wpAny_assign_Name (wpAny_storeName_local (lookup_relabel_local hx) (hn5.at' fun o e => hk6 _ o hCw e) (fun h7 hn7 hs7 => ?_) (by simp [compEnvC, relabel, hkind]))
      have up7 : ∀ b o, b ≠ C → b ∉ wr → h5.get? b = some o → h7.get? b = some o := fun b o hbC hbw e => hs7.extBut b o hbC (hk6 b o hbw e)
      have k7 : KP h h7 := fun b o e => by
        have hbw := hhw b o e
        have e2 := k2 b o (kh b o e)
        exact up7 b o (fun q => by rw [q, hC2] at e2; cases e2) hbw (hk5 b o hbw e2)
      have hst7 : St (i + 1) h7 := W.frame _ _ _ hst6 fun b hb o e => hs7.extBut b o (fun q => hCf ((show b = C from q) ▸ hb)) e
      refine (htests C _ a v h7 k7 hn7 (by simp) hmem hRa).go fun ok h8 tk8 k8 p8 => ?_
      have hD8 : At h8 D (listP ys) := by
        obtain ⟨o, e, q⟩ := hD5
        exact ⟨o, k8 _ _ (up7 D o hDC hDw e), q⟩
      have hn8 := hn7.keeps k8
      have hst8 : St (i + 1) h8 := W.frame _ _ _ hst7 fun b _ o e => k8 b o e
      have hk8 : ∀ b o, b ∉ wr → h2.get? b = some o → h8.get? b = some o := fun b o hbw e => k8 b o (up7 b o (fun q => by rw [q, hC2] at e; cases e) hbw (hk5 b o hbw e))
      have hP8 : Paired (fun a y => (Sp a).AtX h2 h8 C D wr y) ((as.take i).filter p) ys := Paired.imp (fun a y q => by
        cases hSp : Sp a with
        | val pp => rw [hSp] at q; exact q
        | obj S =>
          rw [hSp] at q
          obtain ⟨b, e, hbC, hbD, hbw, hb2, o, eo, So⟩ := q
          exact ⟨b, e, hbC, hbD, hbw, hb2, o, k8 _ _ (up7 b o hbC hbw eo), So⟩) hP5
      subst p8
      cases hpa : p a with
      | false =>
        simp only [Bool.false_eq_true, if_false]
        refine ⟨as.length + 1 - (i + 1), by omega, i + 1, h8, tk8, _, ys, rfl, hlt, rfl, hst8, hk8, hn8, hD8, by omega, ?_⟩
        rw [htk, List.filter_append]; simpa [hpa] using hP8
      | true =>
        simp only [if_true]
        refine (helt C _ a v h8 (k7.trans k8) hn8 (by simp) hmem hRa hpa).go fun y h9 tk9 k9 p9 => ?_
        have hD9 := hD8.kp k9
        refine wpAny_list_append_plain hD9.list (fun h10 hl10 hs10 => ?_) (by rw [List.size_toArray, sizeLine_eq]; omega)
        refine ⟨as.length + 1 - (i + 1), by omega, i + 1, h10, tk9, _, ys ++ [y], rfl, hlt, rfl, ?_, ?_, (hn8.keeps k9).sameBut hs10 (Ne.symm hDC), at_list (by simpa using hl10), by simp; omega, ?_⟩
        · exact W.frame _ _ _ hst8 fun b hb o e => hs10.extBut b o (fun q => hDf (q ▸ hb)) (k9 b o e)
        · exact fun b o hbw e => hs10.extBut b o (fun q => by rw [q, hD2] at e; cases e) (k9 b o (hk8 b o hbw e))
        · rw [htk, List.filter_append]
          simp only [hpa, List.filter_cons, if_true, List.filter_nil]
          refine Paired.snoc (Paired.imp (fun a y q => ?_) hP8) ?_
          · cases hSp : Sp a with
            | val pp => rw [hSp] at q; exact q
            | obj S =>
              rw [hSp] at q
              obtain ⟨b, e, hbC, hbD, hbw, hb2, o, eo, So⟩ := q
              exact ⟨b, e, hbC, hbD, hbw, hb2, o, hs10.extBut b o hbD (k9 _ _ eo), So⟩
          · cases hSp : Sp a with
            | val pp => rw [hSp] at p9; exact p9
            | obj S =>
              rw [hSp] at p9
              obtain ⟨b, e, hbn, o, eo, So⟩ := p9
              have bD : b ≠ D := fun q => hD8.some (q ▸ hbn)
              have bw : b ∉ wr := fun q => hex _ _ hst8 b q hbn
              refine ⟨b, e, fun q => ?_, bD, bw, ?_, o, hs10.extBut b o bD eo, So⟩
              · exact (at_ns hn8).some (q ▸ hbn)
              · cases e2 : h2.get? b with
                | none => rfl
                | some o' => rw [hk8 b o' bw e2] at hbn; cases hbn
    · have hin : i = as.length := by omega
      subst hin
      refine W.done _ _ _ hst5 fun h6 tk6 hk6 => ?_
      refine fin C D h6 tk6 m5 ys hC2 hD2 hDC (hn5.at' fun o e => hk6 _ o hCw e) ?_ ?_ (fun b o hbw e => hk6 b o hbw (hk5 b o hbw e)) hCw hDw
      · obtain ⟨o, e, q⟩ := hD5
        exact ⟨o, hk6 D o hDw e, q⟩
      · rw [List.take_length] at hP5
        exact Paired.imp (fun a y q => by
          cases hSp : Sp a with
          | val pp => rw [hSp] at q; exact q
          | obj S =>
            rw [hSp] at q
            obtain ⟨b, e, hbC, hbD, hbw, hb2, o, eo, So⟩ := q
            exact ⟨b, e, hbC, hbD, hbw, hb2, o, hk6 b o hbw eo, So⟩) hP5
  exact codeAny_compStart_list (loop _ rfl) (W.self 0 _ _ _ hst4 (loop _ rfl))
theorem se_comp {α : Type} {elt iter : Expr} {x : Str} {px : Pos} {ifs : List Expr} {scope : Scope} {cl : List (Str × Addr)} {pos : Pos} (as : List α) (R : α → Value → Prop) (p : α → Bool) (Sp : α → Spec)
    (hclos : closureFor scope env = pure cl) (hiter : SE w A h (eval iter env) (fun v g => It w A g v as.length (fun i v => ∃ a, as[i]? = some a ∧ R a v)))
    (htests : ∀ C m a v g, KP h g → g.Ns C m → m x = some v → a ∈ as → R a v → SE w A g (testsOf ifs (compEnvC scope cl C env)) (fun ok _ => ok = p a))
    (helt : ∀ C m a v g, KP h g → g.Ns C m → m x = some v → a ∈ as → R a v → p a = true → SE w A g (eval elt (compEnvC scope cl C env)) ((Sp a).Is g)) (hlen : as.length ≤ 1000)
    (hcell : ∀ y ∈ scope.names, y.2 ≠ .cell := by decide) (hkind : scope.kind = .function := by rfl)
    (hnames : ∀ y ∈ scope.names, y.2 = .local → scope.names.lookup y.1 = some .local := by decide) (hx : scope.names.lookup x = some .local := by rfl)
    (hs : ∀ x, foldedSetIterable iter env x = pure x := by intro _; rfl) :
    SE w A h (eval (.ListComp elt [⟨.Name x px, iter, ifs, 0⟩] scope pos) env) (fun v h' => ∃ D, v = .ref D ∧ h.get? D = none ∧ ∃ ys, At h' D (listP ys) ∧ Paired (fun a y => (Sp a).At h' y) (as.filter p) ys) := fun s Q E ks hQ => by
  rw [eval_ListComp]
  refine wpAny_comprehension_free (use := none) rfl hs hclos hkind hnames (hiter s _ _ ks fun xv h1 tk1 k1 p1 => p1 _ _ _ KP.rfl fun I fp wr St h2 tk2 W hst k2 hfp hwr hex => ?_)
  refine comp_core (RR := fun acc C => compPost (MM w) A E none Q acc C) as R p Sp (ks.trans k1) k2 W hst hfp hwr hex htests helt hlen hcell hkind hx ?_
  intro C D h6 tk6 m5 ys hC2 hD2 hDC hn6 hD6 hP6 hk6 hCw hDw
  refine ⟨m5, hn6, fun h7 hs7 => hQ _ h7 _ (fun b o e => ?_) ⟨D, rfl, none_kp (ks.trans (k1.trans k2)) hD2, ys, ?_, ?_⟩⟩
  · have e2 := (k1.trans k2) b o e
    have hbw : b ∉ wr := fun hb => by have := hwr b hb; rw [k1 b o e] at this; cases this
    exact hs7.extBut b o (fun q => by rw [q, hC2] at e2; cases e2) (hk6 b o hbw e2)
  · obtain ⟨o, e, q⟩ := hD6
    exact ⟨o, hs7.extBut D o hDC e, q⟩
  · exact Paired.imp (fun a y q => by
      cases hSp : Sp a with
      | val pp => rw [hSp] at q; exact q
      | obj S =>
        rw [hSp] at q
        obtain ⟨b, e, hbC, hbD, hbw, hb2, o, eo, So⟩ := q
        exact ⟨b, e, o, hs7.extBut b o hbC eo, So⟩) hP6
/-- y = [..], y a local of the same line -/
theorem ex_assignComp {α : Type} {elt iter : Expr} {x y : Str} {px py : Pos} {ifs : List Expr} {scope : Scope} {cl : List (Str × Addr)} {pos spos : Pos} {m : Str → Option Value} {L : Addr} {r : Own} {Q : Flow → Shared → Prop} (as : List α) (R : α → Value → Prop) (p : α → Bool) (Sp : α → Spec)
    (H : Hp h₀ s.heap ((L, nsP m) :: r)) (hclos : closureFor scope env = pure cl) (hiter : SE w A s.heap (eval iter env) (fun v g => It w A g v as.length (fun i v => ∃ a, as[i]? = some a ∧ R a v)))
    (htests : ∀ C m a v g, KP s.heap g → g.Ns C m → m x = some v → a ∈ as → R a v → SE w A g (testsOf ifs (compEnvC scope cl C env)) (fun ok _ => ok = p a))
    (helt : ∀ C m a v g, KP s.heap g → g.Ns C m → m x = some v → a ∈ as → R a v → p a = true → SE w A g (eval elt (compEnvC scope cl C env)) ((Sp a).Is g)) (hlen : as.length ≤ 1000)
    (hQ : ∀ D ys h' tk, Hp h₀ h' ((L, nsP (upd m y (.ref D))) :: (D, listP ys) :: r) → Paired (fun a y => (Sp a).At h' y) (as.filter p) ys → Q .next { s with heap := h', toks := tk })
    (hL : env.locals = L := by rfl) (hsw : swapsWith (.ListComp elt [⟨.Name x px, iter, ifs, 0⟩] scope pos) (some (.Name y py)) spos.line env = pure true := by rfl)
    (hy : env.kindOf y = some .local := by rfl) (hp : (env.scope.kind == .class || (env.scope.kind == .module && env.locals != env.globals)) = false := by rfl)
    (hcell : ∀ y ∈ scope.names, y.2 ≠ .cell := by decide) (hkind : scope.kind = .function := by rfl)
    (hnames : ∀ y ∈ scope.names, y.2 = .local → scope.names.lookup y.1 = some .local := by decide) (hx : scope.names.lookup x = some .local := by rfl)
    (hs : ∀ x, foldedSetIterable iter env x = pure x := by intro _; rfl) :
    wpAny (MM w) A (exec (.Assign [.Name y py] (.ListComp elt [⟨.Name x px, iter, ifs, 0⟩] scope pos) spos) env) Q E s := by
  subst hL
  rw [exec_Assign_Name_used _ _ _ _ hsw]
  refine wpAny_bind (wpAny_standAt (wpAny_bind ?_))
  show wpAny _ A (do let _ ← comprehension (.ListComp elt [⟨.Name x px, iter, ifs, 0⟩] scope pos) scope env _ (newList []) false (eval iter env) (some (assign (.Name y py) env))) _ _ s
  refine wpAny_bind (wpAny_mono (wpAny_comprehension_free (use := some (assign (.Name y py) env)) (Q := fun _ s' => Q .next s') rfl hs hclos hkind hnames
    (hiter s _ _ KP.rfl fun xv h1 tk1 k1 p1 => p1 _ _ _ KP.rfl fun I fp wr St h2 tk2 W hst k2 hfp hwr hex => ?_)) (fun _ s' hq => wpAny_pure (wpAny_pure hq)) fun _ _ e => e)
  refine comp_core (RR := fun acc C => compPost (MM w) A E (some (assign (.Name y py) env)) (fun _ s' => Q .next s') acc C) as R p Sp k1 k2 W hst hfp hwr hex htests helt hlen hcell hkind hx ?_
  intro C D h6 tk6 m5 ys hC2 hD2 hDC hn6 hD6 hP6 hk6 hCw hDw
  have k12 := k1.trans k2
  have kk6 : KP s.heap h6 := fun b o e => hk6 b o (fun hb => by have := hwr b hb; rw [k1 b o e] at this; cases this) (k12 b o e)
  have H6 : Hp h₀ h6 ((env.locals, nsP m) :: (D, listP ys) :: r) := (H.kp kk6).swapAdd hD6 (fun {q} hq e => ((H.has q hq).kp k12).some (e ▸ hD2)) (none_kp (H.keep.trans k12) hD2)
  have hLC : env.locals ≠ C := fun q => (H.here.kp k12).some (q ▸ hC2)
  show wpAny _ A (assign (.Name y py) env (.ref D)) _ _ _
  refine wpAny_assign_Name (wpAny_storeName_local hy H6.here.ns (fun h7 hn7 hs7 => ?_) hp)
  refine ⟨m5, hn6.sameBut hs7 (Ne.symm hLC), fun h8 hs8 => ?_⟩
  have H7 := H6.set hs7 (at_ns hn7)
  have cne : ∀ q ∈ (env.locals, nsP (upd m y (.ref D))) :: (D, listP ys) :: r, q.1 ≠ C := fun q hq e => by
    rcases List.mem_cons.mp hq with rfl | hq
    · exact hLC e
    · rcases List.mem_cons.mp hq with rfl | hq
      · exact hDC e
      · exact ((H.has q (.tail _ hq)).kp k12).some (e ▸ hC2)
  have H8 : Hp h₀ h8 ((env.locals, nsP (upd m y (.ref D))) :: (D, listP ys) :: r) :=
    ⟨fun b o e => hs8.extBut b o (fun q => by have := (H.keep.trans k12) b o e; rw [q, hC2] at this; cases this) (H7.keep b o e), fun q hq => by
      obtain ⟨o, e, x⟩ := H7.has q hq
      exact ⟨o, hs8.extBut _ _ (cne q hq) e, x⟩, H7.new, H7.apart⟩
  refine hQ D ys h8 _ H8 (Paired.imp (fun a y q => ?_) hP6)
  cases hSp : Sp a with
  | val pp => rw [hSp] at q; exact q
  | obj S =>
    rw [hSp] at q
    obtain ⟨b, e, hbC, hbD, hbw, hb2, o, eo, So⟩ := q
    exact ⟨b, e, o, hs8.extBut b o hbC (hs7.extBut b o (fun q => (H.here.kp k12).some (q ▸ hb2)) eo), So⟩
theorem paired_ints' {α : Type} {f : α → Int} : ∀ {as : List α} {ys : List Value}, Paired (fun a y => IsI (f a) y) as ys → IntsAre ys (as.map f)
  | _, _, .nil => .nil
  | _, _, .cons ⟨t, e⟩ y => by subst e; exact .cons _ t (paired_ints' y)
/-- a comprehension of ints -/
theorem se_compI {α : Type} {elt iter : Expr} {x : Str} {px : Pos} {ifs : List Expr} {scope : Scope} {cl : List (Str × Addr)} {pos : Pos} (as : List α) (R : α → Value → Prop) (p : α → Bool) (f : α → Int)
    (hclos : closureFor scope env = pure cl) (hiter : SE w A h (eval iter env) (fun v g => It w A g v as.length (fun i v => ∃ a, as[i]? = some a ∧ R a v)))
    (htests : ∀ C m a v g, KP h g → g.Ns C m → m x = some v → a ∈ as → R a v → SE w A g (testsOf ifs (compEnvC scope cl C env)) (fun ok _ => ok = p a))
    (helt : ∀ C m a v g, KP h g → g.Ns C m → m x = some v → a ∈ as → R a v → p a = true → SE w A g (eval elt (compEnvC scope cl C env)) (fun y _ => IsI (f a) y)) (hlen : as.length ≤ 1000)
    (hcell : ∀ y ∈ scope.names, y.2 ≠ .cell := by decide) (hkind : scope.kind = .function := by rfl)
    (hnames : ∀ y ∈ scope.names, y.2 = .local → scope.names.lookup y.1 = some .local := by decide) (hx : scope.names.lookup x = some .local := by rfl)
    (hs : ∀ x, foldedSetIterable iter env x = pure x := by intro _; rfl) :
    SE w A h (eval (.ListComp elt [⟨.Name x px, iter, ifs, 0⟩] scope pos) env) (Spec.Is h (.obj (intsP ((as.filter p).map f)))) :=
  (se_comp as R p (fun a => vi (f a)) hclos hiter htests helt hlen hcell hkind hnames hx hs).mono fun v h' _ ⟨D, e, hn, ys, ⟨o, eo, q⟩, hP⟩ => ⟨D, e, hn, o, eo, ys, q, paired_ints' hP⟩
theorem it_rangeL {r : Addr} {n : Nat} (hh : A.handled = none) (hn : n < 2 ^ 61) (hr : At g r (rangeP 0 (n : Int))) : It w A g (.ref r) (List.range n).length (fun i v => ∃ a : Nat, (List.range n)[i]? = some a ∧ IsI (a : Int) v) := fun s Q E ks hQ => by
  refine it_range hh (by decide) (by decide) (by omega) (by omega) hr s Q E ks fun I fp wr St h' tk W hst k hfp hwr hex => ?_
  have e : ((n : Int) - 0).toNat = (List.range n).length := by simp
  rw [e] at W
  refine hQ I fp wr St h' tk ⟨W.sub, W.frame, fun i s Q E hlt st hq => W.item i s Q E hlt st fun v h' tk p => hq v h' tk ⟨i, by simp at hlt; simp [hlt], by simpa using p⟩, W.done, W.self⟩ hst k hfp hwr hex
end Mine
end
section
open PySem PySem.W PyProof.Rows PySem.Calls
set_option maxRecDepth 100000
set_option linter.unusedVariables false
namespace Mine
variable {w : World} {A : Around} {env : Env} {h₀ h g : Heap} {s : Shared} {E : Value → Shared → Prop}
theorem ints_get {vs : List Value} {ns : List Int} (hi : IntsAre vs ns) : ∀ {i : Nat} {x : Value}, vs[i]? = some x → ∃ n, ns[i]? = some n ∧ IsI n x := by
  induction hi with
  | nil => intro i x e; simp at e
  | cons n t _ ih =>
    intro i x e
    cases i with
    | zero => simp at e; exact ⟨n, rfl, t, e.symm⟩
    | succ i => simpa using ih (by simpa using e)
theorem foldl_take {f : Int → Int → Int} {a : Int} {ns : List Int} {i : Nat} {n : Int} (e : ns[i]? = some n) : (ns.take (i + 1)).foldl f a = f ((ns.take i).foldl f a) n := by
  rw [List.take_add_one, e, List.foldl_append]; rfl
/-- reduce(xor, .., first) -/
theorem red_xor {l : Addr} {ns : List Int} {a : Int} {t : Tok} {k : Nat} (g : G w h) (r : Rm A (k + 2)) (hl : At h l (intsP ns)) : SE w A h (call (.ref 70) [.ref 98, .ref l, .int a t]) (fun v _ => IsI (ns.foldl Builtin.bitXor a) v) := by
  obtain ⟨o, e, vs, q, hi⟩ := hl
  have := reduce3_c (S := fun i => vi ((ns.take i).foldl Builtin.bitXor a)) (f := 98) (v0 := .int a t) g r (by with_unfolding_all rfl) ⟨o, e, q⟩ (.inl ⟨a, t, rfl⟩) ⟨t, rfl⟩ (fun T q => by cases q) ?_
  · refine this.mono fun v h' _ p => ?_
    rw [ints_len hi, List.take_length] at p
    exact p
  · intro A' i v x g' r' kg gg hx hA
    obtain ⟨n, hn, u, rfl⟩ := ints_get hi hx
    obtain ⟨t', rfl⟩ := hA
    refine (xor_c gg r').mono fun v _ _ p => ?_
    show IsI _ v
    rw [foldl_take hn]; exact p
def chosenL (masks : List Int) (i : Nat) : List Int := ((List.range 4).filter fun p => Builtin.bitAnd ((i : Int) / 2 ^ p) 1 != 0).map fun p => masks.getD p 0
def wordF (masks : List Int) (first : Int) (i : Nat) : Int := (chosenL masks i).foldl Builtin.bitXor first
def wordL (masks : List Int) (first : Int) : List Int := (List.range 16).map (wordF masks first)
theorem words_c {k : Nat} {l : Addr} {masks : List Int} {a : Int} {t : Tok} (g : G w h) (r : Rm A (k + 3)) (hl : At h l (intsP masks)) (hlen : masks.length = 4) :
    SE w A h (call (.ref 108) [.ref l, .int a t]) (Spec.Is h (.obj (intsP (wordL masks a)))) := by
  refine enterC (binds := [(Str.ofString "masks", .ref l), (Str.ofString "first", .int a t)]) (by with_unfolding_all rfl) g r (by with_unfolding_all rfl) (fun s _ => BindsTo.of_eq rfl) ?_ (by rfl) (by decide)
  intro s h₀ L E k0 H r1
  have g0 : G w h₀ := g.kp k0
  refine wpAny_execs_cons (ex_assignN H se_list0 fun D h1 tk1 H1 => ?_)
  have H1' : Hp h₀ h1 [(L, nsP _), (D, listP []), (L + 1 + 1, cellP none), (L + 1, cellP (some (.ref l)))] := H1
  refine wpAny_execs_cons (ex_forRange (n := 16) (fun i own => ∃ m vs nv, own = [(L, nsP m), (D, listP vs), (L + 1 + 1, cellP nv), (L + 1, cellP (some (.ref l)))] ∧ IntsAre vs ((List.range i).map (wordF masks a)) ∧ m (Str.ofString "first") = some (.int a t) ∧ m (Str.ofString "words") = some (.ref D))
    (r1.less (Nat.zero_le _)) (by decide) H1' ⟨_, _, _, rfl, IntsAre.nil, rfl, rfl⟩ (se_range (g0.kp H1.keep) se_const) ?_ ?_)
  · rintro i t' s₁ own ro E hi ⟨m, vs, nv, rfl, hvs, hfst, hwd⟩ H2
    have H2' : Hp h₀ s₁.heap ((L + 1 + 1, cellP nv) :: (L, nsP m) :: (D, listP vs) :: (L + 1, cellP (some (.ref l))) :: ro) := H2.perm (by
      refine (List.Perm.trans (l₂ := (L, nsP m) :: (L + 1 + 1, cellP nv) :: (D, listP vs) :: (L + 1, cellP (some (.ref l))) :: ro) ?_ (List.Perm.swap ..))
      exact List.Perm.cons _ (List.Perm.swap ..))
    refine wpAny_assign_Name (ex_storeC H2' fun h2 tk2 H3' => ?_)
    have H3 := H3'.swap
    have g2 : G w h2 := g0.kp H3.keep
    have hl2 : At h2 l (intsP masks) := hl.kp (k0.trans H3.keep)
    have hvl : vs.length ≤ 1000 := by have := ints_len hvs; simp at this; omega
    have hnum : h2.IsCell (L + 1 + 1) (some (.int i t')) := H3'.here.cell
    have hmask : h2.IsCell (L + 1) (some (.ref l)) := (H3.has (L + 1, cellP (some (.ref l))) (by simp)).cell
    refine wpAny_execs_cons (ex_assignComp (List.range 4) (fun (p : Nat) v => IsI (p : Int) v) (fun p => Builtin.bitAnd ((i : Int) / 2 ^ p) 1 != 0) (fun p => vi (masks.getD p 0)) H3 (by with_unfolding_all rfl) ?_ ?_ ?_ (by decide) ?_)
    · exact (se_range (n := 4) g2 se_const).mono fun v g _ ⟨ra, e, q⟩ => e ▸ it_rangeL (n := 4) r1.hh (by decide) q
    · intro C m' p v g' kg hn hm hp hv
      obtain ⟨tp, rfl⟩ := hv
      have hp4 : p < 4 := by simpa using hp
      exact tests1 (st_int (n := Builtin.bitAnd ((i : Int) / 2 ^ ((p : Int).toNat)) 1) (se_and (se_shr (se_int (se_cell (c := L + 1 + 1) (v := .int i t') rfl (hnum.keeps kg))) (se_int (se_local hn hm)) (by omega)) se_const))
    · intro C m' p v g' kg hn hm hp hv _
      obtain ⟨tp, rfl⟩ := hv
      have hp4 : p < 4 := by simpa using hp
      exact se_item (k := (p : Int)) (se_cell (c := L + 1) (v := .ref l) rfl (hmask.keeps kg)) (se_int (se_local hn hm)) (hl2.kp kg) (by omega) (by rw [hlen]; omega) (by omega)
    · intro Dc ys h4 tk4 H4 hP
      have g4 : G w h4 := g0.kp H4.keep
      have hch : At h4 Dc (intsP (chosenL masks i)) := by
        obtain ⟨o, e, q⟩ := H4.tail.here
        exact ⟨o, e, ys, q, paired_ints' (f := fun p => masks.getD p 0) hP⟩
      have H5 : Hp h₀ h4 ((L, nsP (upd m (Str.ofString "chosen") (.ref Dc))) :: (D, listP vs) :: (L + 1 + 1, cellP (some (.int i t'))) :: (L + 1, cellP (some (.ref l))) :: ro) := by
        have := H4.swap.tail
        exact this.perm (List.Perm.cons _ (List.Perm.swap ..))
      refine wpAny_execs_cons (ex_append (P := IsI (wordF masks a i)) H5 (by exact hwd) hvl (se_call3 g4 (se_global (v := .ref 70) g4 (by with_unfolding_all rfl)) (by with_unfolding_all rfl) (se_global (v := .ref 98) g4 (by with_unfolding_all rfl))
        (fun v1 g1 k1 p1 => SE.kp (se_local (v := .ref Dc) H5.here.ns rfl) k1) (fun v1 v2 g1 g2 k1 p1 k2 p2 => SE.kp (se_local (v := .int a t) H5.here.ns (by exact hfst)) (k1.trans k2)) (fun v1 v2 v3 g1 g2 g3 k1 p1 k2 p2 k3 p3 => ?_)) fun v h5 tk5 hv H6 => wpAny_execs_nil ?_)
      · subst p1 p2 p3
        exact red_xor (g4.kp (k1.trans (k2.trans k3))) r1 (hch.kp (k1.trans (k2.trans k3)))
      · obtain ⟨tv, rfl⟩ := hv
        refine ⟨.inl rfl, h5, tk5, _, rfl, ⟨[_, _, _, _], rfl, _, _, _, rfl, ?_, by exact hfst, by exact hwd⟩, H6⟩
        rw [List.range_succ, List.map_append, List.map_singleton]
        exact ints_app hvs _ _
  · rintro h2 tk2 own ⟨m, vs, nv, rfl, hvs, hfst, hwd⟩ H2
    refine wpAny_execs_cons (wpAny_Return_some ((se_local H2.here.ns hwd).go fun v h3 tk3 k3 p3 => ⟨v, h3, tk3, rfl, rfl, H2.keep.trans k3, ?_⟩))
    subst p3
    obtain ⟨o, e, q⟩ := (H2.kp k3).tail.here
    exact ⟨D, rfl, none_kp k0 (H2.tail.new _ (.head _)), o, e, vs, q, hvs⟩
end Mine
end
section
open PySem PySem.W PyProof.Rows PySem.Calls
set_option maxRecDepth 100000
set_option linter.unusedVariables false
set_option maxHeartbeats 200000
namespace Mine
variable {w : World} {A : Around} {env : Env} {h₀ h g : Heap} {s : Shared} {E : Value → Shared → Prop}
def lettersS : Str := Str.ofString "pcdblsrwxSTt?-"
/-- the sign of a price's number -/
def sg (i : Nat) : Str := ⟨#[lettersS.cps.getD i 0]⟩
def mapP (w : World) (f : Str → Option Value) : OP := fun o => ∃ es ep, o.ExactDict ∧ o.data = .dict es ep ∧ KeysOf (PySem.strKind PR w) es ∧ ∀ k, findBy (PySem.strKind PR w).is es k = f k
theorem At.map {d : Addr} {f} (x : At h d (mapP w f)) : h.MapOf (PySem.strKind PR w) d f := let ⟨o, e, es, ep, r⟩ := x; ⟨o, es, ep, e, r⟩
theorem at_map {d : Addr} {f} (x : h.MapOf (PySem.strKind PR w) d f) : At h d (mapP w f) := let ⟨o, es, ep, e, r⟩ := x; ⟨o, e, es, ep, r⟩
def priceP (w : World) (P : Nat → Int) : OP := fun o => ∃ f, mapP w f o ∧ ∀ i, i < 14 → ∃ t, f (sg i) = some (.int (P i) t)
def IsS (x : Str) (v : Value) : Prop := ∃ t, v = .str x t
theorem se_str {x : Str} {k : Nat} {pos : Pos} : SE w A h (eval (.Constant (.str x) k pos) env) (fun v _ => IsS x v) := fun s _ _ _ hQ => wpAny_Constant_str (hQ _ s.heap _ KP.rfl ⟨_, rfl⟩)
/-- a sign of a text -/
theorem se_sign {value slice : Expr} {pos : Pos} {x : Str} {k : Int} {c : Nat} (hv : SE w A h (eval value env) (fun u _ => IsS x u)) (hi : SE w A h (eval slice env) (fun v _ => IsI k v)) (h0 : 0 ≤ k) (hk : k < 2 ^ 63) (hlen : k.toNat < x.length)
    (hc : x.cps[k.toNat]? = some c)
    (hs : ∀ t u, subscripted slice false (.str x t) (.int k u) = operate [.str x t, .int k u] (getItem (.str x t) (.int k u)) := by intro _ _; with_unfolding_all rfl) (hg : ∀ t r, letTemporaryGo value (.str x t) r = pure () := by intro _ _; with_unfolding_all rfl) :
    SE w A h (eval (.Subscript value slice pos) env) (fun v _ => IsS ⟨#[c]⟩ v) := fun s Q E ks hQ => by
  refine Subscript_ (hv s _ _ ks fun v h1 tk1 k1 p1 => ?_)
  refine hi _ _ _ (ks.trans k1) fun v2 h2 tk2 k2 p2 => ?_
  obtain ⟨t, rfl⟩ := p1
  obtain ⟨u, rfl⟩ := p2
  refine subscriptTail_builtin (T := "str") (typeIs_str _ x t) F.slot_str_getitem.lookup (P.getItem_str (c := c) (by simp; omega) ?_ (hQ _ h2 _ (k1.trans k2) ⟨_, rfl⟩)) (hs t u) (hg t)
  have : seqIndex? k x.length = some k.toNat := by unfold seqIndex?; simp; omega
  rw [this]; exact hc
/-- a price looked up -/
theorem se_price {value slice : Expr} {pos : Pos} {d : Addr} {P : Nat → Int} {i : Nat} (hv : SE w A h (eval value env) (fun u _ => u = .ref d)) (hi : SE w A h (eval slice env) (fun v _ => IsS (sg i) v)) (hd : At h d (priceP w P)) (hi14 : i < 14)
    (hs : ∀ u, subscripted slice false (.ref d) (.str (sg i) u) = operate [.ref d, .str (sg i) u] (getItem (.ref d) (.str (sg i) u)) := by intro _; with_unfolding_all rfl) (hg : ∀ r, letTemporaryGo value (.ref d) r = pure () := by intro _; with_unfolding_all rfl) :
    SE w A h (eval (.Subscript value slice pos) env) (fun v _ => IsI (P i) v) := fun s Q E ks hQ => by
  refine Subscript_ (hv s _ _ ks fun v h1 tk1 k1 p1 => ?_)
  refine hi _ _ _ (ks.trans k1) fun v2 h2 tk2 k2 p2 => ?_
  subst p1
  obtain ⟨u, rfl⟩ := p2
  obtain ⟨o, e, f, hm, hf⟩ := hd.kp (ks.trans (k1.trans k2))
  obtain ⟨t, ht⟩ := hf i hi14
  have hM : h2.MapOf (PySem.strKind PR w) d f := At.map ⟨o, e, hm⟩
  refine subscriptTail_builtin (T := "dict") hM.typeIs slot_dict_getitem.lookup (wpAny_getItem_of (k := sg i) (by simp [PySem.strKind, Value.isStrOf]) hM ht ?_) (hs u) hg
  exact hQ _ h2 _ (k1.trans k2) ⟨t, rfl⟩
def startsL : List Int := [2, 3, 5, 7, 4, 6, 2, 3, 5, 7, 8, 9, 0, 1]
def priceF (n : Int) (i : Nat) : Int := startsL.getD i 0 + n / 3 ^ i % 3
theorem valueAt_stored {kvs : List (Str × Value)} {k k' : Str} {v : Value} : valueAt (stored kvs k v) k' = if k' = k then some v else valueAt kvs k' := by
  have hnone : ∀ {l : List (Str × Value)}, l.any (fun kv => kv.1 = k) = false → valueAt l k = none := by
    intro l ha
    unfold valueAt
    rw [List.find?_eq_none.mpr]; rfl
    intro p hp hq
    rw [List.any_eq_false] at ha
    exact ha p hp hq
  unfold stored
  split
  · rename_i ha
    induction kvs with
    | nil => simp at ha
    | cons p r ih =>
      rw [List.map_cons]
      by_cases hp : p.1 = k
      · rw [if_pos hp]
        by_cases hk : k' = k
        · rw [if_pos hk]; simp [valueAt, hp, hk]
        · rw [if_neg hk]
          have h1 : ¬ p.1 = k' := fun q => hk (q.symm.trans hp)
          have e1 : valueAt (p :: r) k' = valueAt r k' := by unfold valueAt; rw [List.find?_cons_of_neg (by simpa using h1)]
          have e2 : valueAt ((p.1, v) :: r.map fun kv => if kv.1 = k then (kv.1, v) else kv) k' = valueAt (r.map fun kv => if kv.1 = k then (kv.1, v) else kv) k' := by unfold valueAt; rw [List.find?_cons_of_neg (by simpa using h1)]
          rw [e1, e2]
          by_cases hr : r.any (fun kv => kv.1 = k) = true
          · have := ih hr; rw [if_neg hk] at this; exact this
          · have hid : (r.map fun kv => if kv.1 = k then (kv.1, v) else kv) = r := by
              rw [List.map_congr_left (g := id)]; simp
              intro q hq
              rw [if_neg]; rfl
              intro hqk
              exact hr (List.any_eq_true.mpr ⟨q, hq, by simpa using hqk⟩)
            rw [hid]
      · rw [if_neg hp]
        have hr : r.any (fun kv => kv.1 = k) = true := by simpa [hp] using ha
        have := ih hr
        by_cases hq : p.1 = k'
        · have hk : ¬ k' = k := fun q => hp (hq.trans q)
          rw [if_neg hk]; simp [valueAt, hq]
        · have e1 : valueAt (p :: r) k' = valueAt r k' := by unfold valueAt; rw [List.find?_cons_of_neg (by simpa using hq)]
          have e2 : valueAt (p :: r.map fun kv => if kv.1 = k then (kv.1, v) else kv) k' = valueAt (r.map fun kv => if kv.1 = k then (kv.1, v) else kv) k' := by unfold valueAt; rw [List.find?_cons_of_neg (by simpa using hq)]
          rw [e1, e2]; exact this
  · rename_i ha
    have ha' : kvs.any (fun kv => kv.1 = k) = false := Bool.not_eq_true _ ▸ ha
    by_cases hk : k' = k
    · rw [if_pos hk, hk]
      have := hnone ha'
      unfold valueAt at this ⊢
      rw [List.find?_append]
      rw [Option.map_eq_none_iff] at this
      rw [this]; simp
    · rw [if_neg hk]
      unfold valueAt
      rw [List.find?_append]
      have : List.find? (fun kv : Str × Value => decide (kv.1 = k')) [(k, v)] = none := by simp [Ne.symm hk]
      rw [this, Option.or_none]
theorem stored_all {FK : Value → Str → Prop} {FV : Value → Value → Prop} {n : Int} (hFK : ∀ (i : Nat) v k, i < 14 → IsI (i : Int) v → FK v k → k = sg i) (hFV : ∀ (i : Nat) v y, i < 14 → IsI (i : Int) v → FV v y → IsI (priceF n i) y) {vs : List Value} {kvs : List (Str × Value)} (x : StoredAll FK FV vs kvs) :
    vs.length ≤ 14 → (∀ (j : Nat) v, vs[j]? = some v → IsI (j : Int) v) → ∀ i, i < vs.length → ∃ t, valueAt kvs (sg i) = some (.int (priceF n i) t) := by
  induction x with
  | nil => intro _ _ i hi; simp at hi
  | @snoc l kvs v k y _ hk hy ih =>
    intro hl hv i hi
    have hvl : IsI (l.length : Int) v := hv l.length v (by simp)
    have hl14 : l.length < 14 := by simp at hl; omega
    rw [valueAt_stored]
    have hkk := hFK l.length v k hl14 hvl hk
    by_cases he : i = l.length
    · subst he
      rw [if_pos hkk.symm]
      obtain ⟨t, rfl⟩ := hFV l.length v y hl14 hvl hy
      exact ⟨t, rfl⟩
    · have hi' : i < l.length := by simp at hi; omega
      have hne : sg i ≠ k := by
        rw [hkk]
        have : ∀ a, a < 14 → ∀ b, b < 14 → a ≠ b → sg a ≠ sg b := by decide
        exact this i (by omega) l.length hl14 he
      rw [if_neg hne]
      exact ih (by omega) (fun j u hj => hv j u (by rw [List.getElem?_append_left (by have := List.getElem?_eq_some_iff.mp hj; obtain ⟨q, _⟩ := this; exact q)]; exact hj)) i hi'
/-- x = e, x a cell -/
theorem ex_assignC {x : Str} {pos' pos : Pos} {value : Expr} {P : Value → Prop} {c : Addr} {v₀ : Option Value} {r : Own} {Q : Flow → Shared → Prop} (H : Hp h₀ s.heap ((c, cellP v₀) :: r)) (hv : SE w A s.heap (eval value env) (fun v _ => P v))
    (hQ : ∀ v h' tk, P v → Hp h₀ h' ((c, cellP (some v)) :: r) → Q .next { s with heap := h', toks := tk })
    (hc : env.cells.lookup x = some c := by rfl) (hl : env.kindOf x = some .cell := by rfl) (hk : env.scope.kind = .function := by rfl)
    (hs : swapsWith value (some (.Name x pos')) pos.line env = pure false := by rfl) : wpAny (MM w) A (exec (.Assign [.Name x pos'] value pos) env) Q E s :=
  wpAny_Assign_Name (hv.go fun v h' tk k p => ex_storeC (H.kp k) (fun h'' tk' H' => hQ v h'' tk' p H') hc hl hk) hs
theorem ex_assignCN {x : Str} {pos' pos : Pos} {value : Expr} {S : OP} {c : Addr} {v₀ : Option Value} {r : Own} {Q : Flow → Shared → Prop} (H : Hp h₀ s.heap ((c, cellP v₀) :: r)) (hv : SE w A s.heap (eval value env) (Spec.Is s.heap (.obj S)))
    (hQ : ∀ a h' tk, Hp h₀ h' ((c, cellP (some (.ref a))) :: (a, S) :: r) → Q .next { s with heap := h', toks := tk })
    (hc : env.cells.lookup x = some c := by rfl) (hl : env.kindOf x = some .cell := by rfl) (hk : env.scope.kind = .function := by rfl)
    (hs : swapsWith value (some (.Name x pos')) pos.line env = pure false := by rfl) : wpAny (MM w) A (exec (.Assign [.Name x pos'] value pos) env) Q E s := by
  refine wpAny_Assign_Name (hv.go fun v h' tk k p => ?_) hs
  obtain ⟨a, rfl, hn, q⟩ := p
  exact ex_storeC (H.add k hn q).swap (fun h'' tk' H' => hQ a h'' tk' H') hc hl hk
end Mine
end
section
open PySem PySem.W PyProof.Rows PySem.Calls
set_option maxRecDepth 100000
set_option linter.unusedVariables false
namespace Mine
variable {w : World} {A : Around} {env : Env} {h₀ h g : Heap} {s : Shared} {E : Value → Shared → Prop}
theorem ses_c {c : Int} {k : Nat} {p : Pos} {es : List Expr} {ns : List Int} (x : SEs w A h env es ns) : SEs w A h env (.Constant (.int c) k p :: es) (c :: ns) := SEs.cons se_const rfl x
theorem prices_c {k : Nat} {n : Int} {t : Tok} (g : G w h) (r : Rm A (k + 1)) : SE w A h (call (.ref 103) [.int n t]) (Spec.Is h (.obj (priceP w (priceF n)))) := by
  refine enterC (binds := [(Str.ofString "number", .int n t)]) (by with_unfolding_all rfl) g r (by with_unfolding_all rfl) (fun s _ => BindsTo.of_eq rfl) ?_ (by rfl) (by decide)
  intro s h₀ L E k0 H r1
  have g0 : G w h₀ := g.kp k0
  have H' : Hp h₀ s.heap [(L, nsP _), (L + 1 + 1 + 1, cellP none), (L + 1 + 1, cellP none), (L + 1, cellP (some (.int n t)))] := H
  have H1 : Hp h₀ s.heap [(L + 1 + 1, cellP none), (L + 1 + 1 + 1, cellP none), (L, nsP _), (L + 1, cellP (some (.int n t)))] := H'.perm (by
    refine List.Perm.trans (List.Perm.swap ..) (List.Perm.trans (List.Perm.cons _ (List.Perm.swap ..)) (List.Perm.swap ..)))
  refine wpAny_execs_cons ?_
  with_reducible refine ex_assignCN (S := intsP startsL) H1 ?hv (fun D h1 tk1 H2 => ?hQ) ?hc ?hl ?hk ?hs
  case hv =>
    with_reducible refine se_listI (ns := startsL) ?ha ?hb
    case hb => decide
    unfold startsL
    exact ses_c (ses_c (ses_c (ses_c (ses_c (ses_c (ses_c (ses_c (ses_c (ses_c (ses_c (ses_c (ses_c (ses_c SEs.nil)))))))))))))
  case hc => rfl
  case hl => rfl
  case hk => rfl
  case hs => rfl
  have H3 : Hp h₀ h1 [(L + 1 + 1 + 1, cellP none), (L + 1 + 1, cellP (some (.ref D))), (D, intsP startsL), (L, nsP _), (L + 1, cellP (some (.int n t)))] := H2.perm (by
    refine List.Perm.trans (List.Perm.cons _ (List.Perm.swap ..)) (List.Perm.swap ..))
  refine wpAny_execs_cons (ex_assignC (P := IsS lettersS) H3 se_str fun v h2 tk2 hv H4 => ?_)
  obtain ⟨tl, rfl⟩ := hv
  have hnum : h2.IsCell (L + 1) (some (.int n t)) := (H4.has (L + 1, cellP (some (.int n t))) (by simp)).cell
  have hst : h2.IsCell (L + 1 + 1) (some (.ref D)) := (H4.has (L + 1 + 1, cellP (some (.ref D))) (by simp)).cell
  have hlet : h2.IsCell (L + 1 + 1 + 1) (some (.str lettersS tl)) := H4.here.cell
  have hD : At h2 D (intsP startsL) := H4.has (D, intsP startsL) (by simp)
  have g2 : G w h2 := g0.kp H4.keep
  refine wpAny_execs_cons (wpAny_Return_some (wpAny_DictComp_free (PySem.strKind PR w) (fun _ => true) (fun v k => ∀ i : Nat, IsI (i : Int) v → k = sg i) (fun v y => ∀ i : Nat, IsI (i : Int) v → IsI (priceF n i) y) (by with_unfolding_all rfl) (by decide) (by rfl) (by decide) (by rfl) ?_))
  refine (se_range (n := 14) g2 se_const).go fun v h3 tk3 k3 p3 => ?_
  obtain ⟨ra, rfl, hra⟩ := p3
  refine it_rangeL (w := w) (n := 14) r1.hh (by decide) hra _ _ _ KP.rfl fun I fp wr St h4 tk4 W hst4 k4 hfp hwr hex => ?_
  have up : ∀ (s₃ : Shared), (∀ b o, b ∉ wr → h4.get? b = some o → s₃.heap.get? b = some o) → KP h2 s₃.heap := fun s₃ hk b o e => hk b o (fun hb => by have := hwr b hb; rw [k3 b o e] at this; cases this) (k4 b o (k3 b o e))
  refine ⟨I, fp, wr, _, _, St, rfl, W, by decide, hst4, hfp, ⟨?_, ?_, ?_⟩, ?_⟩
  · intro C i v s₃ m₃ E' hv hn hm hk
    exact (tests0 (w := w) (h := s₃.heap)).go fun ok h' tk kk p => ⟨p, h', tk, rfl, kk⟩
  · intro C i v s₃ m₃ E' hv hi9 hn hm hk
    have kk := up s₃ hk
    obtain ⟨i, hri, tv, rfl⟩ := hv
    have hi14 : i < 14 := List.mem_range.mp (List.mem_of_getElem? hri)
    have hc : lettersS.cps[(i : Int).toNat]? = some (lettersS.cps.getD i 0) := by
      have : ∀ j, j < 14 → lettersS.cps[j]? = some (lettersS.cps.getD j 0) := by decide
      exact this i hi14
    have hl : (i : Int).toNat < lettersS.length := by
      have : lettersS.length = 14 := by decide
      rw [this]; omega
    refine (se_sign (k := (i : Int)) (c := lettersS.cps.getD i 0) ((se_cell (c := L + 1 + 1 + 1) (v := .str lettersS tl) rfl (hlet.keeps kk)).mono fun _ _ _ e => ⟨tl, e⟩) (se_int (se_local hn hm)) (by omega) (by omega) hl hc).go fun key h' tk kk' p => ⟨⟨sg i, ?_, ?_⟩, h', tk, rfl, kk'⟩
    · obtain ⟨u, rfl⟩ := p
      simp [PySem.strKind, Value.isStrOf, sg]
    · rintro j ⟨u, e⟩
      have : (j : Int) = i := by injection e with e _; omega
      have : j = i := by omega
      rw [this]
  · intro C i v s₃ m₃ E' hv _ hn hm hk
    have kk := up s₃ hk
    obtain ⟨i, hri, tv, rfl⟩ := hv
    have hi14 : i < 14 := List.mem_range.mp (List.mem_of_getElem? hri)
    have h3p : (0 : Int) < 3 ^ i := Int.pow_pos (by decide)
    have h3b : (3 : Int) ^ i < 1073741824 := by
      have : ∀ j, j < 14 → (3 : Int) ^ j < 1073741824 := by decide
      exact this i hi14
    refine (se_add (se_item (k := (i : Int)) (ns := startsL) (se_cell (c := L + 1 + 1) (v := .ref D) rfl (hst.keeps kk)) (se_int (se_local hn hm)) (hD.kp kk) (by omega) (by show (i : Int) < 14; omega) (by omega))
      (se_mod (se_div (b := 3 ^ i) (se_int (se_cell (c := L + 1) (v := .int n t) rfl (hnum.keeps kk))) (se_pow (b := (i : Int)) se_const (se_int (se_local hn hm)) (by omega) (by omega) (by decide)) h3p h3b) se_const (by decide))).go fun y h' tk kk' p => ⟨?_, h', tk, rfl, kk'⟩
    rintro j ⟨u, e⟩
    have : (j : Int) = i := by injection e with e _; omega
    have : j = i := by omega
    rw [this]
    exact p
  · intro D' h5 tk5 kvs vs hD5 hdict hlen hP hF hk
    have hlen' : vs.length = 14 := by simpa using hlen
    have hP' : ∀ (j : Nat) v, vs[j]? = some v → IsI (j : Int) v := fun j v hj => by
      obtain ⟨a, ha, u, e⟩ := hP j v hj
      have := List.getElem?_eq_some_iff.mp ha
      obtain ⟨_, q⟩ := this
      rw [List.getElem_range] at q
      exact ⟨u, by rw [e, ← q]⟩
    rw [List.filter_eq_self.mpr (by intros; rfl)] at hF
    have hall := stored_all (n := n) (fun i v k hi hv hk => hk i hv) (fun i v y hi hv hy => hy i hv) hF (by omega) hP'
    have kk5 : KP h2 h5 := fun b o e => hk b o (fun hb => by have := hwr b hb; rw [k3 b o e] at this; cases this) (k4 b o (k3 b o e))
    refine ⟨_, h5, tk5, rfl, rfl, H4.keep.trans kk5, D', rfl, none_kp (k0.trans (H4.keep.trans (k3.trans k4))) hD5, ?_⟩
    obtain ⟨o, e, q⟩ := at_map hdict.mapOf
    exact ⟨o, e, _, q, fun i hi => hall i (by omega)⟩
end Mine
end
section
open PySem PySem.W PyProof.Rows PySem.Calls
set_option maxRecDepth 100000
set_option linter.unusedVariables false
namespace Mine
variable {w : World} {A : Around} {env : Env} {h₀ h g : Heap} {s : Shared} {E : Value → Shared → Prop}
def idx2 (k : Int) (a : Nat) : Nat := if k = 0 then 13 else a
def rightF (P : Nat → Int) (e : Nat → Nat) (lead : Int) (i : Nat) : Int :=
  (P (idx2 ((i : Int) / 4 % 2) 6) + lead) * (P (idx2 ((i : Int) / 2 % 2) 7) + lead + 1) * (P (e ((i : Int) % 2 + (i : Int) / 8 * 2).toNat) + lead + 2)
def rightL (P : Nat → Int) (e : Nat → Nat) (lead : Int) : List Int := (List.range 16).map (rightF P e lead)
theorem rights_c {k : Nat} {d : Addr} {P : Nat → Int} {ends : Str} {te tl : Tok} {e : Nat → Nat} {lead : Int} (g : G w h) (r : Rm A (k + 1)) (hd : At h d (priceP w P)) (hP : ∀ i, i < 14 → 0 ≤ P i ∧ P i ≤ 11) (hlead : 0 ≤ lead ∧ lead ≤ 20)
    (hends : ends.length = 4) (he : ∀ j, j < 4 → e j < 14 ∧ ends.cps[j]? = some (lettersS.cps.getD (e j) 0)) :
    SE w A h (call (.ref 127) [.ref d, .str ends te, .int lead tl]) (Spec.Is h (.obj (intsP (rightL P e lead)))) := by
  refine enter (binds := [(Str.ofString "prices", .ref d), (Str.ofString "ends", .str ends te), (Str.ofString "lead", .int lead tl)]) (by with_unfolding_all rfl) g r (by with_unfolding_all rfl) (fun s _ => BindsTo.of_eq rfl) ?_ (locs rfl)
  intro s h₀ L E k0 H r1
  have g0 : G w h₀ := g.kp k0
  refine wpAny_execs_cons (ex_assignN H se_list0 fun D h1 tk1 H1 => ?_)
  refine wpAny_execs_cons (ex_forRange (n := 16) (fun i own => ∃ m vs, own = [(L, nsP m), (D, listP vs)] ∧ IntsAre vs ((List.range i).map (rightF P e lead)) ∧ m (Str.ofString "prices") = some (.ref d) ∧ m (Str.ofString "ends") = some (.str ends te) ∧ m (Str.ofString "lead") = some (.int lead tl) ∧ m (Str.ofString "worths") = some (.ref D))
    (r1.less (Nat.zero_le _)) (by decide) H1 ⟨_, _, rfl, IntsAre.nil, rfl, rfl, rfl, rfl⟩ (se_range (g0.kp H1.keep) se_const) ?_ ?_)
  · rintro i t s₁ own ro E hi ⟨m, vs, rfl, hvs, hpr, hen, hle, hwo⟩ H2
    refine wpAny_assign_Name (ex_store H2 fun h2 tk2 H3 => ?_)
    have hvl : vs.length ≤ 1000 := by have := ints_len hvs; simp at this; omega
    have two : ∀ (x : Str) (a : Nat) (k : Int), x = ⟨#[45, lettersS.cps.getD a 0]⟩ → (k = 0 ∨ k = 1) → x.cps[k.toNat]? = some (lettersS.cps.getD (idx2 k a) 0) ∧ k.toNat < x.length := by
      intro x a k hx hk
      subst hx
      rcases hk with rfl | rfl
      · exact ⟨by simp [idx2]; decide, by simp [Str.length]⟩
      · exact ⟨by simp [idx2], by simp [Str.length]⟩
    have hk4 : (i : Int) / 4 % 2 = 0 ∨ (i : Int) / 4 % 2 = 1 := by omega
    have hk2 : (i : Int) / 2 % 2 = 0 ∨ (i : Int) / 2 % 2 = 1 := by omega
    have i4 : idx2 ((i : Int) / 4 % 2) 6 < 14 := by unfold idx2; split <;> omega
    have i2 : idx2 ((i : Int) / 2 % 2) 7 < 14 := by unfold idx2; split <;> omega
    have q4 := two (Str.ofString "-r") 6 _ (by decide) hk4
    have q2 := two (Str.ofString "-w") 7 _ (by decide) hk2
    refine wpAny_execs_cons (ex_assign (P := IsI (P (idx2 ((i : Int) / 4 % 2) 6) + lead)) H3 (se_add (se_price (i := idx2 ((i : Int) / 4 % 2) 6) (se_local (v := .ref d) H3.here.ns (by exact hpr))
      (se_sign (k := (i : Int) / 4 % 2) se_str (se_mod (se_div (se_int (se_local (v := .int i t) H3.here.ns rfl)) se_const (by decide) (by decide)) se_const (by decide)) (by omega) (by omega) q4.2 q4.1) (hd.kp (k0.trans H3.keep)) i4) (se_int (se_local (v := .int lead tl) H3.here.ns (by exact hle)))) fun v3 h3 tk3 hv3 H4 => ?_)
    obtain ⟨t3, rfl⟩ := hv3
    refine wpAny_execs_cons (ex_assign (P := IsI (P (idx2 ((i : Int) / 2 % 2) 7) + lead + 1)) H4 (se_add (se_add (se_price (i := idx2 ((i : Int) / 2 % 2) 7) (se_local (v := .ref d) H4.here.ns (by exact hpr))
      (se_sign (k := (i : Int) / 2 % 2) se_str (se_mod (se_div (se_int (se_local (v := .int i t) H4.here.ns rfl)) se_const (by decide) (by decide)) se_const (by decide)) (by omega) (by omega) q2.2 q2.1) (hd.kp (k0.trans H4.keep)) i2) (se_int (se_local (v := .int lead tl) H4.here.ns (by exact hle)))) se_const) fun v4 h4 tk4 hv4 H5 => ?_)
    obtain ⟨t4, rfl⟩ := hv4
    have hj : ((i : Int) % 2 + (i : Int) / 8 * 2).toNat < 4 := by omega
    have qe := he _ hj
    have b1 := hP _ i4
    have b2 := hP _ i2
    have b3 := hP _ qe.1
    refine wpAny_execs_cons (ex_append (P := IsI (rightF P e lead i)) H5 (by exact hwo) hvl (se_mul (se_mul (se_int (se_local (v := .int _ t3) H5.here.ns rfl)) (se_int (se_local (v := .int _ t4) H5.here.ns rfl)) (IntMulOk.of_right (intBits_le_64 (by omega) (by omega))))
      (se_add (se_add (se_price (i := e ((i : Int) % 2 + (i : Int) / 8 * 2).toNat) (se_local (v := .ref d) H5.here.ns (by exact hpr))
        (se_sign (k := (i : Int) % 2 + (i : Int) / 8 * 2) ((se_local (v := .str ends te) H5.here.ns (by exact hen)).mono fun _ _ _ q => ⟨te, q⟩) (se_add (se_mod (se_int (se_local (v := .int i t) H5.here.ns rfl)) se_const (by decide)) (se_mul (se_div (se_int (se_local (v := .int i t) H5.here.ns rfl)) se_const (by decide) (by decide)) se_const (IntMulOk.of_right (intBits_le_64 (by decide) (by decide))))) (by omega) (by omega) (by rw [hends]; exact hj) qe.2)
        (hd.kp (k0.trans H5.keep)) qe.1) (se_int (se_local (v := .int lead tl) H5.here.ns (by exact hle)))) se_const) (IntMulOk.of_right (intBits_le_64 (by omega) (by omega)))) fun v h5 tk5 hv H6 => wpAny_execs_nil ?_)
    obtain ⟨tv, rfl⟩ := hv
    refine ⟨.inl rfl, h5, tk5, _, rfl, ⟨[_, _], rfl, _, _, rfl, ?_, by exact hpr, by exact hen, by exact hle, by exact hwo⟩, H6⟩
    rw [List.range_succ, List.map_append, List.map_singleton]
    exact ints_app hvs _ _
  · rintro h2 tk2 own ⟨m, vs, rfl, hvs, hpr, hen, hle, hwo⟩ H2
    refine wpAny_execs_cons (wpAny_Return_some ((se_local H2.here.ns hwo).go fun v h3 tk3 k3 p3 => ⟨v, h3, tk3, rfl, rfl, H2.keep.trans k3, ?_⟩))
    subst p3
    obtain ⟨o, e, q⟩ := (H2.kp k3).tail.here
    exact ⟨D, rfl, none_kp k0 (H2.tail.new _ (.head _)), o, e, vs, q, hvs⟩
end Mine
end
section
open PySem PySem.W PyProof.Rows PySem.Calls
set_option maxRecDepth 100000
set_option linter.unusedVariables false
namespace Mine
variable {w : World} {A : Around} {env : Env} {h₀ h g : Heap} {s : Shared} {E : Value → Shared → Prop}
theorem sum_c {l : Addr} {ns : List Int} (hh : A.handled = none) (hl : At h l (intsP ns)) : SE w A h (call (.builtin "sum") [.ref l]) (fun v _ => IsI ns.sum v) := fun s Q E ks hQ => by
  obtain ⟨vs, hL, hi⟩ := (hl.kp ks).ints
  obtain ⟨xs, hx⟩ := hi.allInts.items
  have e : numsOf vs.toArray.toList = ns := hi.numsOf
  rw [hx] at hL e
  rw [nums_intItems] at e
  refine sum_intListG hh hL fun h' tk t' hk => hQ _ h' tk hk ⟨t', ?_⟩
  rw [preSum_eq, List.take_of_length_le (by simp), e]
/-- a builtin called by its name upon what an expression makes -/
theorem se_bcallE {fn : Str} {id : String} {p pos : Pos} {e : Expr} {P1 P : Value → Heap → Prop} (hf : SE w A h (eval (.Name fn p) env) (fun u _ => u = .builtin id)) (he : SE w A h (eval e env) P1)
    (hc : ∀ v g, KP h g → P1 v g → SE w A g (call (.builtin id) [v]) P) (hs : starEach [e] env = [(false, eval e env)] := by rfl) :
    SE w A h (eval (.Call (.Name fn p) [e] [] pos) env) P := fun s Q E ks hQ => by
  refine Call_Name (trees := backTo pos (starEach [e] env)) rfl (hf s _ _ ks fun v' h' tk k p => ?_)
  subst p
  refine callWith_builtin1 (args_cons ?_ ?_) ?_ ?_
  · refine he _ _ _ (ks.trans k) fun v1 h1 tk1 k1 p1 => args_nil ?_
    exact hc v1 h1 (ks.trans (k.trans k1)) p1 _ _ _ KP.rfl fun v2 h2 tk2 k2 p2 => hQ v2 h2 tk2 (k.trans (k1.trans k2)) p2
  · rw [hs]; rfl
  · rw [hs]; rfl
  · rfl
theorem se_sum {p pos : Pos} {e : Expr} {ns : List Int} (g : G w h) (hh : A.handled = none) (he : SE w A h (eval e env) (Spec.Is h (.obj (intsP ns)))) (hg : env.globals = mainGlobals := by rfl) (hb : env.builtins = builtinsNs := by rfl)
    (hk : env.scope.kind = .function := by rfl) (hx : env.kindOf (Str.ofString "sum") = some .globalImplicit := by rfl) (hs : starEach [e] env = [(false, eval e env)] := by rfl) :
    SE w A h (eval (.Call (.Name (Str.ofString "sum") p) [e] [] pos) env) (fun v _ => IsI ns.sum v) :=
  se_bcallE (se_builtin (v := .builtin "sum") g (by with_unfolding_all rfl) (by decide +kernel) (by decide) hg hb hk hx (by decide)) he (fun v g' kg q => by
    obtain ⟨a, rfl, _, hA⟩ := q
    exact sum_c hh hA) hs
theorem ex_augAdd {x : Str} {pos' pos : Pos} {value : Expr} {a b : Int} {t : Tok} {m : Str → Option Value} {L : Addr} {r : Own} {Q : Flow → Shared → Prop} (H : Hp h₀ s.heap ((L, nsP m) :: r)) (hx : m x = some (.int a t)) (hv : SE w A s.heap (eval value env) (fun v _ => IsI b v))
    (hQ : ∀ t h' tk, Hp h₀ h' ((L, nsP (upd m x (.int (a + b) t))) :: r) → Q .next { s with heap := h', toks := tk })
    (hL : env.locals = L := by rfl) (hk : env.scope.kind = .function := by rfl) (hl : env.kindOf x = some .local := by rfl) (hp : (env.scope.kind == .class || (env.scope.kind == .module && env.locals != env.globals)) = false := by rfl) :
    wpAny (MM w) A (exec (.AugAssign (.Name x pos') .Add value pos) env) Q E s := by
  subst hL
  refine wpAny_AugAssign_Name (wpAny_loadName_local hk hl H.here.ns hx (hv.go fun v h1 tk1 k1 p1 => ?_))
  obtain ⟨u, rfl⟩ := p1
  exact PyProof.Rows.iadd_int (ex_store (H.kp k1) (fun h' tk H' => hQ _ h' tk H') rfl hl hp)
def chP (rows : List Int) (i : Nat) (p : Nat) : Bool := oddF (Builtin.bitAnd (i : Int) (rows.getD p 0)) != 0
def chF (rows : List Int) (i : Nat) : Int := (((List.range 4).filter (chP rows i)).map fun p => (2 : Int) ^ p).sum
theorem ch_bound (q : Nat → Bool) : 0 ≤ (((List.range 4).filter q).map fun p => (2 : Int) ^ p).sum ∧ (((List.range 4).filter q).map fun p => (2 : Int) ^ p).sum < 16 := by
  have e : List.range 4 = [0, 1, 2, 3] := rfl
  rw [e]
  simp only [List.filter_cons, List.filter_nil]
  cases q 0 <;> cases q 1 <;> cases q 2 <;> cases q 3 <;> decide
def turnF (rows : List Int) (s0 s1 : Int) (kinds rights : List Int) (i : Nat) : Int :=
  if (oddF (Builtin.bitAnd (i : Int) s0) != oddF (Builtin.bitAnd (chF rows i) s1)) = true then -(kinds.getD i 0 * rights.getD (chF rows i).toNat 0) else kinds.getD i 0 * rights.getD (chF rows i).toNat 0
def acrossF (rows : List Int) (s0 s1 : Int) (kinds rights : List Int) : Int := ((List.range 16).map (turnF rows s0 s1 kinds rights)).sum
theorem across_c {k : Nat} {lr ls lk lg : Addr} {rows kinds rights : List Int} {s0 s1 : Int} (g : G w h) (r : Rm A (k + 2)) (hr : At h lr (intsP rows)) (hrl : rows.length = 4) (hs : At h ls (intsP [s0, s1])) (hk : At h lk (intsP kinds)) (hkl : kinds.length = 16)
    (hkb : ∀ i, i < 16 → -(2 ^ 60) < kinds.getD i 0 ∧ kinds.getD i 0 < 2 ^ 60) (hg : At h lg (intsP rights)) (hgl : rights.length = 16) :
    SE w A h (call (.ref 139) [.ref lr, .ref ls, .ref lk, .ref lg]) (fun v _ => IsI (acrossF rows s0 s1 kinds rights) v) := by
  refine enterC (binds := [(Str.ofString "rows", .ref lr), (Str.ofString "shift", .ref ls), (Str.ofString "kinds", .ref lk), (Str.ofString "rights", .ref lg)]) (by with_unfolding_all rfl) g r (by with_unfolding_all rfl) (fun s _ => BindsTo.of_eq rfl) ?_ (by rfl) (by decide)
  intro s h₀ L E k0 H r1
  have g0 : G w h₀ := g.kp k0
  refine wpAny_execs_cons (ex_assign (P := IsI 0) H se_const fun v1 h1 tk1 hv1 H1 => ?_)
  obtain ⟨t1, rfl⟩ := hv1
  have H1' : Hp h₀ h1 [(L, nsP _), (L + 1 + 1, cellP none), (L + 1, cellP (some (.ref lr)))] := H1
  refine wpAny_execs_cons (ex_forRange (n := 16) (fun i own => ∃ m nv tw, own = [(L, nsP m), (L + 1 + 1, cellP nv), (L + 1, cellP (some (.ref lr)))] ∧ m (Str.ofString "whole") = some (.int ((List.range i).map (turnF rows s0 s1 kinds rights)).sum tw) ∧
      m (Str.ofString "shift") = some (.ref ls) ∧ m (Str.ofString "kinds") = some (.ref lk) ∧ m (Str.ofString "rights") = some (.ref lg))
    (r1.less (Nat.zero_le _)) (by decide) H1' ⟨_, _, t1, rfl, rfl, rfl, rfl, rfl⟩ (se_range (g0.kp H1.keep) se_const) ?_ ?_)
  · rintro i t s₁ own ro E hi ⟨m, nv, tw, rfl, hwh, hsh, hki, hri⟩ H2
    refine wpAny_assign_Name (ex_storeC H2.swap fun h2 tk2 H3' => ?_)
    have H3 : Hp h₀ h2 ((L, nsP m) :: (L + 1 + 1, cellP (some (.int i t))) :: (L + 1, cellP (some (.ref lr))) :: ro) := H3'.swap
    have g2 : G w h2 := g0.kp H3.keep
    have hnum : h2.IsCell (L + 1 + 1) (some (.int i t)) := H3'.here.cell
    have hrow : h2.IsCell (L + 1) (some (.ref lr)) := (H3.has (L + 1, cellP (some (.ref lr))) (by simp)).cell
    have kh2 : KP h h2 := k0.trans H3.keep
    have hcb := ch_bound (chP rows i)
    refine wpAny_execs_cons (ex_assign (P := IsI (chF rows i)) H3 (se_sum g2 r1.hh (se_compI (List.range 4) (fun (p : Nat) v => IsI (p : Int) v) (chP rows i) (fun p => (2 : Int) ^ p) (by with_unfolding_all rfl) ?_ ?_ ?_ (by decide))) fun v3 h3 tk3 hv3 H4 => ?_)
    · exact (se_range (n := 4) g2 se_const).mono fun v g _ ⟨ra, e, q⟩ => e ▸ it_rangeL (n := 4) r1.hh (by decide) q
    · intro C m' p v g' kg hn hm hp hv
      obtain ⟨tp, rfl⟩ := hv
      have hp4 : p < 4 := by simpa using hp
      refine tests1 (st_int (n := oddF (Builtin.bitAnd (i : Int) (rows.getD p 0))) (se_call1 (g2.kp kg) (se_global (v := .ref 134) (g2.kp kg) (by with_unfolding_all rfl)) (by with_unfolding_all rfl)
        (se_and (se_int (se_cell (c := L + 1 + 1) (v := .int i t) rfl (hnum.keeps kg))) (se_item (k := (p : Int)) (ns := rows) (se_cell (c := L + 1) (v := .ref lr) rfl (hrow.keeps kg)) (se_int (se_local hn hm)) (hr.kp (kh2.trans kg)) (by omega) (by rw [hrl]; omega) (by omega)))
        (fun v1 g1 k1 p1 => ?_)))
      obtain ⟨t1, rfl⟩ := p1
      exact odd_c ((g2.kp kg).kp k1) r1
    · intro C m' p v g' kg hn hm hp hv _
      obtain ⟨tp, rfl⟩ := hv
      have hp4 : p < 4 := by simpa using hp
      exact se_pow (b := (p : Int)) se_const (se_int (se_local hn hm)) (by omega) (by omega) (by decide)
    obtain ⟨t3, rfl⟩ := hv3
    have kh3 : KP h h3 := k0.trans H4.keep
    have hbk := hkb i hi
    refine wpAny_execs_cons (ex_assign (P := IsI (kinds.getD i 0 * rights.getD (chF rows i).toNat 0)) H4 (se_mul (se_item (k := (i : Int)) (ns := kinds) (se_local (v := .ref lk) H4.here.ns (by exact hki)) (se_int (se_cell (c := L + 1 + 1) (v := .int i t) rfl H4.tail.here.cell)) (hk.kp kh3) (by omega) (by rw [hkl]; omega) (by omega))
      (se_item (k := chF rows i) (ns := rights) (se_local (v := .ref lg) H4.here.ns (by exact hri)) (se_int (se_local (v := .int _ t3) H4.here.ns rfl)) (hg.kp kh3) hcb.1 (by rw [hgl]; exact hcb.2) (by have := hcb.2; unfold chF; omega)) (IntMulOk.of_left (intBits_le_64 (by show -(2 ^ 64) < kinds.getD i 0; omega) (by show kinds.getD i 0 < 2 ^ 64; omega)))) fun v4 h4 tk4 hv4 H5 => ?_)
    obtain ⟨t4, rfl⟩ := hv4
    have kh4 : KP h h4 := k0.trans H5.keep
    have g4 : G w h4 := g0.kp H5.keep
    refine wpAny_execs_cons (wpAny_If ((st_ne (a := oddF (Builtin.bitAnd (i : Int) s0)) (b := oddF (Builtin.bitAnd (chF rows i) s1)) (se_call1 g4 (se_global (v := .ref 134) g4 (by with_unfolding_all rfl)) (by with_unfolding_all rfl)
        (se_and (se_int (se_cell (c := L + 1 + 1) (v := .int i t) rfl H5.tail.here.cell)) (se_item (k := 0) (ns := [s0, s1]) (se_local (v := .ref ls) H5.here.ns (by exact hsh)) se_const (hs.kp kh4) (by omega) (by simp) (by omega)))
        (fun v1 g1 k1 p1 => by obtain ⟨t1, rfl⟩ := p1; exact odd_c (g4.kp k1) r1))
      (se_call1 g4 (se_global (v := .ref 134) g4 (by with_unfolding_all rfl)) (by with_unfolding_all rfl)
        (se_and (se_int (se_local (v := .int _ t3) H5.here.ns rfl)) (se_item (k := 1) (ns := [s0, s1]) (se_local (v := .ref ls) H5.here.ns (by exact hsh)) se_const (hs.kp kh4) (by omega) (by simp) (by omega)))
        (fun v1 g1 k1 p1 => by obtain ⟨t1, rfl⟩ := p1; exact odd_c (g4.kp k1) r1))).go fun b h5 tk5 k5 p5 => ?_))
    subst p5
    have H6 := H5.kp k5
    have fin : ∀ {n : Int} {tv : Tok} {h6 : Heap} {tk6 : Nat} {m6 : Str → Option Value}, n = turnF rows s0 s1 kinds rights i → m6 (Str.ofString "whole") = some (.int (((List.range i).map (turnF rows s0 s1 kinds rights)).sum + n) tv) →
        m6 (Str.ofString "shift") = some (.ref ls) → m6 (Str.ofString "kinds") = some (.ref lk) → m6 (Str.ofString "rights") = some (.ref lg) → Hp h₀ h6 ((L, nsP m6) :: (L + 1 + 1, cellP (some (.int i t))) :: (L + 1, cellP (some (.ref lr))) :: ro) →
        Turn h₀ s₁ (fun o => ∃ own', o = own' ++ ro ∧ ∃ m nv tw, own' = [(L, nsP m), (L + 1 + 1, cellP nv), (L + 1, cellP (some (.ref lr)))] ∧ m (Str.ofString "whole") = some (.int ((List.range (i + 1)).map (turnF rows s0 s1 kinds rights)).sum tw) ∧
          m (Str.ofString "shift") = some (.ref ls) ∧ m (Str.ofString "kinds") = some (.ref lk) ∧ m (Str.ofString "rights") = some (.ref lg)) .next { s₁ with heap := h6, toks := tk6 } := by
      intro n tv h6 tk6 m6 hn hw hs' hk' hr' H'
      refine ⟨.inl rfl, h6, tk6, _, rfl, ⟨[_, _, _], rfl, m6, _, tv, rfl, ?_, hs', hk', hr'⟩, H'⟩
      rw [hw, List.range_succ, List.map_append, List.map_singleton, List.sum_append, hn]
      simp
    by_cases hc : (oddF (Builtin.bitAnd (i : Int) s0) != oddF (Builtin.bitAnd (chF rows i) s1)) = true
    · rw [if_pos hc]
      refine wpAny_execs_cons (ex_assign (P := IsI (-(kinds.getD i 0 * rights.getD (chF rows i).toNat 0))) H6 (se_neg (se_int (se_local (v := .int _ t4) H6.here.ns rfl))) fun v7 h7 tk7 hv7 H7 => wpAny_execs_nil ?_)
      obtain ⟨t7, rfl⟩ := hv7
      refine wpAny_execs_cons (ex_augAdd H7 (by exact hwh) (se_int (se_local (v := .int _ t7) H7.here.ns rfl)) fun t8 h8 tk8 H8 => wpAny_execs_nil (fin ?_ rfl (by exact hsh) (by exact hki) (by exact hri) H8))
      unfold turnF; rw [if_pos hc]
    · rw [if_neg hc]
      refine wpAny_execs_nil ?_
      refine wpAny_execs_cons (ex_augAdd H6 (by exact hwh) (se_int (se_local (v := .int _ t4) H6.here.ns rfl)) fun t8 h8 tk8 H8 => wpAny_execs_nil (fin ?_ rfl (by exact hsh) (by exact hki) (by exact hri) H8))
      unfold turnF; rw [if_neg hc]
  · rintro h2 tk2 own ⟨m, nv, tw, rfl, hwh, hsh, hki, hri⟩ H2
    refine wpAny_execs_cons (wpAny_Return_some ((se_local (v := .int _ tw) H2.here.ns hwh).go fun v h3 tk3 k3 p3 => ⟨v, h3, tk3, rfl, rfl, H2.keep.trans k3, tw, p3⟩))
end Mine
end
section
open PySem PySem.W PyProof.Rows PySem.Calls
set_option maxRecDepth 100000
set_option linter.unusedVariables false
namespace Mine
variable {w : World} {A : Around} {env : Env} {h₀ h g : Heap} {s : Shared} {E : Value → Shared → Prop}
def tupP (vs : List Value) : OP := fun o => o.cls = .type "tuple" ∧ ∃ n, o.data = .seq vs.toArray n
theorem At.tup {a : Addr} {vs : List Value} (x : At h a (tupP vs)) : h.IsTuple a vs.toArray := x
def titP (T : Addr) (i : Nat) : OP := fun o => o.cls = .type "tuple_iterator" ∧ o.data = .fields #[.ref T, .int i 0]
theorem At.tit {I T : Addr} {i : Nat} (x : At h I (titP T i)) : h.IsTupleIter I T i := x
theorem kp_extSize {h h' : Heap} (x : Heap.ExtBut h.objs.size h h') : KP h h' := fun b o e => x b o (Nat.ne_of_lt (Heap.lt_size e)) e
/-- x1, x2 = a pair -/
theorem ex_unpack2 {x1 x2 : Str} {p1 p2 pos : Pos} {kx : Nat} {T : Addr} {v1 v2 : Value} {m : Str → Option Value} {L : Addr} {r : Own} {Q : Unit → Shared → Prop} (hh : A.handled = none) (H : Hp h₀ s.heap ((L, nsP m) :: r)) (hT : s.heap.IsTuple T #[v1, v2])
    (hQ : ∀ h' tk, Hp h₀ h' ((L, nsP (upd (upd m x1 v1) x2 v2)) :: r) → Q () { s with heap := h', toks := tk })
    (hL : env.locals = L := by rfl) (hl1 : env.kindOf x1 = some .local := by rfl) (hl2 : env.kindOf x2 = some .local := by rfl) (hp : (env.scope.kind == .class || (env.scope.kind == .module && env.locals != env.globals)) = false := by rfl) :
    wpAny (MM w) A (assign (.Tuple [.Name x1 p1, .Name x2 p2] kx pos) env (.ref T)) Q E s := by
  refine wpAny_assign_Tuple hh hT rfl rfl fun h1 hx1 => ?_
  have H1 := H.kp (kp_extSize hx1)
  show wpAny _ A (do holding [v2] (assign (.Name x1 p1) env v1); do holding [] (assign (.Name x2 p2) env v2); pure ()) _ _ _
  refine wpAny_bind (wpAny_holding (wpAny_assign_Name (ex_store H1 (fun h2 tk2 H2 => ?_) hL hl1 hp)))
  exact wpAny_bind (wpAny_holding (wpAny_assign_Name (ex_store H2 (fun h3 tk3 H3 => wpAny_pure (hQ h3 tk3 H3)) hL hl2 hp)))
theorem letGo_tit {elts : List Expr} {x1 : Nat} {pos : Pos} {I l T : Addr} {i : Nat} {Q : Unit → Shared → Prop} (hit : At s.heap I (titP l i)) (hQ : Q () s) : wpAny (MM w) A (letOwnedTupleGo (.Tuple elts x1 pos) (.ref I) (.ref T)) Q E s := by
  obtain ⟨o, ho, hc, hd⟩ := hit
  unfold letOwnedTupleGo
  refine wpAny_bind (wpAny_load ho ?_)
  rw [hc, hd]
  show wpAny _ A (if (["enumerate", "zip", "dict_itemiterator", "dict_reverseitemiterator", "odict_iterator", "itertools.zip_longest", "itertools.pairwise"].contains "tuple_iterator" &&
      (#[.ref l, .int i 0] : Array Value)[0]? == some (rawInt T)) = true then _ else _) Q E s
  rw [if_neg (by
    intro h
    rw [show (["enumerate", "zip", "dict_itemiterator", "dict_reverseitemiterator", "odict_iterator", "itertools.zip_longest", "itertools.pairwise"].contains "tuple_iterator") = false from by decide, Bool.false_and] at h
    cases h)]
  exact wpAny_pure hQ
/-- a row of the table: pairs of a bit and a sign -/
inductive Row (h : Heap) : List Value → List (Int × Str) → Prop
  | nil : Row h [] []
  | cons {a : Addr} {b : Int} {tb : Tok} {c : Str} {tc : Tok} {vs : List Value} {l : List (Int × Str)} : At h a (tupP [.int b tb, .str c tc]) → Row h vs l → Row h (.ref a :: vs) ((b, c) :: l)
theorem Row.len {vs : List Value} {l : List (Int × Str)} (x : Row h vs l) : vs.length = l.length := by
  induction x with
  | nil => rfl
  | cons _ _ ih => simp [ih]
theorem Row.get {vs : List Value} {l : List (Int × Str)} (x : Row h vs l) : ∀ {i : Nat} {p : Int × Str}, l[i]? = some p → ∃ a tb tc, vs[i]? = some (.ref a) ∧ At h a (tupP [.int p.1 tb, .str p.2 tc]) := by
  induction x with
  | nil => intro i p e; simp at e
  | @cons a b tb c tc vs l hA _ ih =>
    intro i p e
    cases i with
    | zero => simp at e; subst e; exact ⟨a, tb, tc, rfl, hA⟩
    | succ i => simpa using ih (by simpa using e)
def tst (idx mode bit : Int) : Bool := if idx == 0 then Builtin.bitAnd mode 61440 == bit else Builtin.bitAnd mode bit == bit
def pick (idx mode : Int) (row : List (Int × Str)) : Str := match row.find? fun p => tst idx mode p.1 with | some p => p.2 | none => if idx == 0 then Str.ofString "?" else Str.ofString "-"
theorem find_first {α : Type} {f : α → Bool} : ∀ {l : List α} {i : Nat} {p : α}, (∀ j q, j < i → l[j]? = some q → f q = false) → l[i]? = some p → f p = true → l.find? f = some p
  | [], i, p, _, h, _ => by simp at h
  | a :: l, 0, p, _, h, hp => by simp at h; subst h; simp [hp]
  | a :: l, i + 1, p, hno, h, hp => by
    have ha : f a = false := hno 0 a (by omega) (by simp)
    rw [List.find?_cons_of_neg (by simp [ha])]
    exact find_first (i := i) (fun j q hj hq => hno (j + 1) q (by omega) (by simpa using hq)) (by simpa using h) hp
theorem find_none {α : Type} {f : α → Bool} {l : List α} (hno : ∀ j q, j < l.length → l[j]? = some q → f q = false) : l.find? f = none := by
  rw [List.find?_eq_none]
  intro x hx
  obtain ⟨j, hj, e⟩ := List.getElem_of_mem hx
  simp [hno j x hj (by simp [hj, e])]
abbrev fmScope : Scope := { kind := ScopeKind.function, names := [(Str.ofString "mode", NameKind.local), (Str.ofString "perm", NameKind.local), (Str.ofString "index", NameKind.local), (Str.ofString "table", NameKind.local), (Str.ofString "bit", NameKind.local), (Str.ofString "char", NameKind.local), (Str.ofString "enumerate", NameKind.globalImplicit), (Str.ofString "_filemode_table", NameKind.globalImplicit), (Str.ofString "S_IFMT", NameKind.globalImplicit)], isGenerator := false, isCoroutine := false }
abbrev fmEnv (L : Addr) : Env := envOf (Str.ofString "filemode") fmScope L 61 (.ref 60)
theorem inner_c {k : Nat} {L D T : Addr} {m : Str → Option Value} {vs ys : List Value} {row : List (Int × Str)} {r : Own} {idx mode : Int} {ti tm : Tok} {Q : Flow → Shared → Prop}
    {q1 q2 q3 q4 q5 q6 q7 q8 q9 q10 q11 q12 q13 q14 q15 q16 q17 q20 q21 q22 q23 q24 q25 q26 q29 q30 q31 q32 q33 q34 q35 q36 q37 q38 q39 q40 q41 q42 q43 q44 q45 q46 q50 q51 q52 q53 q54 : Pos} {kt : Nat}
    (g : G w h₀) (rm : Rm A (k + 1)) (hT : At h₀ T (tupP vs)) (hR : Row h₀ vs row) (H : Hp h₀ s.heap ((L, nsP m) :: (D, listP ys) :: r)) (hyl : ys.length ≤ 900)
    (htab : m (Str.ofString "table") = some (.ref T)) (hidx : m (Str.ofString "index") = some (.int idx ti)) (hmode : m (Str.ofString "mode") = some (.int mode tm)) (hperm : m (Str.ofString "perm") = some (.ref D))
    (hl1 : (q30.endLine == q32.line) = true) (hl2 : (q40.endLine == q42.line) = true) (hl3 : (q51.endLine == q53.line) = true) (hl4 : (q21.endLine == q23.line) = true)
    (hQ : ∀ m' h' tk t, m' (Str.ofString "mode") = some (.int mode tm) → m' (Str.ofString "perm") = some (.ref D) → Hp h₀ h' ((L, nsP m') :: (D, listP (ys ++ [.str (pick idx mode row) t])) :: r) → Q .next { s with heap := h', toks := tk }) :
    wpAny (MM w) A (exec (.For (.Tuple [.Name (Str.ofString "bit") q1, .Name (Str.ofString "char") q2] kt q3) (.Name (Str.ofString "table") q4)
      [.If (.Compare (.Name (Str.ofString "index") q5) [.Eq] [.Constant (.int 0) 0 q6] q7)
        [.If (.Compare (.Call (.Name (Str.ofString "S_IFMT") q8) [.Name (Str.ofString "mode") q9] [] q10) [.Eq] [.Name (Str.ofString "bit") q11] q12)
          [.Expr (.Call (.Attribute (.Name (Str.ofString "perm") q20) (Str.ofString "append") q21) [.Name (Str.ofString "char") q22] [] q23) q24, .Break q25] [] q26]
        [.If (.Compare (.BinOp (.Name (Str.ofString "mode") q13) .BitAnd (.Name (Str.ofString "bit") q14) q15) [.Eq] [.Name (Str.ofString "bit") q16] q17)
          [.Expr (.Call (.Attribute (.Name (Str.ofString "perm") q29) (Str.ofString "append") q30) [.Name (Str.ofString "char") q31] [] q32) q33, .Break q34] [] q35] q36]
      [.If (.Compare (.Name (Str.ofString "index") q37) [.Eq] [.Constant (.int 0) 0 q38] q39)
        [.Expr (.Call (.Attribute (.Name (Str.ofString "perm") q41) (Str.ofString "append") q40) [.Constant (.str (Str.ofString "?")) 0 q43] [] q42) q44]
        [.Expr (.Call (.Attribute (.Name (Str.ofString "perm") q50) (Str.ofString "append") q51) [.Constant (.str (Str.ofString "-")) 0 q52] [] q53) q54] q45] q46) (fmEnv L)) Q E s := by
  refine wpAny_For ?_ (by intro _; rfl)
  refine (se_local (v := .ref T) H.here.ns htab).go fun v' g1 tk1 k1 p1 => ?_
  subst p1
  have H1 := H.kp k1
  refine wpAny_pyIter_tuple (hT.kp H1.keep).tup ?_
  have H2 := H1.add (KP.push { cls := .type "tuple_iterator", data := .fields #[.ref T, .int 0 0] }) (fresh_size g1) (⟨_, Heap.get?_push_size _ rfl, rfl, rfl⟩ : At _ g1.objs.size (titP T 0))
  generalize hIe : g1.objs.size = I at *
  refine codeAny_forLoop_any (fun n s' => ∃ i h' tk m', s' = { s with heap := h', toks := tk } ∧ i ≤ vs.length ∧ n = vs.length + 1 - i ∧ (∀ j p, j < i → row[j]? = some p → tst idx mode p.1 = false) ∧ Hp h₀ h' ((I, titP T i) :: (L, nsP m') :: (D, listP ys) :: r) ∧
      m' (Str.ofString "index") = some (.int idx ti) ∧ m' (Str.ofString "mode") = some (.int mode tm) ∧ m' (Str.ofString "perm") = some (.ref D)) ?_ (vs.length + 1)
    ⟨0, _, _, m, rfl, Nat.zero_le _, rfl, (fun _ _ h => absurd h (Nat.not_lt_zero _)), H2, hidx, hmode, hperm⟩
  rintro n s' ⟨i, h', tk, m', rfl, hi, rfl, hno, H', hidx', hmode', hperm'⟩
  have hlen := hR.len
  by_cases hlt : i < vs.length
  · obtain ⟨p, hp⟩ : ∃ p, row[i]? = some p := ⟨row[i]'(by omega), by simp⟩
    obtain ⟨a, tb, tc, hva, hpair⟩ := hR.get hp
    refine wpAny_pyNext_tuple_item H'.here.tit (hT.kp H'.keep).tup (x := .ref a) (by simpa using hva) fun h2 hit2 hs2 => ?_
    have H3 : Hp h₀ h2 ((I, titP T (i + 1)) :: (L, nsP m') :: (D, listP ys) :: r) := H'.set hs2 hit2
    refine letGo_tit H3.here ?_
    refine ex_unpack2 rm.hh H3.swap ((hpair.kp H3.keep).tup) fun h4 tk4 H4 => ?_
    have again : ∀ {h6 : Heap} {tk6 : Nat}, tst idx mode p.1 = false → KP h4 h6 → ∃ n', n' < vs.length + 1 - i ∧ ∃ i h' tk m', ({ s with heap := h6, toks := tk6 } : Shared) = { s with heap := h', toks := tk } ∧ i ≤ vs.length ∧ n' = vs.length + 1 - i ∧ (∀ j p, j < i → row[j]? = some p → tst idx mode p.1 = false) ∧ Hp h₀ h' ((I, titP T i) :: (L, nsP m') :: (D, listP ys) :: r) ∧
      m' (Str.ofString "index") = some (.int idx ti) ∧ m' (Str.ofString "mode") = some (.int mode tm) ∧ m' (Str.ofString "perm") = some (.ref D) := by
      intro h6 tk6 hf k6
      refine ⟨vs.length + 1 - (i + 1), by omega, i + 1, h6, tk6, _, rfl, hlt, rfl, ?_, (H4.kp k6).swap, by exact hidx', by exact hmode', by exact hperm'⟩
      intro j q hj hq
      by_cases hji : j = i
      · subst hji; rw [hp] at hq; cases hq; exact hf
      · exact hno j q (by omega) hq
    have hit : ∀ {h6 : Heap} {tk6 : Nat} {v : Value}, tst idx mode p.1 = true → v = .str p.2 tc → Hp h₀ h6 ((L, nsP (upd (upd m' (Str.ofString "bit") (.int p.1 tb)) (Str.ofString "char") (.str p.2 tc))) :: (D, listP (ys ++ [v])) :: (I, titP T (i + 1)) :: r) → Q .next { s with heap := h6, toks := tk6 } := by
      intro h6 tk6 v hf hv H6
      subst hv
      refine hQ (upd (upd m' (Str.ofString "bit") (.int p.1 tb)) (Str.ofString "char") (.str p.2 tc)) h6 tk6 tc (by exact hmode') (by exact hperm') ?_
      have e : pick idx mode row = p.2 := by unfold pick; rw [find_first hno hp hf]
      rw [e]
      have H7 := H6.perm (List.Perm.trans (List.Perm.cons _ (List.Perm.swap ..)) (List.Perm.swap ..))
      exact H7.tail
    have g4 : G w h4 := g.kp H4.keep
    have hap : ∀ {h5 : Heap}, KP h4 h5 → Hp h₀ h5 ((L, nsP (upd (upd m' (Str.ofString "bit") (.int p.1 tb)) (Str.ofString "char") (.str p.2 tc))) :: (D, listP ys) :: (I, titP T (i + 1)) :: r) := fun k5 => (H4.kp k5).perm (List.Perm.cons _ (List.Perm.swap ..))
    refine wpAny_execs_cons (wpAny_If ((st_eq (se_int (se_local (v := .int idx ti) H4.here.ns (by exact hidx'))) se_const).go fun b h5 tk5 k5 p5 => ?_))
    subst p5
    have H5 := H4.kp k5
    have g5 := g4.kp k5
    by_cases hz : (idx == 0) = true
    · rw [if_pos hz]
      refine wpAny_execs_cons (wpAny_If ((st_eq (a := Builtin.bitAnd mode 61440) (b := p.1) (se_call1 g5 (se_global (v := .ref 21) g5 (by with_unfolding_all rfl)) (by with_unfolding_all rfl) (se_local (v := .int mode tm) H5.here.ns (by exact hmode')) (fun v g' kg q => by subst q; exact ifmt_c (g5.kp kg) rm)) (se_int (se_local (v := .int p.1 tb) H5.here.ns rfl))).go fun b6 h6 tk6 k6 p6 => ?_))
      subst p6
      have htst : tst idx mode p.1 = (Builtin.bitAnd mode 61440 == p.1) := by unfold tst; rw [if_pos hz]
      by_cases hb : (Builtin.bitAnd mode 61440 == p.1) = true
      · rw [if_pos hb]
        refine wpAny_execs_cons (ex_append (P := fun v => v = .str p.2 tc) (hap (k5.trans k6)) (by exact hperm') (by omega) (se_local (v := .str p.2 tc) (hap (k5.trans k6)).here.ns rfl) (fun v h7 tk7 hv H7 => wpAny_execs_cons (wpAny_Break (hit (htst.trans hb) hv H7))) (hline := hl4))
      · rw [if_neg hb]
        exact wpAny_execs_nil (wpAny_execs_nil (wpAny_execs_nil (again (htst.trans (by simpa using hb)) (k5.trans k6))))
    · rw [if_neg hz]
      refine wpAny_execs_cons (wpAny_If ((st_eq (a := Builtin.bitAnd mode p.1) (b := p.1) (se_and (se_int (se_local (v := .int mode tm) H5.here.ns (by exact hmode'))) (se_int (se_local (v := .int p.1 tb) H5.here.ns rfl))) (se_int (se_local (v := .int p.1 tb) H5.here.ns rfl))).go fun b6 h6 tk6 k6 p6 => ?_))
      subst p6
      have htst : tst idx mode p.1 = (Builtin.bitAnd mode p.1 == p.1) := by unfold tst; rw [if_neg hz]
      by_cases hb : (Builtin.bitAnd mode p.1 == p.1) = true
      · rw [if_pos hb]
        refine wpAny_execs_cons (ex_append (P := fun v => v = .str p.2 tc) (hap (k5.trans k6)) (by exact hperm') (by omega) (se_local (v := .str p.2 tc) (hap (k5.trans k6)).here.ns rfl) (fun v h7 tk7 hv H7 => wpAny_execs_cons (wpAny_Break (hit (htst.trans hb) hv H7))) (hline := hl1))
      · rw [if_neg hb]
        exact wpAny_execs_nil (wpAny_execs_nil (wpAny_execs_nil (again (htst.trans (by simpa using hb)) (k5.trans k6))))
  · have hin : i = vs.length := by omega
    subst hin
    refine wpAny_pyNext_tuple_end rm.hh H'.here.tit (hT.kp H'.keep).tup (by simp) fun h2 he2 => ?_
    have H2 : Hp h₀ h2 ((L, nsP m') :: (D, listP ys) :: r) := by
      have Ht := H'.tail
      refine ⟨fun b o e => he2 b o (fun q => ?_) (H'.keep b o e), fun p m => ?_, Ht.new, Ht.apart⟩
      · have := H'.new _ (.head _); rw [q] at e; rw [e] at this; cases this
      · obtain ⟨o, e, q⟩ := Ht.has p m
        exact ⟨o, he2 _ _ (fun x => (List.pairwise_cons.mp H'.apart).1 p m x.symm) e, q⟩
    have hnone := find_none (f := fun p : Int × Str => tst idx mode p.1) (l := row) (fun j q hj hq => hno j q (by omega) hq)
    have e : pick idx mode row = if idx == 0 then Str.ofString "?" else Str.ofString "-" := by unfold pick; rw [hnone]
    refine wpAny_execs_cons (wpAny_If ((st_eq (se_int (se_local (v := .int idx ti) H2.here.ns hidx')) se_const).go fun b h5 tk5 k5 p5 => ?_))
    subst p5
    have H5 := H2.kp k5
    by_cases hz : (idx == 0) = true
    · rw [if_pos hz]
      refine wpAny_execs_cons (ex_append (P := IsS (Str.ofString "?")) H5 hperm' (by omega) se_str (fun v h7 tk7 hv H7 => wpAny_execs_nil (wpAny_execs_nil ?_)) (hline := hl2))
      obtain ⟨tv, rfl⟩ := hv
      exact hQ m' h7 _ tv hmode' hperm' (by rw [e, if_pos hz]; exact H7)
    · rw [if_neg hz]
      refine wpAny_execs_cons (ex_append (P := IsS (Str.ofString "-")) H5 hperm' (by omega) se_str (fun v h7 tk7 hv H7 => wpAny_execs_nil (wpAny_execs_nil ?_)) (hline := hl3))
      obtain ⟨tv, rfl⟩ := hv
      exact hQ m' h7 _ tv hmode' hperm' (by rw [e, if_neg hz]; exact H7)
end Mine
end
section
open PySem PySem.W PyProof.Rows PySem.Calls
open AutoSeq1 (wpAny_loadPart')
set_option maxRecDepth 100000
set_option linter.unusedVariables false
namespace Mine
variable {w : World} {A : Around} {env : Env} {h₀ h g : Heap} {s : Shared} {E : Value → Shared → Prop}
theorem next_tup_item {it t : Addr} {i : Nat} {items : Array Value} {x : Value} {Q : Value → Shared → Prop} (hit : s.heap.IsTupleIter it t i) (ht : s.heap.IsTuple t items) (hx : items[i]? = some x)
    (hQ : ∀ h', h'.IsTupleIter it t (i + 1) → Heap.SameBut it s.heap h' → Q x { s with heap := h' }) : wpAny (MM w) A (Builtin.SmallTypes.nextOf (.ref it)) Q E s := by
  obtain ⟨o, ho, hc, hd⟩ := id hit
  obtain ⟨ol, hol, _, nl, hdl⟩ := ht
  unfold Builtin.SmallTypes.nextOf
  refine wpAny_bind (wpAny_callSpecial?_slot (name := Str.ofString "__next__") hit.typeIs F.slot_tuple_iterator_next (wpAny_call_entry F.slot_tuple_iterator_next hit.typeIs F.entry_tuple_iterator_next ?_ (F.args_tuple_iterator_next_1 _)))
  show wpAny _ _ (field (.ref it) 0 >>= _) _ _ s
  refine wpAny_bind (wpAny_field ho hd (x := .ref t) rfl ?_)
  show wpAny _ _ (if (Value.ref t == Value.none) = true then _ else _) _ _ s
  rw [if_neg (show ¬ ((Value.ref t == Value.none) = true) from Bool.false_ne_true)]
  show wpAny _ _ (field (.ref it) 1 >>= _) _ _ s
  refine wpAny_bind (wpAny_field ho hd (x := .int i 0) rfl ?_)
  show wpAny _ _ (seqItems? (.ref t) >>= _) _ _ s
  refine wpAny_bind (wpAny_seqItems hol hdl ?_)
  simp only [Int.toNat_natCast, hx]
  refine wpAny_bind (wpAny_setField ho hd (by simp) (wpAny_pure ⟨x, rfl, wpAny_pure (hQ _ ?_ (Heap.SameBut.update ..))⟩))
  exact ⟨_, Heap.get?_update_self _ ho (Obj.isFreed_of_fields (Obj.data_mapFields hd _)), (Obj.cls_mapFields ..).trans hc, by rw [Obj.data_mapFields hd]; simp [rawInt]⟩
theorem next_tup_end {it t : Addr} {i : Nat} {items : Array Value} {Q : Value → Shared → Prop} (hh : A.handled = none) (hit : s.heap.IsTupleIter it t i) (ht : s.heap.IsTuple t items) (hx : items[i]? = none)
    (hE : ∀ h' e, Heap.ExtBut it s.heap h' → (∃ o, h'.get? e = some o ∧ o.cls = .type "StopIteration") → E (.ref e) { s with heap := h' }) : wpAny (MM w) A (Builtin.SmallTypes.nextOf (.ref it)) Q E s := by
  obtain ⟨o, ho, hc, hd⟩ := id hit
  obtain ⟨ol, hol, _, nl, hdl⟩ := ht
  unfold Builtin.SmallTypes.nextOf
  refine wpAny_bind (wpAny_callSpecial?_slot (name := Str.ofString "__next__") hit.typeIs F.slot_tuple_iterator_next (wpAny_call_entry F.slot_tuple_iterator_next hit.typeIs F.entry_tuple_iterator_next ?_ (F.args_tuple_iterator_next_1 _)))
  show wpAny _ _ (field (.ref it) 0 >>= _) _ _ s
  refine wpAny_bind (wpAny_field ho hd (x := .ref t) rfl ?_)
  show wpAny _ _ (if (Value.ref t == Value.none) = true then _ else _) _ _ s
  rw [if_neg (show ¬ ((Value.ref t == Value.none) = true) from Bool.false_ne_true)]
  show wpAny _ _ (field (.ref it) 1 >>= _) _ _ s
  refine wpAny_bind (wpAny_field ho hd (x := .int i 0) rfl ?_)
  show wpAny _ _ (seqItems? (.ref t) >>= _) _ _ s
  refine wpAny_bind (wpAny_seqItems hol hdl ?_)
  simp only [Int.toNat_natCast, hx]
  refine wpAny_bind (wpAny_rule (wpAny_bind (wpAny_setField ho hd (by simp) ?_)))
  show wpAny _ _ (newExc (.type "StopIteration") [] >>= _) _ _ _
  refine wpAny_bind ?_
  simp only [newExc, newTuple]
  refine wpAny_bind (wpAny_newObj_type ?_ (by size_fits))
  refine wpAny_bind (m := firstArgMember _ _) (wpAny_of_eq (a := Value.none) (by first | rfl | (simp only [firstArgMember]; rfl)) ?_)
  refine wpAny_newObj_type ?_ (by size_fits)
  simp only [raiseNew]
  refine wpAny_bind (wpAny_handled ?_)
  first | rw [show A.in1.handled = none from hh] | rw [hh]
  refine wpAny_bind (wpAny_pure (wpAny_throw ?_))
  exact hE _ _ (((Heap.SameBut.update ..).extBut.push _).push _) ⟨_, Heap.get?_push_size _ rfl, rfl⟩
theorem draws_tup (hh : A.handled = none) (it l : Addr) (hne : l ≠ it) (items : Array Value) : Draws PR w A it [it, l] items.size (fun i v => items[i]? = some v) (fun i h => h.IsTupleIter it l i ∧ h.IsTuple l items) where
  live := fun _ _ st => let ⟨o, ho, _⟩ := st.1; ⟨o, ho⟩
  frame := fun _ _ _ st hk => ⟨st.1.at fun o e => hk it (by simp) o e, st.2.at fun o e => hk l (by simp) o e⟩
  item := fun i s Q E hi st hQ => by
    refine next_tup_item st.1 st.2 (x := items[i]) (by simp [hi]) fun h' hit' hs' => ?_
    exact hQ _ h' s.toks (by simp [hi]) ⟨hit', st.2.extBut hs'.extBut hne⟩ hs'
  done := fun s Q E st hE => next_tup_end hh st.1 st.2 (by simp) hE
theorem meets_enum_tup (l : Addr) (items : Array Value) (n : Nat) (dct : Option Addr) (sl : Array (Option Value)) :
    Meets (Builtin.«enumerate.__new__» ⟨[.type "enumerate", .ref l], []⟩) (fun _ R s => s.heap.get? l = some { cls := .type "tuple", dict := dct, data := .seq items n, slots := sl } ∧
      R (.ok (.ret (.ref (s.heap.push { cls := .type "tuple_iterator", data := .fields #[.ref l, .int 0 0] }).objs.size)))
        { s with heap := (s.heap.push { cls := .type "tuple_iterator", data := .fields #[.ref l, .int 0 0] }).push { cls := .type "enumerate", data := .fields #[.none, .bool false, .ref s.heap.objs.size, rawInt 0, .none, .none] } }) :=
  .of_wp fun prog w A R s h => by
    obtain ⟨hp, g, d, tk, os⟩ := s; obtain ⟨hl, h⟩ := h
    have hsub := sub_enumerate
    have hL : Heap.IsTuple (Shared.heap ⟨hp, g, d, tk, os⟩) l items := ⟨_, hl, rfl, n, rfl⟩
    wp_walk using wpAny_loadPart' hl
    refine wpAny_stack_any fun st => wpAny_pure ?_
    split
    · rename_i c _ _ _ _ _
      cases (c == Value.type "enumerate")
      · wp_walk using wpAny_loadPart' hl, wpAny_pyIter_tuple hL
        exact ⟨_, rfl, h⟩
      · wp_walk using wpAny_loadPart' hl, wpAny_pyIter_tuple hL
        exact ⟨_, rfl, h⟩
    · wp_walk using wpAny_loadPart' hl, wpAny_pyIter_tuple hL
      exact ⟨_, rfl, h⟩
theorem call_enum_tup {l : Addr} {items : Array Value} {Q : Value → Shared → Prop} (hL : s.heap.IsTuple l items)
    (h : ∀ h', IsEnum h' (s.heap.objs.size + 1) s.heap.objs.size 0 .none → h'.IsTupleIter s.heap.objs.size l 0 → h'.objs.size = s.heap.objs.size + 2 → KP s.heap h' → Q (.ref (s.heap.objs.size + 1)) { s with heap := h' }) :
    wpAny (MM w) A (call (.type "enumerate") [.ref l]) Q E s := by
  obtain ⟨⟨c, dct, dt, sl⟩, hl, hc, n, hd⟩ := hL
  replace hc : c = .type "tuple" := hc
  replace hd : dt = .seq items n := hd
  subst hc hd
  refine callType_new F.called_enumerate (by decide) (F.typeCall_enumerate_1 _) (F.newCall_enumerate_1 _) (fun obj => F.args_object_init_2 obj _) F.entry_enumerate_new (meets_enum_tup l items n dct sl) ⟨hl, ?_⟩
  have hz : (s.heap.push { cls := .type "tuple_iterator", data := .fields #[.ref l, .int 0 0] }).objs.size = s.heap.objs.size + 1 := Heap.size_push ..
  show _ ∧ _
  rw [hz]
  have he : IsEnum ((s.heap.push { cls := .type "tuple_iterator", data := .fields #[.ref l, .int 0 0] }).push
      { cls := .type "enumerate", data := .fields #[.none, .bool false, .ref s.heap.objs.size, rawInt 0, .none, .none] }) (s.heap.objs.size + 1) s.heap.objs.size 0 .none := by
    have := Heap.get?_push_size (s.heap.push { cls := .type "tuple_iterator", data := .fields #[.ref l, .int 0 0] })
      (o := { cls := .type "enumerate", data := .fields #[.none, .bool false, .ref s.heap.objs.size, rawInt 0, .none, .none] }) rfl
    rw [hz] at this; exact this
  exact ⟨⟨_, he, rfl⟩, h _ he ⟨_, Heap.get?_push_of_some _ (Heap.get?_push_size _ rfl), rfl, rfl⟩ (by rw [Heap.size_push, hz]) fun b o x => Heap.get?_push_of_some _ (Heap.get?_push_of_some _ x)⟩
def tabItems : List Value := [.ref 29, .ref 31, .ref 33, .ref 37, .ref 39, .ref 41, .ref 45, .ref 47, .ref 49, .ref 53]
def tabRows : List (List (Int × Str)) := [[(40960, Str.ofString "l"), (49152, Str.ofString "s"), (32768, Str.ofString "-"), (24576, Str.ofString "b"), (16384, Str.ofString "d"), (8192, Str.ofString "c"), (4096, Str.ofString "p")],
  [(256, Str.ofString "r")], [(128, Str.ofString "w")], [(2112, Str.ofString "s"), (2048, Str.ofString "S"), (64, Str.ofString "x")],
  [(32, Str.ofString "r")], [(16, Str.ofString "w")], [(1032, Str.ofString "s"), (1024, Str.ofString "S"), (8, Str.ofString "x")],
  [(4, Str.ofString "r")], [(2, Str.ofString "w")], [(513, Str.ofString "t"), (512, Str.ofString "T"), (1, Str.ofString "x")]]
theorem at_K {a : Addr} {o : Obj} {S : OP} (g : G w h) (e : (KK w).lookup a = some o) (x : S o) : At h a S := ⟨o, g.k _ _ e, x⟩
theorem tab_ok (g : G w h) : At h 54 (tupP tabItems) ∧ ∀ i, i < 10 → ∃ T vs, tabItems[i]? = some (.ref T) ∧ At h T (tupP vs) ∧ Row h vs (tabRows.getD i []) := by
  refine ⟨at_K g (by with_unfolding_all rfl) ⟨rfl, _, rfl⟩, ?_⟩
  intro i hi
  match i, hi with
  | 0, _ => exact ⟨29, [.ref 22, .ref 23, .ref 24, .ref 25, .ref 26, .ref 27, .ref 28], rfl, at_K g (by with_unfolding_all rfl) ⟨rfl, _, rfl⟩, .cons (at_K g (by with_unfolding_all rfl) ⟨rfl, _, rfl⟩) (.cons (at_K g (by with_unfolding_all rfl) ⟨rfl, _, rfl⟩) (.cons (at_K g (by with_unfolding_all rfl) ⟨rfl, _, rfl⟩) (.cons (at_K g (by with_unfolding_all rfl) ⟨rfl, _, rfl⟩) (.cons (at_K g (by with_unfolding_all rfl) ⟨rfl, _, rfl⟩) (.cons (at_K g (by with_unfolding_all rfl) ⟨rfl, _, rfl⟩) (.cons (at_K g (by with_unfolding_all rfl) ⟨rfl, _, rfl⟩) .nil))))))⟩
  | 1, _ => exact ⟨31, [.ref 30], rfl, at_K g (by with_unfolding_all rfl) ⟨rfl, _, rfl⟩, .cons (at_K g (by with_unfolding_all rfl) ⟨rfl, _, rfl⟩) .nil⟩
  | 2, _ => exact ⟨33, [.ref 32], rfl, at_K g (by with_unfolding_all rfl) ⟨rfl, _, rfl⟩, .cons (at_K g (by with_unfolding_all rfl) ⟨rfl, _, rfl⟩) .nil⟩
  | 3, _ => exact ⟨37, [.ref 34, .ref 35, .ref 36], rfl, at_K g (by with_unfolding_all rfl) ⟨rfl, _, rfl⟩, .cons (at_K g (by with_unfolding_all rfl) ⟨rfl, _, rfl⟩) (.cons (at_K g (by with_unfolding_all rfl) ⟨rfl, _, rfl⟩) (.cons (at_K g (by with_unfolding_all rfl) ⟨rfl, _, rfl⟩) .nil))⟩
  | 4, _ => exact ⟨39, [.ref 38], rfl, at_K g (by with_unfolding_all rfl) ⟨rfl, _, rfl⟩, .cons (at_K g (by with_unfolding_all rfl) ⟨rfl, _, rfl⟩) .nil⟩
  | 5, _ => exact ⟨41, [.ref 40], rfl, at_K g (by with_unfolding_all rfl) ⟨rfl, _, rfl⟩, .cons (at_K g (by with_unfolding_all rfl) ⟨rfl, _, rfl⟩) .nil⟩
  | 6, _ => exact ⟨45, [.ref 42, .ref 43, .ref 44], rfl, at_K g (by with_unfolding_all rfl) ⟨rfl, _, rfl⟩, .cons (at_K g (by with_unfolding_all rfl) ⟨rfl, _, rfl⟩) (.cons (at_K g (by with_unfolding_all rfl) ⟨rfl, _, rfl⟩) (.cons (at_K g (by with_unfolding_all rfl) ⟨rfl, _, rfl⟩) .nil))⟩
  | 7, _ => exact ⟨47, [.ref 46], rfl, at_K g (by with_unfolding_all rfl) ⟨rfl, _, rfl⟩, .cons (at_K g (by with_unfolding_all rfl) ⟨rfl, _, rfl⟩) .nil⟩
  | 8, _ => exact ⟨49, [.ref 48], rfl, at_K g (by with_unfolding_all rfl) ⟨rfl, _, rfl⟩, .cons (at_K g (by with_unfolding_all rfl) ⟨rfl, _, rfl⟩) .nil⟩
  | 9, _ => exact ⟨53, [.ref 50, .ref 51, .ref 52], rfl, at_K g (by with_unfolding_all rfl) ⟨rfl, _, rfl⟩, .cons (at_K g (by with_unfolding_all rfl) ⟨rfl, _, rfl⟩) (.cons (at_K g (by with_unfolding_all rfl) ⟨rfl, _, rfl⟩) (.cons (at_K g (by with_unfolding_all rfl) ⟨rfl, _, rfl⟩) .nil))⟩
end Mine
end
section
open PySem PySem.W PyProof.Rows PySem.Calls
set_option maxRecDepth 100000
set_option linter.unusedVariables false
namespace Mine
variable {w : World} {A : Around} {env : Env} {h₀ h g : Heap} {s : Shared} {E : Value → Shared → Prop}
def pickAt (mode : Int) (i : Nat) : Str := pick (i : Int) mode (tabRows.getD i [])
def fmL (mode : Int) : List Str := (List.range 10).map (pickAt mode)
def codeAt (mode : Int) (i : Nat) : Nat := (pickAt mode i).cps.getD 0 0
def fmS (mode : Int) : Str := ⟨((List.range 10).map (codeAt mode)).toArray⟩
theorem pick_one (mode : Int) (i : Nat) (hi : i < 10) : pickAt mode i = ⟨#[codeAt mode i]⟩ := by
  have key : ∀ x : Str, x.cps.size = 1 → x = ⟨#[x.cps.getD 0 0]⟩ := by
    intro x hx
    obtain ⟨⟨l⟩⟩ := x
    match l, hx with
    | [c], _ => rfl
  refine key _ ?_
  unfold pickAt pick
  split
  · rename_i p hp
    have hm := List.mem_of_find?_eq_some hp
    have : ∀ j, j < 10 → ∀ p ∈ tabRows.getD j [], p.2.cps.size = 1 := by decide
    exact this i hi p hm
  · split <;> decide
theorem join_ten (mode : Int) : Txt.join (Str.ofString "") (fmL mode) = fmS mode := by
  unfold fmL fmS
  have e : List.range 10 = [0, 1, 2, 3, 4, 5, 6, 7, 8, 9] := rfl
  rw [e]
  simp only [List.map_cons, List.map_nil]
  rw [pick_one mode 0 (by decide), pick_one mode 1 (by decide), pick_one mode 2 (by decide), pick_one mode 3 (by decide), pick_one mode 4 (by decide), pick_one mode 5 (by decide), pick_one mode 6 (by decide), pick_one mode 7 (by decide), pick_one mode 8 (by decide), pick_one mode 9 (by decide)]
  rfl
theorem join_ok (mode : Int) : JoinOk (Str.ofString "") (fmL mode) = true := by
  unfold fmL
  have e : List.range 10 = [0, 1, 2, 3, 4, 5, 6, 7, 8, 9] := rfl
  rw [e]
  simp only [List.map_cons, List.map_nil]
  rw [pick_one mode 0 (by decide), pick_one mode 1 (by decide), pick_one mode 2 (by decide), pick_one mode 3 (by decide), pick_one mode 4 (by decide), pick_one mode 5 (by decide), pick_one mode 6 (by decide), pick_one mode 7 (by decide), pick_one mode 8 (by decide), pick_one mode 9 (by decide)]
  rfl
theorem strs_of {ys : List Value} {l : List Str} (x : Paired (fun a v => IsS a v) l ys) : ∃ q : List (Str × Tok), ys = strValues q ∧ q.map (·.1) = l := by
  induction x with
  | nil => exact ⟨[], rfl, rfl⟩
  | cons h _ ih =>
    obtain ⟨t, rfl⟩ := h
    obtain ⟨q, rfl, rfl⟩ := ih
    exact ⟨(_, t) :: q, rfl, rfl⟩
theorem filemode_c {k : Nat} {mode : Int} {t : Tok} (g : G w h) (r : Rm A (k + 2)) : SE w A h (call (.ref 61) [.int mode t]) (fun v _ => IsS (fmS mode) v) := by
  refine enter (binds := [(Str.ofString "mode", .int mode t)]) (by with_unfolding_all rfl) g r (by with_unfolding_all rfl) (fun s _ => BindsTo.of_eq rfl) ?_ (locs rfl)
  intro s h₀ L E k0 H r1
  have g0 : G w h₀ := g.kp k0
  obtain ⟨tab0, tabR⟩ := tab_ok g0
  refine wpAny_execs_cons (ex_assignN H se_list0 fun D h1 tk1 H1 => ?_)
  refine wpAny_execs_cons (wpAny_For (Call_Name1 ((se_builtin (v := .type "enumerate") (g0.kp H1.keep) (by with_unfolding_all rfl) (by decide +kernel) (by decide)).go fun v2 h2 tk2 k2 p2 => ?_)) (by intro _; rfl))
  subst p2
  refine PyProof.Rows.callWith_type rfl (evalArgs_plain (spliced_cons ((se_global (v := .ref 54) (g0.kp (H1.keep.trans k2)) (by with_unfolding_all rfl)).go fun v3 h3 tk3 k3 p3 => spliced_nil ?_)))
  subst p3
  have H3 := H1.kp (k2.trans k3)
  refine call_enum_tup (tab0.kp H3.keep).tup fun h4 he4 hit4 hsz4 k4 => ?_
  have k34 := H3.kp k4
  refine wpAny_pyIter_enum he4 ?_
  have h54 : (54 : Nat) < h3.objs.size := by obtain ⟨o, e, _⟩ := tab0.kp H3.keep; exact Heap.lt_size e
  have W := WalksT.enumerateD (draws_tup (w := w) (A := (A.deeper (fmEnv L)).in1) r1.hh h3.objs.size 54 (Nat.ne_of_lt h54) tabItems.toArray) (h3.objs.size + 1) (Nat.succ_ne_self _)
    (by intro hm; simp only [List.mem_cons, List.not_mem_nil, or_false] at hm; rcases hm with hm | hm
        · exact Nat.succ_ne_self _ hm
        · have : h3.objs.size + 1 = 54 := hm
          omega) (by simp)
  have hLr : ∀ b ∈ ([h3.objs.size + 1, h3.objs.size] : List Addr), b ≠ L ∧ b ≠ D ∧ h₀.get? b = none := by
    intro b hb
    have hb' : h3.get? b = none := by
      cases e : h3.get? b with
      | none => rfl
      | some o =>
        have := Heap.lt_size e
        simp only [List.mem_cons, List.not_mem_nil, or_false] at hb
        rcases hb with rfl | rfl
        · exact absurd this (by simp)
        · exact absurd this (Nat.lt_irrefl _)
    exact ⟨fun q => H3.here.some (q ▸ hb'), fun q => H3.tail.here.some (q ▸ hb'), none_kp H3.keep hb'⟩
  generalize hWr : ([h3.objs.size + 1, h3.objs.size] : List Addr) = wr at W hLr
  generalize hFp : ((h3.objs.size + 1) :: [h3.objs.size, 54] : List Addr) = fp at W
  have hfpo : ∀ b ∈ fp, b ≠ L ∧ b ≠ D := by
    intro b hb
    rw [← hFp] at hb
    simp only [List.mem_cons, List.not_mem_nil, or_false] at hb
    rcases hb with rfl | rfl | rfl
    · exact ⟨(hLr _ (by rw [← hWr]; simp)).1, (hLr _ (by rw [← hWr]; simp)).2.1⟩
    · exact ⟨(hLr _ (by rw [← hWr]; simp)).1, (hLr _ (by rw [← hWr]; simp)).2.1⟩
    · obtain ⟨o, e, _⟩ := tab0
      exact ⟨fun q => (by have := H3.new _ (.head _); rw [← q, e] at this; cases this), fun q => (by have := H3.tail.new _ (.head _); rw [← q, e] at this; cases this)⟩
  refine codeAny_forLoop_any (fun n s' => ∃ i h' tk m ys, s' = { s with heap := h', toks := tk } ∧ i ≤ 10 ∧ n = 10 + 1 - i ∧ ((∃ old, IsEnum h' (h3.objs.size + 1) h3.objs.size i old) ∧ h'.IsTupleIter h3.objs.size 54 i ∧ h'.IsTuple 54 tabItems.toArray) ∧ Hp h₀ h' [(L, nsP m), (D, listP ys)] ∧
      Paired (fun a v => IsS a v) ((List.range i).map (pickAt mode)) ys ∧ m (Str.ofString "mode") = some (.int mode t) ∧ m (Str.ofString "perm") = some (.ref D)) ?_ (10 + 1)
    ⟨0, h4, _, _, [], rfl, Nat.zero_le _, rfl, ⟨⟨_, he4⟩, hit4, (tab0.kp k34.keep).tup⟩, k34, Paired.nil, rfl, rfl⟩
  rintro n s' ⟨i, h5, tk5, m, ys, rfl, hi, rfl, st5, H5, hP5, hmode, hperm⟩
  have hyl : ys.length ≤ 900 := by
    have : ∀ {l : List Str} {ys : List Value}, Paired (fun a v => IsS a v) l ys → ys.length = l.length := by
      intro l ys x; induction x with
      | nil => rfl
      | cons _ _ ih => simp [ih]
    have := this hP5
    simp at this; omega
  by_cases hlt : i < 10
  · obtain ⟨T, vs, hT1, hT2, hT3⟩ := tabR i hlt
    refine W.item i _ _ _ hlt st5 fun TT vals h6 tk6 hv hsz6 hTT mid6 hk6 => ?_
    obtain ⟨ti, x, hx, rfl⟩ := hv
    have hxT : x = .ref T := by
      have : tabItems.toArray[i]? = some x := hx
      simp only [List.getElem?_toArray] at this
      rw [hT1] at this; exact (Option.some.inj this).symm
    subst hxT
    have own_of : ∀ {ha hb : Heap} {m : Str → Option Value} {ys : List Value}, Hp h₀ ha [(L, nsP m), (D, listP ys)] → (∀ b o, b ∉ wr → ha.get? b = some o → hb.get? b = some o) → Hp h₀ hb [(L, nsP m), (D, listP ys)] := by
      intro ha hb m ys Ha hk
      refine ⟨fun b o e => hk b o (fun q => by have := (hLr b q).2.2; rw [e] at this; cases this) (Ha.keep b o e), fun p hp => ?_, Ha.new, Ha.apart⟩
      obtain ⟨o, e, q⟩ := Ha.has p hp
      refine ⟨o, hk _ o (fun z => ?_) e, q⟩
      simp only [List.mem_cons, List.not_mem_nil, or_false] at hp
      rcases hp with rfl | rfl
      · exact (hLr _ z).1 rfl
      · exact (hLr _ z).2.1 rfl
    have hTw := W.apart _ _ _ mid6
    refine W.go _ _ _ _ _ _ _ _ mid6 fun h7 st7 hk7 => ?_
    have H7 := own_of (own_of H5 hk6) hk7
    have hTT7 : h7.IsTuple TT #[.int i ti, .ref T] := by
      obtain ⟨o, e, q⟩ := hTT
      exact ⟨o, hk7 _ o hTw e, q⟩
    have Hg := H7.hide
    have kg := KP.hide H7
    refine ex_unpack2 r1.hh Hg hTT7 fun h8 tk8 H8 => ?_
    refine wpAny_execs_cons (inner_c (g0.kp kg) r1 (hT2.kp kg) (by
      have : ∀ {vs : List Value} {l : List (Int × Str)} {ha hb : Heap}, Row ha vs l → KP ha hb → Row hb vs l := by
        intro vs l ha hb x k
        induction x with
        | nil => exact .nil
        | cons q _ ih => exact .cons (q.kp k) ih
      exact this hT3 kg) H8 hyl rfl rfl (by exact hmode) (by exact hperm) rfl rfl rfl rfl fun m9 h9 tk9 t9 hm9 hp9 H9 => wpAny_execs_nil ?_)
    refine ⟨10 + 1 - (i + 1), by omega, i + 1, h9, tk9, m9, _, rfl, hlt, rfl, ?_, H7.unhide H9 rfl, ?_, hm9, hp9⟩
    · refine W.frame (i + 1) h7 h9 st7 fun b hb o e => H9.keep b o (hideAll_get _ e ?_)
      simp only [List.map_cons, List.map_nil, List.mem_cons, List.not_mem_nil, or_false, not_or]
      exact hfpo b hb
    · rw [List.range_succ, List.map_append, List.map_singleton]
      exact Paired.snoc hP5 ⟨t9, rfl⟩
  · have hin : i = 10 := by omega
    subst hin
    refine W.done _ _ _ st5 fun h6 tk6 hk6 => wpAny_execs_nil ?_
    have H6 : Hp h₀ h6 [(L, nsP m), (D, listP ys)] := by
      refine ⟨fun b o e => hk6 b o (fun q => by have := (hLr b q).2.2; rw [e] at this; cases this) (H5.keep b o e), fun p hp => ?_, H5.new, H5.apart⟩
      obtain ⟨o, e, q⟩ := H5.has p hp
      refine ⟨o, hk6 _ o (fun z => ?_) e, q⟩
      simp only [List.mem_cons, List.not_mem_nil, or_false] at hp
      rcases hp with rfl | rfl
      · exact (hLr _ z).1 rfl
      · exact (hLr _ z).2.1 rfl
    refine wpAny_execs_cons (wpAny_Return_some (Call_method1 (by rfl) (by rfl) (by rfl) (se_str.go fun v7 h7 tk7 k7 p7 => ?_)))
    obtain ⟨t7, rfl⟩ := p7
    refine SB.join ((se_local (v := .ref D) (H6.kp k7).here.ns hperm).go fun v8 h8 tk8 k8 p8 => ?_)
    subst p8
    have H8 := (H6.kp k7).kp k8
    obtain ⟨q, rfl, hq⟩ := strs_of hP5
    refine ⟨D, q, rfl, H8.tail.here.list.isList, _, hq, join_ok mode, fun t' k => ?_⟩
    rw [show Txt.join (Str.ofString "") ((List.range 10).map (pickAt mode)) = fmS mode from join_ten mode]
    exact ⟨_, h8, k, rfl, rfl, H8.keep, t', rfl⟩
end Mine
end
section
open PySem PySem.W PyProof.Rows PySem.Calls
set_option maxRecDepth 100000
set_option linter.unusedVariables false
namespace Mine
variable {w : World} {A : Around} {env : Env} {h₀ h g : Heap} {s : Shared} {E : Value → Shared → Prop}
theorem hp_one {a : Addr} {S : OP} (x : At h a S) : Hp (hideAll h [a]) h [(a, S)] :=
  ⟨fun _ _ e => of_hideAll _ e, (fun p m => by simp only [List.mem_cons, List.not_mem_nil, or_false] at m; subst m; exact x), (fun p m => by simp only [List.mem_cons, List.not_mem_nil, or_false] at m; subst m; exact hideAll_none _ (by simp)), List.pairwise_singleton _ _⟩
/-- an iterable of pairs -/
def ItT (w : World) (A : Around) (g0 g : Heap) (v : Value) (n : Nat) (Pt : Nat → Value → Value → Prop) : Prop :=
  ∀ (s : Shared) (Q : Value → Shared → Prop) (E : Value → Shared → Prop), KP g s.heap → (∀ I fp wr St Mid h' tk, WalksT PR w A I fp wr n (fun i vals => ∃ v1 v2, Pt i v1 v2 ∧ vals = #[v1, v2]) St Mid → St 0 h' → KP s.heap h' → (∀ b ∈ fp, b < h'.objs.size) → (∀ b ∈ wr, g0.get? b = none) →
    Q (.ref I) { s with heap := h', toks := tk }) → wpAny (MM w) A (pyIter v) Q E s
theorem se_compP {elt iter : Expr} {x1 x2 : Str} {pa p2 pt : Pos} {kx : Nat} {scope : Scope} {cl : List (Str × Addr)} {pos : Pos} {n : Nat} {Pt : Nat → Value → Value → Prop} (f : Nat → Int)
    (hclos : closureFor scope env = pure cl) (hiter : ∀ (s : Shared) (Q : Value → Shared → Prop) (E : Value → Shared → Prop), KP h s.heap → (∀ v h1 tk1, KP s.heap h1 → ItT w A s.heap h1 v n Pt → Q v { s with heap := h1, toks := tk1 }) → wpAny (MM w) A (eval iter env) Q E s)
    (hh : A.handled = none)
    (helt : ∀ C m i v1 v2 g, KP h g → g.Ns C m → m x1 = some v1 → m x2 = some v2 → i < n → Pt i v1 v2 → SE w A g (eval elt (compEnvC scope cl C env)) (fun y _ => IsI (f i) y)) (hlen : n ≤ 1000)
    (hcell : ∀ y ∈ scope.names, y.2 ≠ .cell := by decide) (hkind : scope.kind = .function := by rfl)
    (hnames : ∀ y ∈ scope.names, y.2 = .local → scope.names.lookup y.1 = some .local := by decide) (hx1 : scope.names.lookup x1 = some .local := by rfl) (hx2 : scope.names.lookup x2 = some .local := by rfl) (hne : x1 ≠ x2 := by decide)
    (hs : ∀ x, foldedSetIterable iter env x = pure x := by intro _; rfl) :
    SE w A h (eval (.ListComp elt [⟨.Tuple [.Name x1 pa, .Name x2 p2] kx pt, iter, [], 0⟩] scope pos) env) (Spec.Is h (.obj (intsP ((List.range n).map f)))) := fun s Q E ks hQ => by
  rw [eval_ListComp]
  refine wpAny_comprehension_free (use := none) rfl hs hclos hkind hnames (hiter s _ _ ks fun xv h1 tk1 k1 p1 => ?_)
  refine p1 _ _ _ KP.rfl fun I fp wr St Mid h2 tk2 W hst k2 hfp hwr => ?_
  have k12 : KP s.heap h2 := k1.trans k2
  refine wpAny_newList ?_
  refine wpAny_newFunctionEnv hcell (by intro y hy; simp at hy) (fun h4 hns4 hsb4 => ?_) hkind
  dsimp only at hns4 hsb4 ⊢
  generalize hH3 : h2.push { cls := .type "list", dict := none, data := .seq ([] : List Value).toArray } = h3 at hns4 hsb4 ⊢
  have hC : h3.objs.size = h2.objs.size + 1 := by rw [← hH3, Heap.size_push]
  have k34 : KP h3 h4 := fun b o e => hsb4.extBut b o (Nat.ne_of_lt (Heap.lt_size e)) (Heap.get?_push_of_some _ e)
  have k23 : KP h2 h3 := hH3 ▸ KP.push _
  have hD4 : At h4 h2.objs.size (listP []) := by
    refine (At.kp ?_ k34 : At h4 h2.objs.size (listP []))
    rw [← hH3]
    exact ⟨_, Heap.get?_push_size _ rfl, _, rfl⟩
  have hDC : h2.objs.size ≠ h3.objs.size := by omega
  have hst4 : St 0 h4 := W.frame _ _ _ hst fun b _ o e => (k23.trans k34) b o e
  have hDf : h2.objs.size ∉ fp := fun hm => Nat.lt_irrefl _ (hfp _ hm)
  have hCf : h3.objs.size ∉ fp := fun hm => by have h9 : h3.objs.size < h2.objs.size := hfp _ hm; omega
  generalize hDe : h2.objs.size = D at *
  generalize hCe : h3.objs.size = C at *
  have hD2 : h2.get? D = none := by rw [← hDe]; exact fresh_size _
  have hC2 : h2.get? C = none := none_kp k23 (by rw [← hCe]; exact fresh_size _)
  have hhw : ∀ b o, h.get? b = some o → b ∉ wr := fun b o e hb => by
    have := hwr b hb
    rw [ks b o e] at this; cases this
  have hCw : C ∉ wr := fun q => hCf (W.sub _ q)
  have hDw : D ∉ wr := fun q => hDf (W.sub _ q)
  have loop : ∀ s₃ : Shared, s₃ = { s with heap := h4, toks := tk2 + ([] : List (Str × Value)).length } →
      codeAny (MM w) A (.compLoop (.ListComp elt [⟨.Tuple [.Name x1 pa, .Name x2 p2] kx pt, iter, [], 0⟩] scope pos) 0 (.ref I) (.ref D) (compEnvC scope cl C env)) (compPost (MM w) A E none Q (.ref D) C) s₃ := by
    rintro s₃ rfl
    refine LCp.codeAny_compLoop_pair (fun k s' => ∃ i h' tk m ys, s' = { s with heap := h', toks := tk } ∧ i ≤ n ∧ k = n + 1 - i ∧ St i h' ∧ (∀ b o, b ∉ wr → h2.get? b = some o → h'.get? b = some o) ∧ h'.Ns C m ∧ At h' D (listP ys) ∧ IntsAre ys ((List.range i).map f)) ?_ (n + 1)
      ⟨0, h4, _, _, [], rfl, Nat.zero_le _, rfl, hst4, fun b o _ e => (k23.trans k34) b o e, hns4, hD4, IntsAre.nil⟩
    rintro k s' ⟨i, h5, tk5, m5, ys, rfl, hi, rfl, hst5, hk5, hn5, hD5, hP5⟩
    have hyl : ys.length = i := by have := ints_len hP5; simpa using this
    by_cases hlt : i < n
    · refine W.item i _ _ _ hlt hst5 fun T vals h6 tk6 hv hsz6 hT6 mid6 hk6 => ?_
      obtain ⟨v1, v2, hPt, rfl⟩ := hv
      have hTw := W.apart _ _ _ mid6
      refine W.go _ _ _ _ _ _ _ _ mid6 fun h7 hst7 hk7 => ?_
      have hT7 : h7.IsTuple T #[v1, v2] := by obtain ⟨o, e, q⟩ := hT6; exact ⟨o, hk7 _ o hTw e, q⟩
      have hn7 : h7.Ns C m5 := (hn5.at' fun o e => hk6 _ o hCw e).at' fun o e => hk7 _ o hCw e
      refine ex_unpack2 (env := compEnvC scope cl C env) hh (hp_one (at_ns hn7)) hT7 (fun h8 tk8 H8 => ?_) rfl (lookup_relabel_local hx1) (lookup_relabel_local hx2) (by simp [compEnvC, relabel, hkind])
      have up8 : ∀ b o, b ≠ C → h7.get? b = some o → h8.get? b = some o := fun b o hb e => H8.keep b o (hideAll_get _ e (by simpa using hb))
      have up58 : ∀ b o, b ≠ C → b ∉ wr → h5.get? b = some o → h8.get? b = some o := fun b o hb hw e => up8 b o hb (hk7 b o hw (hk6 b o hw e))
      have k8 : KP h h8 := fun b o e => by
        have hbw := hhw b o e
        have e2 := k12 b o (ks b o e)
        exact up58 b o (fun q => by rw [q, hC2] at e2; cases e2) hbw (hk5 b o hbw e2)
      have hst8 : St (i + 1) h8 := W.frame _ _ _ hst7 fun b hb o e => up8 b o (fun q => hCf (q ▸ hb)) e
      refine (helt C _ i v1 v2 h8 k8 H8.here.ns (by unfold upd; rw [if_neg hne, if_pos rfl]) (by unfold upd; rw [if_pos rfl]) hlt hPt).go fun y h9 tk9 k9 p9 => ?_
      have hD9 : At h9 D (listP ys) := by
        obtain ⟨o, e, q⟩ := hD5
        exact ⟨o, k9 _ _ (up58 D o hDC hDw e), q⟩
      refine wpAny_list_append_plain hD9.list (fun h10 hl10 hs10 => ?_) (by rw [List.size_toArray, sizeLine_eq]; omega)
      refine ⟨n + 1 - (i + 1), by omega, i + 1, h10, tk9, _, ys ++ [y], rfl, hlt, rfl, ?_, ?_, (H8.here.ns.keeps k9).sameBut hs10 (Ne.symm hDC), at_list (by simpa using hl10), ?_⟩
      · exact W.frame _ _ _ hst8 fun b hb o e => hs10.extBut b o (fun q => hDf (q ▸ hb)) (k9 b o e)
      · exact fun b o hbw e => hs10.extBut b o (fun q => by rw [q, hD2] at e; cases e) (k9 b o (up58 b o (fun q => by rw [q, hC2] at e; cases e) hbw (hk5 b o hbw e)))
      · obtain ⟨ty, rfl⟩ := p9
        rw [List.range_succ, List.map_append, List.map_singleton]
        exact ints_app hP5 _ _
    · have hin : i = n := by omega
      subst hin
      refine W.done _ _ _ hst5 fun h6 tk6 hk6 => ?_
      refine ⟨m5, hn5.at' fun o e => hk6 _ o hCw e, fun h7 hs7 => ?_⟩
      have up7 : ∀ b o, b ≠ C → b ∉ wr → h5.get? b = some o → h7.get? b = some o := fun b o hbC hbw e => hs7.extBut b o hbC (hk6 b o hbw e)
      obtain ⟨o, e, q⟩ := hD5
      refine hQ _ h7 _ (fun b o e => ?_) ⟨D, rfl, none_kp (ks.trans k12) hD2, o, up7 D o hDC hDw e, ys, q, hP5⟩
      have e2 := k12 b o e
      have hbw : b ∉ wr := fun hb => by have := hwr b hb; rw [e] at this; cases this
      exact up7 b o (fun q => by rw [q, hC2] at e2; cases e2) hbw (hk5 b o hbw e2)
  exact codeAny_compStart_list (loop _ rfl) (W.self 0 _ _ _ hst4 (loop _ rfl))
end Mine
end
section
open PySem PySem.W PyProof.Rows PySem.Calls
set_option maxRecDepth 100000
set_option linter.unusedVariables false
namespace Mine
variable {w : World} {A : Around} {env : Env} {h₀ h g : Heap} {s : Shared} {E : Value → Shared → Prop}
theorem enum_str {x : Str} {t : Tok} {Q : Value → Shared → Prop} (hh : A.handled = none)
    (hQ : ∀ v h1 tk1, KP s.heap h1 → ItT w A s.heap h1 v x.cps.size (fun i v1 v2 => IsI (i : Int) v1 ∧ ∃ c, x.cps[i]? = some c ∧ IsS ⟨#[c]⟩ v2) → Q v { s with heap := h1, toks := tk1 }) :
    wpAny (MM w) A (call (.type "enumerate") [.str x t]) Q E s := by
  refine call_enumerate_str fun h' he hit hsz hk => hQ _ h' _ hk ?_
  intro s2 Q2 E2 k2 hQ2
  have he2 : IsEnum s2.heap (s.heap.objs.size + 1) s.heap.objs.size 0 .none := k2 _ _ he
  refine wpAny_pyIter_enum he2 ?_
  obtain ⟨o, ho, hr⟩ := hit
  have hit2 : s2.heap.IsStrIter s.heap.objs.size (strIterType x) x t 0 := ⟨o, k2 _ _ ho, hr⟩
  have hD : ∃ St, Draws PR w A.in1 s.heap.objs.size [s.heap.objs.size] x.cps.size (fun i v => ∃ c u, x.cps[i]? = some c ∧ v = .str ⟨#[c]⟩ u) St ∧ St 0 s2.heap := by
    by_cases ha : x.cps.all (· < 128) = true
    · have e : strIterType x = "str_ascii_iterator" := by unfold strIterType; rw [if_pos ha]
      rw [e] at hit2
      exact ⟨fun i h => h.IsStrIter s.heap.objs.size "str_ascii_iterator" x t i, Draws.strAscii (A := A.in1) hh _ x t, hit2⟩
    · have e : strIterType x = "str_iterator" := by unfold strIterType; rw [if_neg ha]
      rw [e] at hit2
      exact ⟨fun i h => h.IsStrIter s.heap.objs.size "str_iterator" x t i, Draws.strWide (A := A.in1) hh _ x t, hit2⟩
  obtain ⟨St, D, hst⟩ := hD
  have W := WalksT.enumerateD D (s.heap.objs.size + 1) (Nat.succ_ne_self _) (by simp only [List.mem_cons, List.not_mem_nil, or_false]; exact Nat.succ_ne_self _) (by simp)
  refine hQ2 _ _ _ _ _ s2.heap s2.toks ⟨W.sub, W.frame, fun i s Q E hi st hq => W.item i s Q E hi st fun T vals h' tk hp a b c d => hq T vals h' tk ?_ a b c d, W.go, W.apart, W.done, W.self⟩ ⟨⟨_, he2⟩, hst⟩ KP.rfl ?_ ?_
  · obtain ⟨t1, x1, ⟨c, u, hc, rfl⟩, rfl⟩ := hp
    exact ⟨_, _, ⟨⟨t1, rfl⟩, c, hc, u, rfl⟩, rfl⟩
  · intro b hb
    simp only [List.mem_cons, List.not_mem_nil, or_false] at hb
    rcases hb with rfl | rfl
    · exact Heap.lt_size he2
    · exact Heap.lt_size (k2 _ _ ho)
  · intro b hb
    cases e : s.heap.get? b with
    | none => rfl
    | some o =>
      have := Heap.lt_size e
      simp only [List.mem_cons, List.not_mem_nil, or_false] at hb
      rcases hb with rfl | rfl
      · exact absurd this (by simp)
      · exact absurd this (Nat.lt_irrefl _)
def foldN (f : Int → Int → Int) (ns : List Int) (i : Nat) : Int := ((ns.drop 1).take (i - 1)).foldl f (ns.getD 0 0)
def fold1 (f : Int → Int → Int) (ns : List Int) : Int := (ns.drop 1).foldl f (ns.getD 0 0)
theorem red_two {l fa : Addr} {ns : List Int} {k : Nat} (f : Int → Int → Int) (g : G w h) (r : Rm A (k + 2)) (hf : fnAt (KK w) fa = true) (hl : At h l (intsP ns)) (hne : ns ≠ [])
    (hc : ∀ A' a n t u g', Rm A' (k + 1) → G w g' → n ∈ ns → SE w A' g' (call (.ref fa) [.int a t, .int n u]) (fun v _ => IsI (f a n) v)) :
    SE w A h (call (.ref 70) [.ref fa, .ref l]) (fun v _ => IsI (fold1 f ns) v) := by
  obtain ⟨o, e, vs, q, hi⟩ := hl
  obtain ⟨n0, r0, rfl⟩ : ∃ n0 r0, ns = n0 :: r0 := by cases ns with | nil => exact absurd rfl hne | cons a b => exact ⟨a, b, rfl⟩
  obtain ⟨x0, hx0⟩ : ∃ x0, vs[0]? = some x0 := by
    have := ints_len hi
    exact ⟨vs[0]'(by simp at this; omega), by simp⟩
  have := reduce2_c (S := fun i => if i = 0 then .val (fun _ => False) else vi (foldN f (n0 :: r0) i)) (f := fa) (p0 := IsI n0) g r hf ⟨o, e, q⟩ hx0 (by simp [foldN]) ?_ ?_
  · refine this.mono fun v h' _ p => ?_
    have hln := ints_len hi
    rw [if_neg (by simp at hln; omega)] at p
    have : foldN f (n0 :: r0) vs.length = fold1 f (n0 :: r0) := by
      unfold foldN fold1
      rw [List.take_of_length_le]
      simp at hln ⊢; omega
    rw [this] at p
    exact p
  · obtain ⟨n, hn, t, rfl⟩ := ints_get hi hx0
    simp at hn; subst hn; exact ⟨t, rfl⟩
  · intro A' i v x g' r' kg gg hx hA
    by_cases hz : i = 0
    · subst hz; exact absurd hA (by simp [AccH])
    · rw [if_neg hz] at hA
      obtain ⟨n, hn, u, rfl⟩ := ints_get hi hx
      obtain ⟨t', rfl⟩ := hA
      refine (hc A' _ n t' u g' r' gg (List.mem_of_getElem? hn)).mono fun v _ _ p => ?_
      show Spec.Is _ (if i + 1 = 0 then _ else _) v _
      rw [if_neg (by omega)]
      show IsI _ v
      have : foldN f (n0 :: r0) (i + 1) = f (foldN f (n0 :: r0) i) n := by
        unfold foldN
        have hd : ((n0 :: r0).drop 1)[i - 1]? = some n := by
          rw [List.getElem?_drop]
          have : 1 + (i - 1) = i := by omega
          rw [this]; exact hn
        have e2 : i + 1 - 1 = (i - 1) + 1 := by omega
        rw [e2]; exact foldl_take hd
      rw [this]; exact p
theorem red_add {l : Addr} {ns : List Int} {k : Nat} (g : G w h) (r : Rm A (k + 2)) (hl : At h l (intsP ns)) (hne : ns ≠ []) : SE w A h (call (.ref 70) [.ref 77, .ref l]) (fun v _ => IsI (fold1 (· + ·) ns) v) :=
  red_two (· + ·) g r (by with_unfolding_all rfl) hl hne fun A' a n t u g' r' gg _ => add_c gg r'
theorem red_mul {l : Addr} {ns : List Int} {k : Nat} (g : G w h) (r : Rm A (k + 2)) (hl : At h l (intsP ns)) (hne : ns ≠ []) (hb : ∀ n ∈ ns, -(2 ^ 60) < n ∧ n < 2 ^ 60) : SE w A h (call (.ref 70) [.ref 84, .ref l]) (fun v _ => IsI (fold1 (· * ·) ns) v) :=
  red_two (· * ·) g r (by with_unfolding_all rfl) hl hne fun A' a n t u g' r' gg hn => mul_c gg r' (IntMulOk.of_right (intBits_le_64 (by have := (hb n hn).1; omega) (by have := (hb n hn).2; omega)))
/-- which price a sign has -/
def ixOf (c : Nat) : Nat := lettersS.cps.toList.idxOf c
theorem ix_ok (mode : Int) (i : Nat) (hi : i < 10) : ixOf (codeAt mode i) < 14 ∧ lettersS.cps.getD (ixOf (codeAt mode i)) 0 = codeAt mode i := by
  have hm : codeAt mode i ∈ lettersS.cps.toList := by
    unfold codeAt pickAt pick
    split
    · rename_i p hp
      have hm := List.mem_of_find?_eq_some hp
      have : ∀ j, j < 10 → ∀ p ∈ tabRows.getD j [], p.2.cps.getD 0 0 ∈ lettersS.cps.toList := by decide
      exact this i hi p hm
    · split <;> decide
  have : ∀ c ∈ lettersS.cps.toList, ixOf c < 14 ∧ lettersS.cps.getD (ixOf c) 0 = c := by decide
  exact this _ hm
def costF (P : Nat → Int) (mode : Int) (i : Nat) : Int := P (ixOf (codeAt mode i)) + (i : Int)
def costL (P : Nat → Int) (mode : Int) : List Int := (List.range 10).map (costF P mode)
def paidF (P : Nat → Int) (ws : List Int) : Int := fold1 (· + ·) (ws.map fun a => fold1 (· * ·) (costL P a))
theorem paired_get {α β : Type} {F : α → β → Prop} {l : List α} {ys : List β} (x : Paired F l ys) : ys.length = l.length ∧ ∀ {i : Nat} {y : β}, ys[i]? = some y → ∃ a, l[i]? = some a ∧ F a y := by
  induction x with
  | nil => exact ⟨rfl, fun e => by simp at e⟩
  | cons hF _ ih =>
    refine ⟨by simp [ih.1], fun {i y} e => ?_⟩
    cases i with
    | zero => simp at e; subst e; exact ⟨_, rfl, hF⟩
    | succ i => simpa using ih.2 (by simpa using e)
theorem paid_c {k : Nat} {d lw : Addr} {P : Nat → Int} {ws : List Int} (g : G w h) (r : Rm A (k + 3)) (hd : At h d (priceP w P)) (hP : ∀ i, i < 14 → 0 ≤ P i ∧ P i ≤ 11) (hw : At h lw (intsP ws)) (hwl : ws.length ≤ 100) (hne : ws ≠ []) :
    SE w A h (call (.ref 113) [.ref d, .ref lw]) (fun v _ => IsI (paidF P ws) v) := by
  refine enterC (binds := [(Str.ofString "prices", .ref d), (Str.ofString "words", .ref lw)]) (by with_unfolding_all rfl) g r (by with_unfolding_all rfl) (fun s _ => BindsTo.of_eq rfl) ?_ (by rfl) (by decide)
  intro s h₀ L E k0 H r1
  have g0 : G w h₀ := g.kp k0
  have H' : Hp h₀ s.heap [(L, nsP _), (L + 1, cellP (some (.ref d)))] := H
  have hcell : s.heap.IsCell (L + 1) (some (.ref d)) := H'.tail.here.cell
  have gs : G w s.heap := g0.kp H.keep
  refine wpAny_execs_cons (ex_assignComp ws (fun (a : Int) v => IsI a v) (fun _ => true) (fun a => .obj (intsP (costL P a))) H' (by with_unfolding_all rfl) ?_ ?_ ?_ (by omega) ?_)
  · exact (se_local (v := .ref lw) H'.here.ns rfl).mono fun v g' kg e => by subst e; exact it_ints r1.hh (hw.kp (k0.trans (H'.keep.trans kg)))
  · intro C m a v g' kg hn hm ha hv
    exact tests0
  · intro C m a v g' kg hn hm ha hv _
    obtain ⟨ta, rfl⟩ := hv
    refine se_compP (n := 10) (Pt := fun i v1 v2 => IsI (i : Int) v1 ∧ ∃ c, (fmS a).cps[i]? = some c ∧ IsS ⟨#[c]⟩ v2) (costF P a) (by with_unfolding_all rfl) ?_ r1.hh ?_ (by decide)
    · intro s2 Q2 E2 k2 hQ2
      have gg : G w s2.heap := (gs.kp kg).kp k2
      refine Call_Name1 ((se_builtin (v := .type "enumerate") gg (by with_unfolding_all rfl) (by decide +kernel) (by decide)).go fun v3 h3 tk3 k3 p3 => ?_)
      subst p3
      refine PyProof.Rows.callWith_type rfl (evalArgs_plain (spliced_cons (SE.go (se_call1 (P := fun v _ => IsS (fmS a) v) (gg.kp k3) (se_global (v := .ref 61) (gg.kp k3) (by with_unfolding_all rfl)) (by with_unfolding_all rfl) (se_local (v := .int a ta) (hn.keeps (k2.trans k3)) hm) (fun v g'' kg'' q => by subst q; exact filemode_c ((gg.kp k3).kp kg'') r1)) fun v4 h4 tk4 k4 p4 => spliced_nil ?_)))
      obtain ⟨t4, rfl⟩ := p4
      refine enum_str r1.hh fun v5 h5 tk5 k5 hIt => hQ2 v5 h5 tk5 ((k3.trans k4).trans k5) ?_
      exact fun s6 Q6 E6 k6 hQ6 => hIt s6 Q6 E6 k6 fun I fp wr St Mid h' tk W hst kk hfp hwr => hQ6 I fp wr St Mid h' tk W hst kk hfp fun b hb => none_kp (k3.trans k4) (hwr b hb)
    · intro C2 m2 i v1 v2 g2 kg2 hn2 hm1 hm2 hi hPt
      obtain ⟨⟨t1, rfl⟩, c, hc, t2, rfl⟩ := hPt
      have hcc : c = codeAt a i := by
        have e : (fmS a).cps[i]? = some (codeAt a i) := by unfold fmS; simp [hi]
        rw [e] at hc; exact (Option.some.inj hc).symm
      subst hcc
      obtain ⟨hi14, hix⟩ := ix_ok a i hi
      have hsg : (⟨#[codeAt a i]⟩ : Str) = sg (ixOf (codeAt a i)) := by unfold sg; rw [hix]
      exact se_add (se_price (i := ixOf (codeAt a i)) (se_cell (c := L + 1) (v := .ref d) rfl (hcell.keeps (kg.trans kg2))) ((se_local (v := .str ⟨#[codeAt a i]⟩ t2) hn2 hm2).mono fun _ _ _ q => ⟨t2, by rw [q, hsg]⟩) (hd.kp (k0.trans (H'.keep.trans (kg.trans kg2)))) hi14) (se_int (se_local (v := .int i t1) hn2 hm1))
  · intro Dc ys h4 tk4 H4 hPr
    have g4 : G w h4 := g0.kp H4.keep
    rw [List.filter_eq_self.mpr (by intros; rfl)] at hPr
    obtain ⟨hyl, hyg⟩ := paired_get hPr
    have hcb : ∀ a, ∀ n ∈ costL P a, -(2 ^ 60) < n ∧ n < 2 ^ 60 := by
      intro a n hn
      obtain ⟨i, hi, rfl⟩ := List.mem_map.mp hn
      have hi10 : i < 10 := List.mem_range.mp hi
      have := hP _ (ix_ok a i hi10).1
      unfold costF; omega
    refine wpAny_execs_cons (wpAny_Return_some ((se_call2 (P2 := Spec.Is h4 (.obj (intsP (ws.map fun a => fold1 (· * ·) (costL P a))))) g4 (se_global (v := .ref 70) g4 (by with_unfolding_all rfl)) (by with_unfolding_all rfl) (se_global (v := .ref 77) g4 (by with_unfolding_all rfl)) (fun v1 g1 k1 p1 => ?_) (fun v1 v2 g1 g2 k1 p1 k2 p2 => ?_)).go fun v h5 tk5 k5 p5 => ⟨v, h5, tk5, rfl, rfl, H4.keep.trans k5, p5⟩))
    · refine SE.mono (P := Spec.Is g1 (.obj (intsP ((ws.filter fun _ => true).map fun a => fold1 (· * ·) (costL P a))))) (se_compI ws (fun (a : Int) v => ∃ b, v = .ref b ∧ At h4 b (intsP (costL P a))) (fun _ => true) (fun a => fold1 (· * ·) (costL P a)) (by with_unfolding_all rfl) ?_ ?_ ?_ (by omega)) ?_
      · refine SE.mono (se_local (v := .ref Dc) ((H4.kp k1).here.ns) rfl) fun v g' kg e => ?_
        subst e
        have := it_list (w := w) (A := A.deeper _) r1.hh (((H4.kp k1).kp kg).tail.here)
        intro s6 Q6 E6 k6 hQ6
        refine this s6 Q6 E6 k6 fun I fp wr St h' tk W hst kk hfp hwr hex => ?_
        rw [hyl] at W
        exact hQ6 I fp wr St h' tk ⟨W.sub, W.frame, fun i s Q E hlt st hq => W.item i s Q E hlt st fun v h' tk p => hq v h' tk (hyg p), W.done, W.self⟩ hst kk hfp hwr hex
      · intro C m a v g' kg hn hm ha hv
        exact tests0
      · intro C m a v g' kg hn hm ha hv _
        obtain ⟨b, rfl, hb⟩ := hv
        have gg : G w g' := (g4.kp k1).kp kg
        refine se_call2 gg (se_global (v := .ref 70) gg (by with_unfolding_all rfl)) (by with_unfolding_all rfl) (se_global (v := .ref 84) gg (by with_unfolding_all rfl)) (fun v1 g1' k1' p1' => SE.kp (se_local (v := .ref b) hn hm) k1') (fun v1 v2 g1' g2' k1' p1' k2' p2' => ?_)
        subst p1' p2'
        exact red_mul (gg.kp (k1'.trans k2')) r1 (hb.kp (k1.trans (kg.trans (k1'.trans k2')))) (by simp [costL]) (hcb a)
      · intro v g' _ q
        rw [List.filter_eq_self.mpr (by intros; rfl)] at q
        exact q.low k1
    · subst p1
      obtain ⟨b, rfl, _, hb⟩ := p2
      exact red_add (g4.kp (k1.trans k2)) r1 hb (by simpa using hne)
end Mine
end
section
open PySem PySem.W PyProof.Rows PySem.Calls
set_option maxRecDepth 100000
set_option linter.unusedVariables false
namespace Mine
variable {w : World} {A : Around} {env : Env} {h₀ h g : Heap} {s : Shared} {E : Value → Shared → Prop}
theorem ints_all {vs : List Value} (x : ∀ v ∈ vs, ∃ n, IsI n v) : ∃ ns, IntsAre vs ns := by
  induction vs with
  | nil => exact ⟨[], .nil⟩
  | cons v r ih =>
    obtain ⟨n, t, rfl⟩ := x v (by simp)
    obtain ⟨ns, hn⟩ := ih fun u hu => x u (by simp [hu])
    exact ⟨n :: ns, .cons n t hn⟩
theorem ints_mem {vs : List Value} {ns : List Int} (hi : IntsAre vs ns) : ∀ v ∈ vs, ∃ n, IsI n v := by
  induction hi with
  | nil => intro v hv; cases hv
  | cons n t _ ih =>
    intro v hv
    rcases List.mem_cons.mp hv with rfl | hv
    · exact ⟨n, t, rfl⟩
    · exact ih v hv
theorem pick_ints {vs : List Value} {ns : List Int} (hi : IntsAre vs ns) (lo up st : Option Int) : ∃ ms, IntsAre (slicePick vs.toArray lo up st).toList ms ∧ ms.length ≤ vs.length := by
  have hm : ∀ v ∈ (slicePick vs.toArray lo up st).toList, ∃ n, IsI n v := by
    intro v hv
    unfold slicePick at hv
    simp only [List.mem_filterMap] at hv
    obtain ⟨j, _, e⟩ := hv
    refine ints_mem hi v ?_
    have : vs.toArray[j]? = some v := e
    simp only [List.getElem?_toArray] at this
    exact List.mem_of_getElem? this
  obtain ⟨ms, h1⟩ := ints_all hm
  refine ⟨ms, h1, ?_⟩
  have := slicePick_size_le vs.toArray lo up st
  have e := ints_len h1
  simp at e this
  omega
theorem three_c {k : Nat} {l : Addr} {vs : List Value} {ns : List Int} (g : G w h) (r : Rm A (k + 1)) (hl : h.IsList l vs.toArray) (hi : IntsAre vs ns) (hlen : vs.length ≤ 900) :
    SE w A h (call (.ref 149) [.ref l]) (Spec.Is h (.obj fun o => ∃ a b c : Int, intsP [a, b, c] o)) := by
  refine enterC (binds := [(Str.ofString "script", .ref l)]) (by with_unfolding_all rfl) g r (by with_unfolding_all rfl) (fun s _ => BindsTo.of_eq rfl) ?_ (by rfl) (by decide)
  intro s h₀ L E k0 H r1
  have g0 : G w h₀ := g.kp k0
  have H' : Hp h₀ s.heap [(L, nsP _), (L + 1 + 1, cellP none), (L + 1, cellP none)] := H
  have H1 : Hp h₀ s.heap [(L + 1, cellP none), (L + 1 + 1, cellP none), (L, nsP _)] := H'.perm (by
    refine List.Perm.trans (List.Perm.cons _ (List.Perm.swap ..)) (List.Perm.trans (List.Perm.swap ..) (List.Perm.cons _ (List.Perm.swap ..))))
  have gs : G w s.heap := g0.kp H.keep
  obtain ⟨ms, hms, hml⟩ := pick_ints hi none (some 12) none
  refine wpAny_execs_cons (ex_assignCN (S := intsP ((ms.filter fun _ => true).map fun a => a % 1000000)) H1 (se_compI ms (fun (a : Int) v => IsI a v) (fun _ => true) (fun a => a % 1000000) (by with_unfolding_all rfl) ?_ ?_ ?_ (by omega)) fun D h1 tk1 H2 => ?_)
  · intro s2 Q2 E2 k2 hQ2
    have hl2 : s2.heap.IsList l vs.toArray := hl.at fun o e => (k0.trans (H.keep.trans k2)) _ _ e
    refine wpAny_Subscript_list_slice ((se_local (v := .ref l) (H'.here.ns.keeps k2) rfl).go fun v3 h3 tk3 k3 p3 => ?_)
    subst p3
    rw [evalPart_none]
    refine wpAny_pure ?_
    rw [evalPart_some]
    refine (se_const (w := w) (h := h3) (i := 12)).go fun v4 h4 tk4 k4 p4 => ?_
    obtain ⟨t4, rfl⟩ := p4
    refine ⟨l, vs.toArray, none, some 12, rfl, hl2.at fun o e => (k3.trans k4) _ _ e, by rw [List.size_toArray, sizeLine_eq]; omega, .none, .int 12 t4, ?_⟩
    refine hQ2 _ _ _ (((k3.trans k4).trans (KP.push _)).trans (KP.push _)) ?_
    refine it_ints r1.hh ⟨_, ?_, _, ⟨0, rfl⟩, hms⟩
    have e := Heap.get?_push_size (h4.push { cls := .type "slice", data := .fields #[.none, .int 12 t4, .none] }) (o := { cls := .type "list", data := .seq (slicePick vs.toArray none (some 12) none) }) rfl
    rw [Heap.size_push] at e
    simpa using e
  · intro C m a v g' kg hn hm ha hv
    exact tests0
  · intro C m a v g' kg hn hm ha hv _
    obtain ⟨ta, rfl⟩ := hv
    refine se_mod (b := 1000000) ?_ (se_pow (a := 10) (b := 6) se_const se_const (by decide) (by decide) (by decide)) (by decide)
    intro s2 Q2 E2 k2 hQ2
    have gg : G w s2.heap := (gs.kp kg).kp k2
    refine Call_Name1 ((se_builtin (v := .type "int") gg (by with_unfolding_all rfl) (by decide +kernel) (by decide)).go fun v3 h3 tk3 k3 p3 => ?_)
    subst p3
    refine PyProof.Rows.callWith_type rfl (evalArgs_plain (spliced_cons (SE.go (se_local (v := .int a ta) (hn.keeps (k2.trans k3)) hm) fun v4 h4 tk4 k4 p4 => spliced_nil ?_)))
    subst p4
    exact call_int_int (hQ2 _ h4 _ (k3.trans k4) ⟨ta, rfl⟩)
  have H3 : Hp h₀ h1 [(L + 1 + 1, cellP none), (L + 1, cellP (some (.ref D))), (D, intsP ((ms.filter fun _ => true).map fun a => a % 1000000)), (L, nsP _)] := H2.perm (by
    refine List.Perm.trans (List.Perm.cons _ (List.Perm.swap ..)) (List.Perm.swap ..))
  refine wpAny_execs_cons (ex_assignCN (S := intsP [33825, 2, 0]) H3 (se_listI (ns := [33825, 2, 0]) (ses_c (ses_c (ses_c SEs.nil))) (by decide)) fun D2 h2 tk2 H4 => ?_)
  have g2 : G w h2 := g0.kp H4.keep
  have hst : h2.IsCell (L + 1 + 1) (some (.ref D2)) := H4.here.cell
  have hce : h2.IsCell (L + 1) (some (.ref D)) := (H4.has (L + 1, cellP (some (.ref D))) (by simp)).cell
  have hD2 : At h2 D2 (intsP [33825, 2, 0]) := H4.has (D2, intsP [33825, 2, 0]) (by simp)
  have hD : At h2 D (intsP ((ms.filter fun _ => true).map fun a => a % 1000000)) := H4.tail.tail.tail.here
  generalize hcs : ((ms.filter fun _ => true).map fun a => a % 1000000) = cs at *
  have hcl : cs.length ≤ 900 := by rw [← hcs, List.length_map]; have := List.length_filter_le (fun _ => true) ms; omega
  refine wpAny_execs_cons (wpAny_Return_some ((se_comp (List.range 3) (fun (p : Nat) v => IsI (p : Int) v) (fun _ => true) (fun p => .val fun y => ∃ n, IsI n y) (by with_unfolding_all rfl) ?_ ?_ ?_ (by decide)).go fun v h3 tk3 k3 p3 => ?_))
  · exact (se_range (n := 3) g2 se_const).mono fun v g _ ⟨ra, e, q⟩ => e ▸ it_rangeL (n := 3) r1.hh (by decide) q
  · intro C m a v g' kg hn hm ha hv
    exact tests0
  · intro C m p v g' kg hn hm hp hv _
    obtain ⟨tp, rfl⟩ := hv
    have hp3 : p < 3 := by simpa using hp
    have gg : G w g' := g2.kp kg
    obtain ⟨o, eo, us, q, hus⟩ := hD.kp kg
    obtain ⟨ks, hks, hkl⟩ := pick_ints hus (some (p : Int)) none (some 3)
    refine SE.mono (P := fun v _ => IsI ([33825, 2, 0].getD (p : Int).toNat 0 + ks.sum) v) (se_add (se_item (k := (p : Int)) (ns := [33825, 2, 0]) (se_cell (c := L + 1 + 1) (v := .ref D2) rfl (hst.keeps kg)) (se_int (se_local hn hm)) (hD2.kp kg) (by omega) (by simp; omega) (by omega)) (se_sum gg r1.hh ?_)) (fun v _ _ q => ⟨_, q⟩)
    intro s2 Q2 E2 k2 hQ2
    have hl2 : s2.heap.IsList D us.toArray := (At.list ⟨o, k2 _ _ eo, q⟩).isList
    refine wpAny_Subscript_Slice_step (T := "list") list_getitem_lookup ((se_cell (c := L + 1) (v := .ref D) rfl ((hce.keeps kg).keeps k2)).go fun v3 h3 tk3 k3 p3 => ?_)
    subst p3
    refine wpAny_Slice ?_
    rw [evalPart_some]
    refine (se_local (v := .int p tp) (hn.keeps (k2.trans k3)) hm).go fun v4 h4 tk4 k4 p4 => ?_
    subst p4
    rw [evalPart_none]
    refine wpAny_pure ?_
    rw [evalPart_some]
    refine (se_const (w := w) (h := h4) (i := 3)).go fun v5 h5 tk5 k5 p5 => ?_
    obtain ⟨t5, rfl⟩ := p5
    have hl5 : h5.IsList D us.toArray := hl2.at fun o e => (k3.trans (k4.trans k5)) _ _ e
    refine ⟨(hl5.push _).typeIs, wpAny_getItem_list_slice (hl5.push _) (Heap.IsSliceOf.new ..) (.int (p : Int) tp) .none (.int 3 t5) (by simp) ?_ (by rw [List.size_toArray, sizeLine_eq]; have := ints_len hus; omega)⟩
    have kk := (((k3.trans k4).trans k5).trans (KP.push { cls := .type "slice", data := .fields #[.int (p : Int) tp, .none, .int 3 t5] })).trans (KP.push { cls := .type "list", data := .seq (slicePick us.toArray (some (p : Int)) none (some 3)) })
    exact hQ2 _ _ _ kk ⟨_, rfl, none_kp (k2.trans (((k3.trans k4).trans k5).trans (KP.push _))) (fresh_size _), _, Heap.get?_push_size _ rfl, _, ⟨0, rfl⟩, hks⟩
  · obtain ⟨D3, rfl, hn3, ys, ⟨o, eo, q⟩, hP⟩ := p3
    refine ⟨_, h3, tk3, rfl, rfl, H4.keep.trans k3, D3, rfl, none_kp (k0.trans H4.keep) hn3, o, eo, ?_⟩
    have e3 : (List.range 3).filter (fun _ => true) = [0, 1, 2] := rfl
    rw [e3] at hP
    cases hP with
    | cons a1 r1' => cases r1' with
      | cons a2 r2 => cases r2 with
        | cons a3 r3 =>
          cases r3
          obtain ⟨n1, t1, rfl⟩ := a1
          obtain ⟨n2, t2, rfl⟩ := a2
          obtain ⟨n3, t3, rfl⟩ := a3
          exact ⟨n1, n2, n3, _, q, .cons _ _ (.cons _ _ (.cons _ _ .nil))⟩
end Mine
end
section
open PySem PySem.W PyProof.Rows PySem.Calls
set_option maxRecDepth 100000
set_option linter.unusedVariables false
namespace Mine
variable {w : World} {A : Around} {env : Env} {h₀ h g : Heap} {s : Shared} {E : Value → Shared → Prop}
theorem it_str {x : Str} {t : Tok} (hh : A.handled = none) : It w A g (.str x t) x.cps.size (fun i v => ∃ c, x.cps[i]? = some c ∧ IsS ⟨#[c]⟩ v) := fun s Q E ks hQ => by
  have fin : ∀ (ty : String) (St : Nat → Heap → Prop), (∀ i x', St i x' → x'.get? s.heap.objs.size ≠ none) → Walks PR w A s.heap.objs.size [s.heap.objs.size] [s.heap.objs.size] x.cps.size (SignAt x) St → St 0 (s.heap.push { cls := .type ty, data := .fields #[.str x t, .int 0 0] }) →
      Q (.ref s.heap.objs.size) { s with heap := s.heap.push { cls := .type ty, data := .fields #[.str x t, .int 0 0] } } := by
    intro ty St hex W hst
    refine hQ _ _ _ St _ _ ⟨W.sub, W.frame, fun i s Q E hlt st hq => W.item i s Q E hlt st fun v h' tk p => hq v h' tk (by obtain ⟨c, u, hc, rfl⟩ := p; exact ⟨c, hc, u, rfl⟩), W.done, W.self⟩ hst (KP.push _) ?_ ?_ ?_
    · intro b hb
      simp only [List.mem_cons, List.not_mem_nil, or_false] at hb
      subst hb; rw [Heap.size_push]; exact Nat.lt_succ_self _
    · intro b hb
      simp only [List.mem_cons, List.not_mem_nil, or_false] at hb
      subst hb; exact fresh_size _
    · intro i x' st b hb
      simp only [List.mem_cons, List.not_mem_nil, or_false] at hb
      subst hb; exact hex i x' st
  cases ha : x.cps.all (· < 128)
  · exact wpAny_pyIter_wide ha (fin "str_iterator" _ (fun i x' st => by obtain ⟨o, e, _⟩ := st; rw [e]; simp) (Walks.strWide hh _ x t) ⟨_, Heap.get?_push_size _ rfl, rfl, rfl⟩)
  · exact wpAny_pyIter_ascii ha (fin "str_ascii_iterator" _ (fun i x' st => by obtain ⟨o, e, _⟩ := st; rw [e]; simp) (Walks.strAscii hh _ x t) ⟨_, Heap.get?_push_size _ rfl, rfl, rfl⟩)
def crossN (row : List Int) : Nat → List Int
  | 0 => row
  | 1 => crossL row 1
  | 2 => crossL (crossL row 1) 2
  | 3 => crossL (crossL (crossL row 1) 2) 4
  | _ => crossL (crossL (crossL (crossL row 1) 2) 4) 8
theorem crossL_len (row : List Int) (wd : Int) : (crossL row wd).length = 16 := by simp [crossL]
theorem red_cross {l a : Addr} {row : List Int} {k : Nat} (g : G w h) (r : Rm A (k + 3)) (hl : At h l (intsP [1, 2, 4, 8])) (ha : At h a (intsP row)) (hlen : row.length = 16) :
    SE w A h (call (.ref 70) [.ref 120, .ref l, .ref a]) (Spec.Is h (.obj (intsP (crossN row 4)))) := by
  obtain ⟨o, e, vs, q, hi⟩ := hl
  have hvl : vs.length = 4 := ints_len hi
  have hnm : NotMark h (.ref a) := by
    obtain ⟨oa, ea, va, ⟨n, qa⟩, _⟩ := ha
    refine .inr ⟨a, oa, rfl, fun hz => ?_, ea, by rw [qa]⟩
    obtain ⟨o2, ho2, hc2⟩ : ∃ o2, (KK w).lookup 62 = some o2 ∧ o2.cls = .type "object" := ⟨_, by with_unfolding_all rfl, rfl⟩
    have := g.k _ _ ho2
    rw [hz, this] at ea
    cases ea
    rw [qa] at hc2
    simp at hc2
  have := reduce3_c (S := fun i => .obj (intsP (crossN row i))) (f := 120) (v0 := .ref a) g r (by with_unfolding_all rfl) ⟨o, e, q⟩ hnm ⟨a, rfl, ha⟩ (fun T q => by omega) ?_
  · rw [hvl] at this; exact this
  · intro A' i v x g' r' kg gg hx hA
    obtain ⟨n, hn, u, rfl⟩ := ints_get hi hx
    obtain ⟨b, rfl, hb⟩ := hA
    have hi4 : i < 4 := by
      have := List.getElem?_eq_some_iff.mp hn
      obtain ⟨q, _⟩ := this
      simpa using q
    match i, hi4 with
    | 0, _ => simp at hn; subst hn; exact cross_c gg r' hb hlen (by omega)
    | 1, _ => simp at hn; subst hn; exact cross_c gg r' hb (crossL_len _ _) (by omega)
    | 2, _ => simp at hn; subst hn; exact cross_c gg r' hb (crossL_len _ _) (by omega)
    | 3, _ => simp at hn; subst hn; exact cross_c gg r' hb (crossL_len _ _) (by omega)
theorem zip_two {l1 l2 : Addr} {ns ms : List Int} {Q : Value → Shared → Prop} (hh : A.handled = none) (h1 : At s.heap l1 (intsP ns)) (h2 : At s.heap l2 (intsP ms)) (hlen : ns.length = ms.length)
    (hQ : ∀ v h' tk', KP s.heap h' → ItT w A s.heap h' v ns.length (fun i v1 v2 => ∃ a b, ns[i]? = some a ∧ ms[i]? = some b ∧ IsI a v1 ∧ IsI b v2) → Q v { s with heap := h', toks := tk' }) :
    wpAny (MM w) A (call (.type "zip") [.ref l1, .ref l2]) Q E s := by
  obtain ⟨vs, hl1, hi1⟩ := h1.ints
  obtain ⟨us, hl2, hi2⟩ := h2.ints
  have b1 : l1 < s.heap.objs.size := by obtain ⟨o, e, _⟩ := hl1; exact Heap.lt_size e
  have b2 : l2 < s.heap.objs.size := by obtain ⟨o, e, _⟩ := hl2; exact Heap.lt_size e
  refine call_zip_2 hl1 hl2 fun h' hz hTI hTO hI1 hI2 hsz hk => hQ _ h' _ hk ?_
  intro s2 Q2 E2 k2 hQ2
  have hz2 : IsZip s2.heap (s.heap.objs.size + 4) (s.heap.objs.size + 2) (s.heap.objs.size + 3) .none := k2 _ _ hz
  refine wpAny_pyIter_zip hz2 ?_
  have ne : ∀ (a b : Nat), a ≠ b → (a : Addr) ≠ b := fun a b q => q
  have D : ZipApart (s.heap.objs.size + 4) (s.heap.objs.size + 2) (s.heap.objs.size + 3) s.heap.objs.size (s.heap.objs.size + 1) l1 l2 := by
    generalize s.heap.objs.size = n at *
    have c1 : ∀ k : Nat, (l1 : Nat) ≠ n + k := fun k => Nat.ne_of_lt (Nat.lt_of_lt_of_le b1 (Nat.le_add_right _ _))
    have c2 : ∀ k : Nat, (l2 : Nat) ≠ n + k := fun k => Nat.ne_of_lt (Nat.lt_of_lt_of_le b2 (Nat.le_add_right _ _))
    exact ⟨ne _ _ (by omega), ne _ _ (by omega), ne _ _ (by omega), ne _ _ (by omega), ne _ _ (by omega), ne _ _ (by omega), ne _ _ (by omega), ne _ _ (by omega), ne _ _ (by omega), ne _ _ (by omega),
      c1 4, c1 3, c1 0, c1 1, c2 4, c2 3, c2 0, c2 1⟩
  have W := WalksT.zip2 (prog := PR) (w := w) hh _ _ _ _ _ _ _ D vs.toArray us.toArray
  have hn : min vs.toArray.size us.toArray.size = ns.length := by
    have e1 := ints_len hi1
    have e2 := ints_len hi2
    simp only [List.size_toArray]; omega
  rw [hn] at W
  have up : ∀ {x : Addr} {o : Obj}, h'.get? x = some o → s2.heap.get? x = some o := fun e => k2 _ _ e
  refine hQ2 _ _ _ _ _ s2.heap s2.toks ⟨W.sub, W.frame, fun i s Q E hi st hq => W.item i s Q E hi st fun T vals h' tk hp a b c d => hq T vals h' tk ?_ a b c d, W.go, W.apart, W.done, W.self⟩ ⟨hz2, up hTI, ⟨_, _, up hTO⟩, hI1.at fun o e => up e, hI2.at fun o e => up e, hl1.at fun o e => up (hk _ _ e), hl2.at fun o e => up (hk _ _ e)⟩ KP.rfl ?_ ?_
  · obtain ⟨x, y, hx, hy, rfl⟩ := hp
    simp only [List.getElem?_toArray] at hx hy
    obtain ⟨a, ha, hxa⟩ := ints_get hi1 hx
    obtain ⟨b, hb, hyb⟩ := ints_get hi2 hy
    exact ⟨x, y, ⟨a, b, ha, hb, hxa, hyb⟩, rfl⟩
  · intro b hb
    simp only [List.mem_cons, List.not_mem_nil, or_false] at hb
    rcases hb with rfl | rfl | rfl | rfl | rfl | rfl | rfl
    · exact Heap.lt_size (up hz)
    · exact Heap.lt_size (up hTI)
    · exact Heap.lt_size (up hTO)
    · obtain ⟨o, e, _⟩ := hI1; exact Heap.lt_size (up e)
    · obtain ⟨o, e, _⟩ := hI2; exact Heap.lt_size (up e)
    · obtain ⟨o, e, _⟩ := hl1; exact Heap.lt_size (up (hk _ _ e))
    · obtain ⟨o, e, _⟩ := hl2; exact Heap.lt_size (up (hk _ _ e))
  · intro b hb
    cases e : s.heap.get? b with
    | none => rfl
    | some o =>
      have := Heap.lt_size e
      simp only [List.mem_cons, List.not_mem_nil, or_false] at hb
      rcases hb with rfl | rfl | rfl | rfl
      · exact absurd this (by simp)
      · exact absurd this (by simp)
      · exact absurd this (Nat.lt_irrefl _)
      · exact absurd this (by simp)
end Mine
end
section
open PySem PySem.W PyProof.Rows PySem.Calls
set_option maxRecDepth 100000
set_option linter.unusedVariables false
namespace Mine
variable {w : World} {A : Around} {env : Env} {h₀ h g : Heap} {s : Shared} {E : Value → Shared → Prop}
def rowsV (n0 : Int) : List Int := (List.range 4).map fun p => n0 / 16 ^ p % 16
def unitsV (b : Int) : List Int := [8 ^ b.toNat, 2 * 8 ^ b.toNat, 4 * 8 ^ b.toNat, 2 ^ (9 + b).toNat]
def firstV (b s0 s1 : Int) : Int := 4096 * s0 + (((List.range 4).filter fun p => Builtin.bitAnd (s1 / 2 ^ p) 1 != 0).map fun p => (unitsV b).getD p 0).sum
def masksV (n0 b : Int) : List Int := (List.range 4).map fun i => 4096 * (rowsV n0).getD i 0 + (unitsV b).getD i 0
def kindIx : List Nat := [12, 0, 1, 12, 2, 12, 3, 12, 13, 12, 4, 12, 5, 12, 12, 12]
def endsE (b : Int) (j : Nat) : Nat := if b != 0 then [13, 8, 9, 5].getD j 0 else [13, 8, 10, 11].getD j 0
def otherP (b : Int) (i : Nat) : Bool := ((i : Int) + 1 - 1) / 3 + b != 2
def othersV (P : Nat → Int) (b : Int) : Int := fold1 (· * ·) (((List.range 9).filter (otherP b)).map fun (i : Nat) => P 13 + ((i : Int) + 1))
def kindsV (P : Nat → Int) : List Int := crossN (kindIx.map P) 4
def rightsV (P : Nat → Int) (b : Int) : List Int := crossN (rightL P (endsE b) (7 - 3 * b)) 4
def agreeV (n0 b s0 s1 : Int) (P : Nat → Int) : Bool := 16 * paidF P (wordL (masksV n0 b) (firstV b s0 s1)) == acrossF (rowsV n0) s0 s1 (kindsV P) (rightsV P b) * othersV P b
theorem cross_bound {row : List Int} {wd B : Int} (hB : 0 ≤ B) (h : ∀ i, -B ≤ row.getD i 0 ∧ row.getD i 0 ≤ B) : ∀ i, -(2 * B) ≤ (crossL row wd).getD i 0 ∧ (crossL row wd).getD i 0 ≤ 2 * B := by
  intro i
  by_cases hi : i < 16
  · have e : (crossL row wd).getD i 0 = crossF row wd i := by unfold crossL; simp [List.getD, hi]
    rw [e]
    unfold crossF
    have a1 := h (i : Int).toNat
    have a2 := h ((i : Int) + wd).toNat
    have a3 := h ((i : Int) - wd).toNat
    split <;> omega
  · have e : (crossL row wd).getD i 0 = 0 := by unfold crossL; simp [List.getD, hi]
    rw [e]; omega
theorem kinds_bound {P : Nat → Int} (hP : ∀ i, i < 14 → 0 ≤ P i ∧ P i ≤ 11) : ∀ i, -(2 ^ 60) < (kindsV P).getD i 0 ∧ (kindsV P).getD i 0 < 2 ^ 60 := by
  intro i
  have h0 : ∀ i, -(11 : Int) ≤ (kindIx.map P).getD i 0 ∧ (kindIx.map P).getD i 0 ≤ 11 := by
    intro i
    by_cases hi : i < 16
    · have hx : kindIx.getD i 0 < 14 := by
        have : ∀ j, j < 16 → kindIx.getD j 0 < 14 := by decide
        exact this i hi
      have e : (kindIx.map P).getD i 0 = P (kindIx.getD i 0) := by
        have hl : i < kindIx.length := hi
        simp [List.getD, hl]
      rw [e]
      have := hP _ hx
      omega
    · have e : (kindIx.map P).getD i 0 = 0 := by
        have hl : ¬ i < kindIx.length := hi
        simp [List.getD, List.getElem?_eq_none (Nat.le_of_not_lt hl)]
      rw [e]; omega
  have h4 := cross_bound (wd := 8) (by decide) (cross_bound (wd := 4) (by decide) (cross_bound (wd := 2) (by decide) (cross_bound (wd := 1) (by decide) h0))) i
  have : kindsV P = crossL (crossL (crossL (crossL (kindIx.map P) 1) 2) 4) 8 := rfl
  rw [this]
  omega
theorem fold_bound : ∀ (l : List Int) (a : Int) (B : Nat), (∀ n ∈ l, 0 ≤ n ∧ n ≤ 20) → 0 ≤ a → a ≤ (B : Int) → 0 ≤ l.foldl (· * ·) a ∧ l.foldl (· * ·) a ≤ (B : Int) * 20 ^ l.length
  | [], a, B, _, h0, h1 => by simpa using ⟨h0, h1⟩
  | n :: r, a, B, h, h0, h1 => by
    have hn := h n (by simp)
    have m1 : 0 ≤ a * n := Int.mul_nonneg h0 hn.1
    have m2 : a * n ≤ ((B * 20 : Nat) : Int) := by
      have : a * n ≤ (B : Int) * 20 := Int.mul_le_mul h1 hn.2 hn.1 (by omega)
      push_cast; exact this
    have := fold_bound r (a * n) (B * 20) (fun x hx => h x (by simp [hx])) m1 m2
    simp only [List.foldl_cons, List.length_cons, Int.pow_succ]
    refine ⟨this.1, Int.le_trans this.2 ?_⟩
    push_cast
    rw [Int.mul_assoc, Int.mul_comm 20]
    exact Int.le_refl _
theorem others_bound {P : Nat → Int} (hP : ∀ i, i < 14 → 0 ≤ P i ∧ P i ≤ 11) (b : Int) : 0 ≤ othersV P b ∧ othersV P b < 2 ^ 62 := by
  have h13 := hP 13 (by decide)
  have hall : ∀ n ∈ ((List.range 9).filter (otherP b)).map (fun (i : Nat) => P 13 + ((i : Int) + 1)), 0 ≤ n ∧ n ≤ 20 := by
    intro n hn
    obtain ⟨i, hi, rfl⟩ := List.mem_map.mp hn
    have := List.mem_range.mp (List.mem_filter.mp hi).1
    omega
  have hlen : (((List.range 9).filter (otherP b)).map (fun (i : Nat) => P 13 + ((i : Int) + 1))).length ≤ 9 := by
    rw [List.length_map]; have := List.length_filter_le (otherP b) (List.range 9); simpa using this
  unfold othersV fold1
  generalize hL : ((List.range 9).filter (otherP b)).map (fun (i : Nat) => P 13 + ((i : Int) + 1)) = L at *
  have h0 : 0 ≤ L.getD 0 0 ∧ L.getD 0 0 ≤ 20 := by
    cases L with
    | nil => simp
    | cons a r => simpa using hall a (by simp)
  have := fold_bound (L.drop 1) (L.getD 0 0) 20 (fun n hn => hall n (List.mem_of_mem_drop hn)) h0.1 h0.2
  refine ⟨this.1, Int.lt_of_le_of_lt this.2 ?_⟩
  have hl : (L.drop 1).length ≤ 9 := by rw [List.length_drop]; omega
  have h20 : (20 : Int) ^ (L.drop 1).length ≤ 20 ^ 9 := by
    have : ∀ m, m ≤ 9 → (20 : Int) ^ m ≤ 20 ^ 9 := by decide
    exact this _ hl
  have : (20 : Int) * 20 ^ (L.drop 1).length ≤ 20 * 20 ^ 9 := Int.mul_le_mul_of_nonneg_left h20 (by decide)
  have e : (20 : Int) * 20 ^ 9 < 2 ^ 62 := by decide
  exact Int.lt_of_le_of_lt this e
theorem price_bound (n : Int) : ∀ i, i < 14 → 0 ≤ priceF n i ∧ priceF n i ≤ 11 := by
  intro i hi
  unfold priceF
  have h1 : ∀ j, j < 14 → 0 ≤ startsL.getD j 0 ∧ startsL.getD j 0 ≤ 9 := by decide
  have := h1 i hi
  have h3 : 0 ≤ n / 3 ^ i % 3 ∧ n / 3 ^ i % 3 < 3 := ⟨Int.emod_nonneg _ (by decide), Int.emod_lt_of_pos _ (by decide)⟩
  omega
end Mine
end
section
open PySem PySem.W PyProof.Rows PySem.Calls
set_option maxRecDepth 100000
set_option linter.unusedVariables false
set_option maxHeartbeats 1000000
namespace Mine
variable {w : World} {A : Around} {env : Env} {h₀ h g : Heap} {s : Shared} {E : Value → Shared → Prop}
theorem Hp.bring {p : Addr × OP} (l₁ l₂ : Own) (H : Hp h₀ h (l₁ ++ p :: l₂)) : Hp h₀ h (p :: (l₁ ++ l₂)) := H.perm List.perm_middle
theorem Hp.imp1 {a : Addr} {S S' : OP} {r : Own} (H : Hp h₀ h ((a, S) :: r)) (x : At h a S') : Hp h₀ h ((a, S') :: r) :=
  ⟨H.keep, fun p m => by
    rcases List.mem_cons.mp m with e | m
    · subst e; exact x
    · exact H.has p (.tail _ m), fun p m => by
    rcases List.mem_cons.mp m with e | m
    · subst e; exact H.new (a, S) (.head _)
    · exact H.new p (.tail _ m), by
    have := List.pairwise_cons.mp H.apart
    exact List.pairwise_cons.mpr ⟨this.1, this.2⟩⟩
theorem agree_c {k : Nat} {l : Addr} {n0 n1 n2 : Int} (g : G w h) (r : Rm A (k + 4)) (hl : At h l (intsP [n0, n1, n2])) :
    SE w A h (call (.ref 144) [.ref l]) (fun v _ => v = .bool (agreeV n0 (n1 % 3) (n1 / 3 % 16) (n1 / 48 % 16) (priceF n2))) := by
  refine enterC (binds := [(Str.ofString "numbers", .ref l)]) (by with_unfolding_all rfl) g r (by with_unfolding_all rfl) (fun s _ => BindsTo.of_eq rfl) ?_ (by rfl) (by decide)
  intro s h₀ L E k0 H r1
  have g0 : G w h₀ := g.kp k0
  have hl0 := hl.kp k0
  have hP := price_bound n2
  generalize hb : n1 % 3 = b
  have hb3 : 0 ≤ b ∧ b < 3 := by omega
  generalize hs0 : n1 / 3 % 16 = s0
  generalize hs1 : n1 / 48 % 16 = s1
  generalize hPe : priceF n2 = P at *
  have H0 : Hp h₀ s.heap [(L, nsP _), (L + 1 + 1 + 1 + 1 + 1, cellP none), (L + 1 + 1 + 1 + 1, cellP none), (L + 1 + 1 + 1, cellP none), (L + 1 + 1, cellP none), (L + 1, cellP (some (.ref l)))] := H
  have hnum0 : s.heap.IsCell (L + 1) (some (.ref l)) := H0.tail.tail.tail.tail.tail.here.cell
  -- rows
  refine wpAny_execs_cons (ex_assignComp (List.range 4) (fun (p : Nat) v => IsI (p : Int) v) (fun _ => true) (fun p => vi (n0 / 16 ^ p % 16)) H0 (by with_unfolding_all rfl) ?_ ?_ ?_ (by decide) ?_)
  · exact (se_range (n := 4) (g0.kp H0.keep) se_const).mono fun v g _ ⟨ra, e, q⟩ => e ▸ it_rangeL (n := 4) r1.hh (by decide) q
  · intro C m a v g' kg hn hm ha hv
    exact tests0
  · intro C m p v g' kg hn hm hp hv _
    obtain ⟨tp, rfl⟩ := hv
    have hp4 : p < 4 := by simpa using hp
    have h16 : (0 : Int) < 16 ^ p ∧ (16 : Int) ^ p < 1073741824 := by
      have : ∀ j, j < 4 → (0 : Int) < 16 ^ j ∧ (16 : Int) ^ j < 1073741824 := by decide
      exact this p hp4
    exact se_mod (se_div (b := 16 ^ p) (se_item (k := 0) (ns := [n0, n1, n2]) (se_cell (c := L + 1) (v := .ref l) rfl (hnum0.keeps kg)) se_const (hl0.kp (H0.keep.trans kg)) (by omega) (by simp) (by omega)) (se_pow (b := (p : Int)) se_const (se_int (se_local hn hm)) (by omega) (by omega) (by decide)) h16.1 h16.2) se_const (by decide)
  intro Rw ys h1 tk1 H1 hPr
  have hRw : At h1 Rw (intsP (rowsV n0)) := by
    obtain ⟨o, e, q⟩ := H1.tail.here
    refine ⟨o, e, ys, q, ?_⟩
    rw [List.filter_eq_self.mpr (by intros; rfl)] at hPr
    exact paired_ints' (f := fun p => n0 / 16 ^ p % 16) hPr
  have H1 := H1.swap.imp1 hRw
  -- block
  have H2 := H1.bring [_, _, _, _, _] _
  refine wpAny_execs_cons (ex_assignC (P := IsI b) H2 ?_ fun v2 h2 tk2 hv2 H2 => ?_)
  · rw [← hb]
    exact se_mod (se_item (k := 1) (ns := [n0, n1, n2]) (se_cell (c := L + 1) (v := .ref l) rfl (H2.has (L + 1, cellP (some (.ref l))) (by simp)).cell) se_const (hl0.kp H2.keep) (by omega) (by simp) (by omega)) se_const (by decide)
  obtain ⟨tb, rfl⟩ := hv2
  -- shift
  have H3 := H2.bring [_, _, _, _, _] _
  refine wpAny_execs_cons (ex_assignCN (S := intsP [s0, s1]) H3 (se_listI (ns := [s0, s1]) ?_ (by simp)) fun Sh h3 tk3 H3 => ?_)
  · have hn : ∀ {p : Pos}, (fun _ => True) p := fun {_} => trivial
    rw [← hs0, ← hs1]
    refine SEs.cons (se_mod (se_div (se_item (k := 1) (ns := [n0, n1, n2]) (se_cell (c := L + 1) (v := .ref l) rfl (H3.has (L + 1, cellP (some (.ref l))) (by simp)).cell) se_const (hl0.kp H3.keep) (by omega) (by simp) (by omega)) se_const (by decide) (by decide)) se_const (by decide)) rfl
      (SEs.cons (se_mod (se_div (se_item (k := 1) (ns := [n0, n1, n2]) (se_cell (c := L + 1) (v := .ref l) rfl (H3.has (L + 1, cellP (some (.ref l))) (by simp)).cell) se_const (hl0.kp H3.keep) (by omega) (by simp) (by omega)) se_const (by decide) (by decide)) se_const (by decide)) rfl SEs.nil)
  -- prices
  have H4 := H3.bring [_, _, _, _, _, _] _
  have g3 : G w h3 := g0.kp H4.keep
  refine wpAny_execs_cons (ex_assignCN (S := priceP w P) H4 ?_ fun Pr h4 tk4 H4 => ?_)
  · refine se_call1 g3 (se_global (v := .ref 103) g3 (by with_unfolding_all rfl)) (by with_unfolding_all rfl) (P1 := fun v _ => IsI n2 v) (se_item (k := 2) (ns := [n0, n1, n2]) (se_cell (c := L + 1) (v := .ref l) rfl (H4.has (L + 1, cellP (some (.ref l))) (by simp)).cell) se_const (hl0.kp H4.keep) (by omega) (by simp) (by omega)) (fun v g' kg q => ?_)
    obtain ⟨t, rfl⟩ := q
    rw [← hPe]
    exact (prices_c (g3.kp kg) r1).mono fun _ _ _ q => q.low kg
  -- units
  have H5 := H4.bring [_, _, _, _, _, _, _] _
  have hbl : At h4 (L + 1 + 1) (cellP (some (.int b tb))) := H5.has (L + 1 + 1, cellP (some (.int b tb))) (by simp)
  refine wpAny_execs_cons (ex_assignCN (S := intsP (unitsV b)) H5 (se_listI (ns := unitsV b) ?_ (by simp [unitsV])) fun Un h5 tk5 H5 => ?_)
  · unfold unitsV
    refine SEs.cons (se_pow se_const (se_int (se_cell (c := L + 1 + 1) (v := .int b tb) rfl hbl.cell)) (by omega) (by omega) (by decide)) rfl
      (SEs.cons (se_mul se_const (se_pow se_const (se_int (se_cell (c := L + 1 + 1) (v := .int b tb) rfl hbl.cell)) (by omega) (by omega) (by decide)) (IntMulOk.of_left (intBits_le_64 (by decide) (by decide)))) rfl
      (SEs.cons (se_mul se_const (se_pow se_const (se_int (se_cell (c := L + 1 + 1) (v := .int b tb) rfl hbl.cell)) (by omega) (by omega) (by decide)) (IntMulOk.of_left (intBits_le_64 (by decide) (by decide)))) rfl
      (SEs.cons (se_pow se_const (se_add se_const (se_int (se_cell (c := L + 1 + 1) (v := .int b tb) rfl hbl.cell))) (by omega) (by omega) (by decide)) rfl SEs.nil)))
  -- first
  have H6 := H5.bring [_, _, _, _, _, _, _, _] _
  have g5 : G w h5 := g0.kp H6.keep
  have cB : At h5 (L + 1 + 1) (cellP (some (.int b tb))) := H6.has (L + 1 + 1, cellP (some (.int b tb))) (by simp)
  have cS : At h5 (L + 1 + 1 + 1) (cellP (some (.ref Sh))) := H6.has (L + 1 + 1 + 1, cellP (some (.ref Sh))) (by simp)
  have cP : At h5 (L + 1 + 1 + 1 + 1) (cellP (some (.ref Pr))) := H6.has (L + 1 + 1 + 1 + 1, cellP (some (.ref Pr))) (by simp)
  have cU : At h5 (L + 1 + 1 + 1 + 1 + 1) (cellP (some (.ref Un))) := H6.has (L + 1 + 1 + 1 + 1 + 1, cellP (some (.ref Un))) (by simp)
  have aS : At h5 Sh (intsP [s0, s1]) := H6.has (Sh, intsP [s0, s1]) (by simp)
  have aU : At h5 Un (intsP (unitsV b)) := H6.has (Un, intsP (unitsV b)) (by simp)
  have aP : At h5 Pr (priceP w P) := H6.has (Pr, priceP w P) (by simp)
  have aR : At h5 Rw (intsP (rowsV n0)) := H6.has (Rw, intsP (rowsV n0)) (by simp)
  have hul : (unitsV b).length = 4 := rfl
  refine wpAny_execs_cons (ex_assign (P := IsI (firstV b s0 s1)) H6 (se_add (se_mul se_const (se_item (k := 0) (ns := [s0, s1]) (se_cell (c := L + 1 + 1 + 1) (v := .ref Sh) rfl cS.cell) se_const aS (by omega) (by simp) (by omega)) (IntMulOk.of_left (intBits_le_64 (by decide) (by decide))))
    (se_sum g5 r1.hh (se_compI (List.range 4) (fun (p : Nat) v => IsI (p : Int) v) (fun p => Builtin.bitAnd (s1 / 2 ^ p) 1 != 0) (fun p => (unitsV b).getD p 0) (by with_unfolding_all rfl) ?_ ?_ ?_ (by decide)))) fun v6 h6 tk6 hv6 H6 => ?_)
  · exact (se_range (n := 4) g5 se_const).mono fun v g _ ⟨ra, e, q⟩ => e ▸ it_rangeL (n := 4) r1.hh (by decide) q
  · intro C m' p v g' kg hn hm hp hv
    obtain ⟨tp, rfl⟩ := hv
    exact tests1 (st_int (n := Builtin.bitAnd (s1 / 2 ^ ((p : Int).toNat)) 1) (se_and (se_shr (se_item (k := 1) (ns := [s0, s1]) (se_cell (c := L + 1 + 1 + 1) (v := .ref Sh) rfl (cS.kp kg).cell) se_const (aS.kp kg) (by omega) (by simp) (by omega)) (se_int (se_local hn hm)) (by omega)) se_const))
  · intro C m' p v g' kg hn hm hp hv _
    obtain ⟨tp, rfl⟩ := hv
    have hp4 : p < 4 := by simpa using hp
    exact se_item (k := (p : Int)) (ns := unitsV b) (se_cell (c := L + 1 + 1 + 1 + 1 + 1) (v := .ref Un) rfl (cU.kp kg).cell) (se_int (se_local hn hm)) (aU.kp kg) (by omega) (by rw [hul]; omega) (by omega)
  obtain ⟨t6, rfl⟩ := hv6
  have g6 : G w h6 := g0.kp H6.keep
  have cP6 : At h6 (L + 1 + 1 + 1 + 1) (cellP (some (.ref Pr))) := H6.has (L + 1 + 1 + 1 + 1, cellP (some (.ref Pr))) (by simp)
  have cU6 : At h6 (L + 1 + 1 + 1 + 1 + 1) (cellP (some (.ref Un))) := H6.has (L + 1 + 1 + 1 + 1 + 1, cellP (some (.ref Un))) (by simp)
  have aU6 : At h6 Un (intsP (unitsV b)) := H6.has (Un, intsP (unitsV b)) (by simp)
  have aP6 : At h6 Pr (priceP w P) := H6.has (Pr, priceP w P) (by simp)
  have aR6 : At h6 Rw (intsP (rowsV n0)) := H6.has (Rw, intsP (rowsV n0)) (by simp)
  have hrl : (rowsV n0).length = 4 := by simp [rowsV]
  -- paid
  refine wpAny_execs_cons (ex_assign (P := IsI (paidF P (wordL (masksV n0 b) (firstV b s0 s1)))) H6 (se_call2 (P2 := Spec.Is h6 (.obj (intsP (wordL (masksV n0 b) (firstV b s0 s1))))) g6 (se_global (v := .ref 113) g6 (by with_unfolding_all rfl)) (by with_unfolding_all rfl)
    (se_cell (c := L + 1 + 1 + 1 + 1) (v := .ref Pr) rfl cP6.cell) (fun v1 g1 k1 p1 => SE.kp (se_call2 (P1 := Spec.Is h6 (.obj (intsP (masksV n0 b)))) (P2 := fun u _ => u = .int (firstV b s0 s1) t6) g6 (se_global (v := .ref 108) g6 (by with_unfolding_all rfl)) (by with_unfolding_all rfl) ?_
      (fun v1 g1 k1 p1 => SE.kp (se_local (v := .int (firstV b s0 s1) t6) H6.here.ns rfl) k1) (fun v1 v2 g1 g2 k1 p1 k2 p2 => ?_)) k1) (fun v1 v2 g1 g2 k1 p1 k2 p2 => ?_)) fun v7 h7 tk7 hv7 H7 => ?_)
  · refine se_compP (n := 4) (Pt := fun i v1 v2 => ∃ a b', (rowsV n0)[i]? = some a ∧ (unitsV b)[i]? = some b' ∧ IsI a v1 ∧ IsI b' v2) (fun i => 4096 * (rowsV n0).getD i 0 + (unitsV b).getD i 0) (by with_unfolding_all rfl) ?_ r1.hh ?_ (by decide)
    · intro s2 Q2 E2 k2 hQ2
      have gg : G w s2.heap := g6.kp k2
      refine Call_Name2 ((se_builtin (v := .type "zip") gg (by with_unfolding_all rfl) (by decide +kernel) (by decide)).go fun v3 h3' tk3' k3' p3' => ?_)
      subst p3'
      refine PyProof.Rows.callWith_type rfl (evalArgs_plain (spliced_cons (SE.go (se_local (v := .ref Rw) (H6.here.ns.keeps (k2.trans k3')) rfl) fun v4 h4' tk4' k4' p4' => ?_)))
      subst p4'
      refine spliced_cons (SE.go (se_cell (c := L + 1 + 1 + 1 + 1 + 1) (v := .ref Un) rfl (cU6.kp (k2.trans (k3'.trans k4'))).cell) fun v5 h5' tk5' k5' p5' => spliced_nil ?_)
      subst p5'
      have kk := k3'.trans (k4'.trans k5')
      refine zip_two r1.hh (aR6.kp (k2.trans kk)) (aU6.kp (k2.trans kk)) (by rw [hrl]; rfl) fun v9 h9 tk9 k9 hIt => hQ2 v9 h9 tk9 (kk.trans k9) ?_
      rw [hrl] at hIt
      exact fun s6 Q6 E6 k6 hQ6 => hIt s6 Q6 E6 k6 fun I fp wr St Mid h' tk W hst kk' hfp hwr => hQ6 I fp wr St Mid h' tk W hst kk' hfp fun b hb => none_kp kk (hwr b hb)
    · intro C2 m2 i v1 v2 g2 kg2 hn2 hm1 hm2 hi hPt
      obtain ⟨a, b', ha, hb', ⟨t1, rfl⟩, t2, rfl⟩ := hPt
      have ea : (rowsV n0).getD i 0 = a := by simp [List.getD, ha]
      have eb : (unitsV b).getD i 0 = b' := by simp [List.getD, hb']
      rw [ea, eb]
      exact se_add (se_mul se_const (se_int (se_local (v := .int a t1) hn2 hm1)) (IntMulOk.of_left (intBits_le_64 (by decide) (by decide)))) (se_int (se_local (v := .int b' t2) hn2 hm2))
  · obtain ⟨c, rfl, _, hc⟩ := p1
    subst p2
    exact (words_c (g6.kp (k1.trans k2)) r1 (hc.kp k2) (by simp [masksV])).mono fun _ _ _ q => q.low (k1.trans k2)
  · subst p1
    obtain ⟨c, rfl, _, hc⟩ := p2
    exact paid_c (g6.kp (k1.trans k2)) r1 (aP6.kp (k1.trans k2)) hP hc (by simp [wordL]) (by simp [wordL])
  obtain ⟨t7, rfl⟩ := hv7
  have g7 : G w h7 := g0.kp H7.keep
  have cP7 : At h7 (L + 1 + 1 + 1 + 1) (cellP (some (.ref Pr))) := H7.has (L + 1 + 1 + 1 + 1, cellP (some (.ref Pr))) (by simp)
  have aP7 : At h7 Pr (priceP w P) := H7.has (Pr, priceP w P) (by simp)
  have cB7 : At h7 (L + 1 + 1) (cellP (some (.int b tb))) := H7.has (L + 1 + 1, cellP (some (.int b tb))) (by simp)
  -- kinds
  refine wpAny_execs_cons (ex_assignN (S := intsP (kindsV P)) H7 (se_call3 (P2 := Spec.Is h7 (.obj (intsP [1, 2, 4, 8]))) (P3 := Spec.Is h7 (.obj (intsP (kindIx.map P)))) g7 (se_global (v := .ref 70) g7 (by with_unfolding_all rfl)) (by with_unfolding_all rfl) (se_global (v := .ref 120) g7 (by with_unfolding_all rfl))
    (fun v1 g1 k1 p1 => SE.kp (se_listI (ns := [1, 2, 4, 8]) (ses_c (ses_c (ses_c (ses_c SEs.nil)))) (by decide)) k1) (fun v1 v2 g1 g2 k1 p1 k2 p2 => SE.kp (SE.mono (P := Spec.Is h7 (.obj (intsP ((kindIx.filter fun _ => true).map P)))) (se_compI kindIx (fun (a : Nat) v => IsS (sg a) v) (fun _ => true) P (by with_unfolding_all rfl) ?_ ?_ ?_ (by decide)) ?_) (k1.trans k2)) (fun v1 v2 v3 g1 g2 g3 k1 p1 k2 p2 k3 p3 => ?_)) fun Kd h8 tk8 H8 => ?_)
  · refine SE.mono (se_str (x := Str.ofString "?pc?d?b?-?l?s???")) fun v g' kg q => ?_
    obtain ⟨tv, rfl⟩ := q
    intro s6 Q6 E6 k6 hQ6
    refine it_str r1.hh s6 Q6 E6 k6 fun I fp wr St h' tk W hst kk hfp hwr hex => ?_
    have e16 : (Str.ofString "?pc?d?b?-?l?s???").cps.size = kindIx.length := by decide
    rw [e16] at W
    refine hQ6 I fp wr St h' tk ⟨W.sub, W.frame, fun i s Q E hlt st hq => W.item i s Q E hlt st fun v h' tk p => hq v h' tk ?_, W.done, W.self⟩ hst kk hfp hwr hex
    obtain ⟨c, hc, u, rfl⟩ := p
    have hlt' : i < 16 := hlt
    have : ∀ j, j < 16 → (Str.ofString "?pc?d?b?-?l?s???").cps[j]? = some (lettersS.cps.getD (kindIx.getD j 0) 0) ∧ kindIx[j]? = some (kindIx.getD j 0) := by decide
    obtain ⟨e1, e2⟩ := this i hlt'
    rw [e1] at hc
    cases hc
    exact ⟨_, e2, u, rfl⟩
  · intro C m a v g' kg hn hm ha hv
    exact tests0
  · intro C m a v g' kg hn hm ha hv _
    have ha14 : a < 14 := by
      have : ∀ x ∈ kindIx, x < 14 := by decide
      exact this a ha
    obtain ⟨tv, rfl⟩ := hv
    exact se_price (i := a) (se_cell (c := L + 1 + 1 + 1 + 1) (v := .ref Pr) rfl (cP7.kp kg).cell) ((se_local (v := .str (sg a) tv) hn hm).mono fun _ _ _ q => ⟨tv, q⟩) (aP7.kp kg) ha14
  · intro v g' _ q
    rw [List.filter_eq_self.mpr (by intros; rfl)] at q
    exact q
  · subst p1
    obtain ⟨c2, rfl, _, hc2⟩ := p2
    obtain ⟨c3, rfl, _, hc3⟩ := p3
    exact (red_cross (g7.kp (k1.trans (k2.trans k3))) r1 (hc2.kp k3) hc3 (by simp [kindIx])).mono fun _ _ _ q => q.low (k1.trans (k2.trans k3))
  have g8 : G w h8 := g0.kp H8.keep
  have cP8 : At h8 (L + 1 + 1 + 1 + 1) (cellP (some (.ref Pr))) := H8.has (L + 1 + 1 + 1 + 1, cellP (some (.ref Pr))) (by simp)
  have aP8 : At h8 Pr (priceP w P) := H8.has (Pr, priceP w P) (by simp)
  have cB8 : At h8 (L + 1 + 1) (cellP (some (.int b tb))) := H8.has (L + 1 + 1, cellP (some (.int b tb))) (by simp)
  -- rights
  refine wpAny_execs_cons (ex_assignN (S := intsP (rightsV P b)) H8 (se_call3 (P2 := Spec.Is h8 (.obj (intsP [1, 2, 4, 8]))) (P3 := Spec.Is h8 (.obj (intsP (rightL P (endsE b) (7 - 3 * b))))) g8 (se_global (v := .ref 70) g8 (by with_unfolding_all rfl)) (by with_unfolding_all rfl) (se_global (v := .ref 120) g8 (by with_unfolding_all rfl))
    (fun v1 g1 k1 p1 => SE.kp (se_listI (ns := [1, 2, 4, 8]) (ses_c (ses_c (ses_c (ses_c SEs.nil)))) (by decide)) k1)
    (fun v1 v2 g1 g2 k1 p1 k2 p2 => SE.kp (se_call3 (P1 := fun u _ => u = .ref Pr) (P2 := fun v _ => IsS (if b != 0 then Str.ofString "-xSs" else Str.ofString "-xTt") v) (P3 := fun v _ => IsI (7 - 3 * b) v) g8 (se_global (v := .ref 127) g8 (by with_unfolding_all rfl)) (by with_unfolding_all rfl) (se_cell (c := L + 1 + 1 + 1 + 1) (v := .ref Pr) rfl cP8.cell)
      (fun v1 g1 k1 p1 => SE.kp ?_ k1) (fun v1 v2 g1 g2 k1 p1 k2 p2 => SE.kp (se_sub se_const (se_mul se_const (se_int (se_cell (c := L + 1 + 1) (v := .int b tb) rfl cB8.cell)) (IntMulOk.of_left (intBits_le_64 (by decide) (by decide))))) (k1.trans k2))
      (fun v1 v2 v3 g1 g2 g3 k1 p1 k2 p2 k3 p3 => ?_)) (k1.trans k2)) (fun v1 v2 v3 g1 g2 g3 k1 p1 k2 p2 k3 p3 => ?_)) fun Rg h9 tk9 H9 => ?_)
  · intro s2 Q2 E2 k2 hQ2
    refine wpAny_IfExp (SE.go (st_int (se_int (se_cell (c := L + 1 + 1) (v := .int b tb) rfl (cB8.kp k2).cell))) fun c h3' tk3' k3' p3' => ?_)
    subst p3'
    by_cases hz : (b != 0) = true
    · rw [if_pos hz]
      refine SE.go (se_str (x := Str.ofString "-xSs")) fun v4 h4' tk4' k4' p4' => hQ2 v4 h4' tk4' (k3'.trans k4') ?_
      rw [if_pos hz]; exact p4'
    · rw [if_neg hz]
      refine SE.go (se_str (x := Str.ofString "-xTt")) fun v4 h4' tk4' k4' p4' => hQ2 v4 h4' tk4' (k3'.trans k4') ?_
      rw [if_neg hz]; exact p4'
  · subst p1
    obtain ⟨te, rfl⟩ := p2
    obtain ⟨tl, rfl⟩ := p3
    refine (rights_c (e := endsE b) (g8.kp (k1.trans (k2.trans k3))) r1 (aP8.kp (k1.trans (k2.trans k3))) hP (by omega) ?_ ?_).mono fun _ _ _ q => q.low (k1.trans (k2.trans k3))
    · split <;> decide
    · intro j hj
      unfold endsE
      by_cases hz : (b != 0) = true
      · rw [if_pos hz, if_pos hz]
        have : ∀ j, j < 4 → [13, 8, 9, 5].getD j 0 < 14 ∧ (Str.ofString "-xSs").cps[j]? = some (lettersS.cps.getD ([13, 8, 9, 5].getD j 0) 0) := by decide
        exact this j hj
      · rw [if_neg hz, if_neg hz]
        have : ∀ j, j < 4 → [13, 8, 10, 11].getD j 0 < 14 ∧ (Str.ofString "-xTt").cps[j]? = some (lettersS.cps.getD ([13, 8, 10, 11].getD j 0) 0) := by decide
        exact this j hj
  · subst p1
    obtain ⟨c2, rfl, _, hc2⟩ := p2
    obtain ⟨c3, rfl, _, hc3⟩ := p3
    exact (red_cross (g8.kp (k1.trans (k2.trans k3))) r1 (hc2.kp k3) hc3 (by simp [rightL])).mono fun _ _ _ q => q.low (k1.trans (k2.trans k3))
  have g9 : G w h9 := g0.kp H9.keep
  have cP9 : At h9 (L + 1 + 1 + 1 + 1) (cellP (some (.ref Pr))) := H9.has (L + 1 + 1 + 1 + 1, cellP (some (.ref Pr))) (by simp)
  have aP9 : At h9 Pr (priceP w P) := H9.has (Pr, priceP w P) (by simp)
  have cB9 : At h9 (L + 1 + 1) (cellP (some (.int b tb))) := H9.has (L + 1 + 1, cellP (some (.int b tb))) (by simp)
  have h13 := hP 13 (by decide)
  -- others
  refine wpAny_execs_cons (ex_assign (P := IsI (othersV P b)) H9 (se_call2 (P2 := Spec.Is h9 (.obj (intsP (((List.range 9).filter (otherP b)).map fun (i : Nat) => P 13 + ((i : Int) + 1))))) g9 (se_global (v := .ref 70) g9 (by with_unfolding_all rfl)) (by with_unfolding_all rfl) (se_global (v := .ref 84) g9 (by with_unfolding_all rfl))
    (fun v1 g1 k1 p1 => SE.kp (se_compI (List.range 9) (fun (p : Nat) v => IsI ((p : Int) + 1) v) (otherP b) (fun (i : Nat) => P 13 + ((i : Int) + 1)) (by with_unfolding_all rfl) ?_ ?_ ?_ (by decide)) k1) (fun v1 v2 g1 g2 k1 p1 k2 p2 => ?_)) fun v10 h10 tk10 hv10 H10 => ?_)
  · refine (se_range2 (a := 1) (b := 10) g9 se_const se_const).mono fun v g' kg q => ?_
    obtain ⟨ra, rfl, hra⟩ := q
    intro s6 Q6 E6 k6 hQ6
    refine it_range r1.hh (by decide) (by decide) (by decide) (by decide) hra s6 Q6 E6 k6 fun I fp wr St h' tk W hst kk hfp hwr hex => ?_
    have e9 : ((10 : Int) - 1).toNat = (List.range 9).length := by decide
    rw [e9] at W
    refine hQ6 I fp wr St h' tk ⟨W.sub, W.frame, fun i s Q E hlt st hq => W.item i s Q E hlt st fun v h' tk p => hq v h' tk ⟨i, by simp at hlt; simp [hlt], ?_⟩, W.done, W.self⟩ hst kk hfp hwr hex
    obtain ⟨u, rfl⟩ := p
    exact ⟨u, by rw [Int.add_comm]⟩
  · intro C m a v g' kg hn hm ha hv
    obtain ⟨tv, rfl⟩ := hv
    exact tests1 (st_ne (se_add (se_div (se_sub (se_int (se_local (v := .int ((a : Int) + 1) tv) hn hm)) se_const) se_const (by decide) (by decide)) (se_int (se_cell (c := L + 1 + 1) (v := .int b tb) rfl (cB9.kp kg).cell))) se_const)
  · intro C m a v g' kg hn hm ha hv _
    obtain ⟨tv, rfl⟩ := hv
    exact se_add (se_price (i := 13) (se_cell (c := L + 1 + 1 + 1 + 1) (v := .ref Pr) rfl (cP9.kp kg).cell) (se_str.mono fun v _ _ q => by
      have : sg 13 = Str.ofString "-" := by decide
      rw [this]; exact q) (aP9.kp kg) (by decide)) (se_int (se_local (v := .int ((a : Int) + 1) tv) hn hm))
  · subst p1
    obtain ⟨c2, rfl, _, hc2⟩ := p2
    refine red_mul (g9.kp (k1.trans k2)) r1 hc2 ?_ ?_
    · have : ∀ x : Int, x = 0 ∨ x = 1 ∨ x = 2 → (List.range 9).filter (otherP x) ≠ [] := by rintro x (rfl | rfl | rfl) <;> decide
      have hne := this b (by omega)
      simpa using hne
    · intro n hn
      obtain ⟨i, hi, rfl⟩ := List.mem_map.mp hn
      have := List.mem_range.mp (List.mem_filter.mp hi).1
      omega
  obtain ⟨t10, rfl⟩ := hv10
  have g10 : G w h10 := g0.kp H10.keep
  have cS10 : At h10 (L + 1 + 1 + 1) (cellP (some (.ref Sh))) := H10.has (L + 1 + 1 + 1, cellP (some (.ref Sh))) (by simp)
  have aS10 : At h10 Sh (intsP [s0, s1]) := H10.has (Sh, intsP [s0, s1]) (by simp)
  have aR10 : At h10 Rw (intsP (rowsV n0)) := H10.has (Rw, intsP (rowsV n0)) (by simp)
  have aK10 : At h10 Kd (intsP (kindsV P)) := H10.has (Kd, intsP (kindsV P)) (by simp)
  have aG10 : At h10 Rg (intsP (rightsV P b)) := H10.has (Rg, intsP (rightsV P b)) (by simp)
  have hob := others_bound hP b
  refine wpAny_execs_cons (wpAny_Return_some (wpAny_Compare1 (SE.go (se_mul (a := 16) (b := paidF P (wordL (masksV n0 b) (firstV b s0 s1))) se_const (se_int (se_local (v := .int _ t7) H10.here.ns rfl)) (IntMulOk.of_left (intBits_le_64 (by decide) (by decide)))) fun v11 h11 tk11 k11 p11 => ?_)))
  obtain ⟨t11, rfl⟩ := p11
  refine SE.go (SE.kp (se_mul (a := acrossF (rowsV n0) s0 s1 (kindsV P) (rightsV P b)) (b := othersV P b) (se_call4 (P := fun v _ => IsI (acrossF (rowsV n0) s0 s1 (kindsV P) (rightsV P b)) v) g10 (se_global (v := .ref 139) g10 (by with_unfolding_all rfl)) (by with_unfolding_all rfl) (se_local (v := .ref Rw) H10.here.ns rfl) (se_cell (c := L + 1 + 1 + 1) (v := .ref Sh) rfl cS10.cell) (se_local (v := .ref Kd) H10.here.ns rfl) (se_local (v := .ref Rg) H10.here.ns rfl)
    (fun v1 v2 v3 v4 g1 g2 g3 g4 k1 p1 k2 p2 k3 p3 k4 p4 => ?_)) (se_int (se_local (v := .int _ t10) H10.here.ns rfl)) (IntMulOk.of_right (intBits_le_64 (by omega) (by omega)))) k11) fun v12 h12 tk12 k12 p12 => ?_
  · subst p1 p2 p3 p4
    have kk := k1.trans (k2.trans (k3.trans k4))
    exact across_c (g10.kp kk) r1 (aR10.kp kk) hrl (aS10.kp kk) (aK10.kp kk) (crossL_len _ _) (fun i _ => kinds_bound hP i) (aG10.kp kk) (crossL_len _ _)
  · obtain ⟨t12, rfl⟩ := p12
    exact PyProof.Rows.eq_int ⟨_, h12, _, rfl, rfl, H10.keep.trans (k11.trans k12), rfl⟩
end Mine
end
section
open PySem PySem.W PyProof.Rows PySem.Calls
set_option maxRecDepth 100000
set_option linter.unusedVariables false
namespace Mine
variable {w : World}
theorem law_body {s : Shared} {h₀ : Heap} {L a fa : Addr} {cd : Value} {vs : List Value} {ns : List Int} {p1 p2 p3 p4 p5 p6 : Pos} {E : Value → Shared → Prop}
    (math : ∀ n0 b s0 s1 n2 : Int, 0 ≤ b → b < 3 → 0 ≤ s0 → s0 < 16 → 0 ≤ s1 → s1 < 16 → agreeV n0 b s0 s1 (priceF n2) = true)
    (g : G w h₀) (F : Fr h₀ L s.heap (fun x => List.lookup x [(Str.ofString "script", Value.ref a)].reverse)) (hL : h₀.IsList a vs.toArray) (hI : IntsAre vs ns) (hlen : ns.length ≤ 63) :
    wpAny (MM w) (callerA.deeper (envOf (Str.ofString "law") { kind := ScopeKind.function, names := [(Str.ofString "script", NameKind.local), (Str.ofString "_law_agree", NameKind.globalImplicit), (Str.ofString "_law_three", NameKind.globalImplicit)], isGenerator := false, isCoroutine := false } L fa cd))
      (execs [.Return (some (.Call (.Name (Str.ofString "_law_agree") p1) [.Call (.Name (Str.ofString "_law_three") p2) [.Name (Str.ofString "script") p3] [] p4] [] p5)) p6] (envOf (Str.ofString "law") { kind := ScopeKind.function, names := [(Str.ofString "script", NameKind.local), (Str.ofString "_law_agree", NameKind.globalImplicit), (Str.ofString "_law_three", NameKind.globalImplicit)], isGenerator := false, isCoroutine := false } L fa cd))
      (fun fl s' => ∃ h' tk, fl = .ret (.bool true) ∧ s' = { s with heap := h', toks := tk } ∧ KP h₀ h') E s := by
  have gs : G w s.heap := g.kp F.keep
  have rm : Rm (callerA.deeper (envOf (Str.ofString "law") { kind := ScopeKind.function, names := [(Str.ofString "script", NameKind.local), (Str.ofString "_law_agree", NameKind.globalImplicit), (Str.ofString "_law_three", NameKind.globalImplicit)], isGenerator := false, isCoroutine := false } L fa cd)) 10 :=
    ⟨rfl, (by show 1 + 300 + 1 + 10 < 1000; decide), (by show 4 + 3 + 20 * 10 + 50 < 9900; decide)⟩
  refine wpAny_execs_cons (wpAny_Return_some (SE.go (se_call1 (P := fun v _ => v = .bool true) gs (se_global (v := .ref 144) gs (by with_unfolding_all rfl)) (by with_unfolding_all rfl)
    (se_call1 (P := Spec.Is s.heap (.obj fun o => ∃ a b c : Int, intsP [a, b, c] o)) gs (se_global (v := .ref 149) gs (by with_unfolding_all rfl)) (by with_unfolding_all rfl) (se_local (v := .ref a) F.ns rfl) (fun v g' kg q => ?_)) (fun v g' kg q => ?_)) fun v h' tk kk p => ⟨h', tk, by rw [p], rfl, fun b o e => kk b o (F.keep b o e)⟩))
  · subst q
    exact (three_c (gs.kp kg) rm (hL.at fun o e => kg _ _ (F.keep _ _ e)) hI (by rw [ints_len hI]; omega)).mono fun _ _ _ q => q.low kg
  · obtain ⟨l, rfl, _, o, e, n0, n1, n2, hints⟩ := q
    refine (agree_c (gs.kp kg) rm (n0 := n0) (n1 := n1) (n2 := n2) ⟨o, e, hints⟩).mono fun v _ _ q => ?_
    rw [q, math n0 (n1 % 3) (n1 / 3 % 16) (n1 / 48 % 16) n2 (by omega) (by omega) (by omega) (by omega) (by omega) (by omega)]
end Mine
end
section
open PySem PySem.W PyProof.Rows PySem.Calls
set_option maxRecDepth 100000
set_option linter.unusedVariables false
namespace Mine
/-- the sign of two numbers below 16: minus one where they have an odd number of bits in common -/
def chi (a b : Nat) : Int := if oddF (Builtin.bitAnd (a : Int) (b : Int)) = 0 then 1 else -1
def S16 (f : Nat → Int) : Int := ((List.range 16).map f).sum
theorem S16_eq (f : Nat → Int) : S16 f = f 0 + f 1 + f 2 + f 3 + f 4 + f 5 + f 6 + f 7 + f 8 + f 9 + f 10 + f 11 + f 12 + f 13 + f 14 + f 15 := by
  unfold S16
  have e : List.range 16 = [0, 1, 2, 3, 4, 5, 6, 7, 8, 9, 10, 11, 12, 13, 14, 15] := rfl
  rw [e]
  simp only [List.map_cons, List.map_nil, List.sum_cons, List.sum_nil]
  omega
theorem chi_xor : ∀ k, k < 16 → ∀ x, x < 16 → ∀ y, y < 16 → chi k (x ^^^ y) = chi k x * chi k y := by decide +kernel
theorem chi_sum : ∀ d, d < 16 → S16 (fun k => chi k d) = if d = 0 then 16 else 0 := by decide +kernel
theorem chi_pm (a b : Nat) : chi a b = 1 ∨ chi a b = -1 := by unfold chi; split <;> simp
theorem xor_lt : ∀ x, x < 16 → ∀ y, y < 16 → x ^^^ y < 16 := by decide +kernel
theorem xor_xor : ∀ x, x < 16 → ∀ y, y < 16 → (x ^^^ y) ^^^ y = x := by decide +kernel
theorem S16_congr {f g : Nat → Int} (h : ∀ i, i < 16 → f i = g i) : S16 f = S16 g := by
  rw [S16_eq, S16_eq, h 0 (by decide), h 1 (by decide), h 2 (by decide), h 3 (by decide), h 4 (by decide), h 5 (by decide), h 6 (by decide), h 7 (by decide), h 8 (by decide), h 9 (by decide), h 10 (by decide), h 11 (by decide), h 12 (by decide), h 13 (by decide), h 14 (by decide), h 15 (by decide)]
theorem S16_mul (c : Int) (f : Nat → Int) : S16 (fun i => c * f i) = c * S16 f := by
  rw [S16_eq, S16_eq]; simp only [Int.mul_add]
theorem S16_add (f g : Nat → Int) : S16 (fun i => f i + g i) = S16 f + S16 g := by
  rw [S16_eq, S16_eq, S16_eq]; omega
theorem S16_swap (f : Nat → Nat → Int) : S16 (fun i => S16 (fun j => f i j)) = S16 (fun j => S16 (fun i => f i j)) := by
  rw [S16_eq]
  have e : (fun j => S16 (fun i => f i j)) = fun j => f 0 j + f 1 j + f 2 j + f 3 j + f 4 j + f 5 j + f 6 j + f 7 j + f 8 j + f 9 j + f 10 j + f 11 j + f 12 j + f 13 j + f 14 j + f 15 j := by
    funext j; exact S16_eq _
  rw [e]
  simp only [S16_add]
theorem S16_shift (f : Nat → Int) : ∀ d, d < 16 → S16 (fun i => f (i ^^^ d)) = S16 f := by
  intro d hd
  rw [S16_eq, S16_eq]
  match d, hd with
  | 0, _ => simp
  | 1, _ => simp; omega
  | 2, _ => simp; omega
  | 3, _ => simp; omega
  | 4, _ => simp; omega
  | 5, _ => simp; omega
  | 6, _ => simp; omega
  | 7, _ => simp; omega
  | 8, _ => simp; omega
  | 9, _ => simp; omega
  | 10, _ => simp; omega
  | 11, _ => simp; omega
  | 12, _ => simp; omega
  | 13, _ => simp; omega
  | 14, _ => simp; omega
  | 15, _ => simp; omega
  | n + 16, q => omega
/-- one value is picked -/
theorem S16_pick (f : Nat → Int) : ∀ d, d < 16 → S16 (fun x => f x * (if x ^^^ d = 0 then 16 else 0)) = 16 * f d := by
  intro d hd
  rw [S16_eq]
  match d, hd with
  | 0, _ => simp; omega
  | 1, _ => simp; omega
  | 2, _ => simp; omega
  | 3, _ => simp; omega
  | 4, _ => simp; omega
  | 5, _ => simp; omega
  | 6, _ => simp; omega
  | 7, _ => simp; omega
  | 8, _ => simp; omega
  | 9, _ => simp; omega
  | 10, _ => simp; omega
  | 11, _ => simp; omega
  | 12, _ => simp; omega
  | 13, _ => simp; omega
  | 14, _ => simp; omega
  | 15, _ => simp; omega
  | n + 16, q => omega
/-- the poisson sum, with any bilinear choice -/
theorem poisson (K Gf : Nat → Int) (c : Nat → Nat) (R : Nat → Nat) (s0 s1 : Nat) (h0 : s0 < 16) (h1 : s1 < 16) (hR : ∀ z, z < 16 → R z < 16) (hc : ∀ k, k < 16 → c k < 16)
    (hcR : ∀ k, k < 16 → ∀ z, z < 16 → chi (c k) z = chi k (R z)) :
    S16 (fun k => chi k s0 * chi (c k) s1 * (S16 (fun x => chi k x * K x) * S16 (fun y => chi (c k) y * Gf y))) = 16 * S16 (fun i => K (s0 ^^^ R i) * Gf (s1 ^^^ i)) := by
  have e1 : ∀ k, k < 16 → chi k s0 * chi (c k) s1 * (S16 (fun x => chi k x * K x) * S16 (fun y => chi (c k) y * Gf y)) = S16 (fun y => S16 (fun x => Gf y * (K x * chi k (x ^^^ (s0 ^^^ R (y ^^^ s1)))))) := by
    intro k hk
    have a1 : ∀ y, y < 16 → S16 (fun x => Gf y * (K x * chi k (x ^^^ (s0 ^^^ R (y ^^^ s1))))) = (chi k s0 * chi (c k) s1 * S16 (fun x => chi k x * K x)) * (chi (c k) y * Gf y) := by
      intro y hy
      have a2 : ∀ x, x < 16 → Gf y * (K x * chi k (x ^^^ (s0 ^^^ R (y ^^^ s1)))) = (chi k s0 * chi (c k) s1 * (chi (c k) y * Gf y)) * (chi k x * K x) := by
        intro x hx
        rw [chi_xor k hk x hx _ (xor_lt _ h0 _ (hR _ (xor_lt _ hy _ h1))), chi_xor k hk _ h0 _ (hR _ (xor_lt _ hy _ h1)), ← hcR k hk _ (xor_lt _ hy _ h1), chi_xor _ (hc k hk) _ hy _ h1]
        ac_rfl
      rw [S16_congr a2, S16_mul]
      ac_rfl
    rw [S16_congr a1, S16_mul]
    ac_rfl
  rw [S16_congr e1, S16_swap]
  have e2 : ∀ y, y < 16 → S16 (fun k => S16 (fun x => Gf y * (K x * chi k (x ^^^ (s0 ^^^ R (y ^^^ s1)))))) = 16 * (K (s0 ^^^ R (y ^^^ s1)) * Gf ((y ^^^ s1) ^^^ s1)) := by
    intro y hy
    have hd := xor_lt _ h0 _ (hR _ (xor_lt _ hy _ h1))
    rw [S16_swap]
    have b1 : ∀ x, x < 16 → S16 (fun k => Gf y * (K x * chi k (x ^^^ (s0 ^^^ R (y ^^^ s1))))) = (fun x => Gf y * K x) x * (if x ^^^ (s0 ^^^ R (y ^^^ s1)) = 0 then 16 else 0) := by
      intro x hx
      rw [← chi_sum _ (xor_lt _ hx _ hd), ← S16_mul]
      exact S16_congr fun k _ => by simp only []; ac_rfl
    rw [S16_congr b1, S16_pick (fun x => Gf y * K x) _ hd, xor_xor _ hy _ h1]
    ac_rfl
  rw [S16_congr e2, S16_shift (fun z => 16 * (K (s0 ^^^ R z) * Gf (z ^^^ s1))) s1 h1, S16_mul]
  congr 1
  exact S16_congr fun i _ => by rw [Nat.xor_comm i s1]
end Mine
end
section
open PySem PySem.W PyProof.Rows PySem.Calls
set_option maxRecDepth 100000
set_option linter.unusedVariables false
namespace Mine
/-- four crossings are the sum of signs -/
theorem walsh (row : List Int) : ∀ k, k < 16 → (crossN row 4).getD k 0 = S16 (fun x => chi k x * row.getD x 0) := by
  intro k hk
  match k, hk with
  | 0, _ =>
    have a : (crossN row 4).getD 0 0 = ((((row.getD 0 0 + row.getD 1 0) + (row.getD 2 0 + row.getD 3 0)) + ((row.getD 4 0 + row.getD 5 0) + (row.getD 6 0 + row.getD 7 0))) + (((row.getD 8 0 + row.getD 9 0) + (row.getD 10 0 + row.getD 11 0)) + ((row.getD 12 0 + row.getD 13 0) + (row.getD 14 0 + row.getD 15 0)))) := rfl
    have c : S16 (fun x => chi 0 x * row.getD x 0) = 1 * row.getD 0 0 + 1 * row.getD 1 0 + 1 * row.getD 2 0 + 1 * row.getD 3 0 + 1 * row.getD 4 0 + 1 * row.getD 5 0 + 1 * row.getD 6 0 + 1 * row.getD 7 0 + 1 * row.getD 8 0 + 1 * row.getD 9 0 + 1 * row.getD 10 0 + 1 * row.getD 11 0 + 1 * row.getD 12 0 + 1 * row.getD 13 0 + 1 * row.getD 14 0 + 1 * row.getD 15 0 := by rw [S16_eq]; rfl
    rw [a, c]; omega
  | 1, _ =>
    have a : (crossN row 4).getD 1 0 = ((((row.getD 0 0 - row.getD 1 0) + (row.getD 2 0 - row.getD 3 0)) + ((row.getD 4 0 - row.getD 5 0) + (row.getD 6 0 - row.getD 7 0))) + (((row.getD 8 0 - row.getD 9 0) + (row.getD 10 0 - row.getD 11 0)) + ((row.getD 12 0 - row.getD 13 0) + (row.getD 14 0 - row.getD 15 0)))) := rfl
    have c : S16 (fun x => chi 1 x * row.getD x 0) = 1 * row.getD 0 0 + (-1) * row.getD 1 0 + 1 * row.getD 2 0 + (-1) * row.getD 3 0 + 1 * row.getD 4 0 + (-1) * row.getD 5 0 + 1 * row.getD 6 0 + (-1) * row.getD 7 0 + 1 * row.getD 8 0 + (-1) * row.getD 9 0 + 1 * row.getD 10 0 + (-1) * row.getD 11 0 + 1 * row.getD 12 0 + (-1) * row.getD 13 0 + 1 * row.getD 14 0 + (-1) * row.getD 15 0 := by rw [S16_eq]; rfl
    rw [a, c]; omega
  | 2, _ =>
    have a : (crossN row 4).getD 2 0 = ((((row.getD 0 0 + row.getD 1 0) - (row.getD 2 0 + row.getD 3 0)) + ((row.getD 4 0 + row.getD 5 0) - (row.getD 6 0 + row.getD 7 0))) + (((row.getD 8 0 + row.getD 9 0) - (row.getD 10 0 + row.getD 11 0)) + ((row.getD 12 0 + row.getD 13 0) - (row.getD 14 0 + row.getD 15 0)))) := rfl
    have c : S16 (fun x => chi 2 x * row.getD x 0) = 1 * row.getD 0 0 + 1 * row.getD 1 0 + (-1) * row.getD 2 0 + (-1) * row.getD 3 0 + 1 * row.getD 4 0 + 1 * row.getD 5 0 + (-1) * row.getD 6 0 + (-1) * row.getD 7 0 + 1 * row.getD 8 0 + 1 * row.getD 9 0 + (-1) * row.getD 10 0 + (-1) * row.getD 11 0 + 1 * row.getD 12 0 + 1 * row.getD 13 0 + (-1) * row.getD 14 0 + (-1) * row.getD 15 0 := by rw [S16_eq]; rfl
    rw [a, c]; omega
  | 3, _ =>
    have a : (crossN row 4).getD 3 0 = ((((row.getD 0 0 - row.getD 1 0) - (row.getD 2 0 - row.getD 3 0)) + ((row.getD 4 0 - row.getD 5 0) - (row.getD 6 0 - row.getD 7 0))) + (((row.getD 8 0 - row.getD 9 0) - (row.getD 10 0 - row.getD 11 0)) + ((row.getD 12 0 - row.getD 13 0) - (row.getD 14 0 - row.getD 15 0)))) := rfl
    have c : S16 (fun x => chi 3 x * row.getD x 0) = 1 * row.getD 0 0 + (-1) * row.getD 1 0 + (-1) * row.getD 2 0 + 1 * row.getD 3 0 + 1 * row.getD 4 0 + (-1) * row.getD 5 0 + (-1) * row.getD 6 0 + 1 * row.getD 7 0 + 1 * row.getD 8 0 + (-1) * row.getD 9 0 + (-1) * row.getD 10 0 + 1 * row.getD 11 0 + 1 * row.getD 12 0 + (-1) * row.getD 13 0 + (-1) * row.getD 14 0 + 1 * row.getD 15 0 := by rw [S16_eq]; rfl
    rw [a, c]; omega
  | 4, _ =>
    have a : (crossN row 4).getD 4 0 = ((((row.getD 0 0 + row.getD 1 0) + (row.getD 2 0 + row.getD 3 0)) - ((row.getD 4 0 + row.getD 5 0) + (row.getD 6 0 + row.getD 7 0))) + (((row.getD 8 0 + row.getD 9 0) + (row.getD 10 0 + row.getD 11 0)) - ((row.getD 12 0 + row.getD 13 0) + (row.getD 14 0 + row.getD 15 0)))) := rfl
    have c : S16 (fun x => chi 4 x * row.getD x 0) = 1 * row.getD 0 0 + 1 * row.getD 1 0 + 1 * row.getD 2 0 + 1 * row.getD 3 0 + (-1) * row.getD 4 0 + (-1) * row.getD 5 0 + (-1) * row.getD 6 0 + (-1) * row.getD 7 0 + 1 * row.getD 8 0 + 1 * row.getD 9 0 + 1 * row.getD 10 0 + 1 * row.getD 11 0 + (-1) * row.getD 12 0 + (-1) * row.getD 13 0 + (-1) * row.getD 14 0 + (-1) * row.getD 15 0 := by rw [S16_eq]; rfl
    rw [a, c]; omega
  | 5, _ =>
    have a : (crossN row 4).getD 5 0 = ((((row.getD 0 0 - row.getD 1 0) + (row.getD 2 0 - row.getD 3 0)) - ((row.getD 4 0 - row.getD 5 0) + (row.getD 6 0 - row.getD 7 0))) + (((row.getD 8 0 - row.getD 9 0) + (row.getD 10 0 - row.getD 11 0)) - ((row.getD 12 0 - row.getD 13 0) + (row.getD 14 0 - row.getD 15 0)))) := rfl
    have c : S16 (fun x => chi 5 x * row.getD x 0) = 1 * row.getD 0 0 + (-1) * row.getD 1 0 + 1 * row.getD 2 0 + (-1) * row.getD 3 0 + (-1) * row.getD 4 0 + 1 * row.getD 5 0 + (-1) * row.getD 6 0 + 1 * row.getD 7 0 + 1 * row.getD 8 0 + (-1) * row.getD 9 0 + 1 * row.getD 10 0 + (-1) * row.getD 11 0 + (-1) * row.getD 12 0 + 1 * row.getD 13 0 + (-1) * row.getD 14 0 + 1 * row.getD 15 0 := by rw [S16_eq]; rfl
    rw [a, c]; omega
  | 6, _ =>
    have a : (crossN row 4).getD 6 0 = ((((row.getD 0 0 + row.getD 1 0) - (row.getD 2 0 + row.getD 3 0)) - ((row.getD 4 0 + row.getD 5 0) - (row.getD 6 0 + row.getD 7 0))) + (((row.getD 8 0 + row.getD 9 0) - (row.getD 10 0 + row.getD 11 0)) - ((row.getD 12 0 + row.getD 13 0) - (row.getD 14 0 + row.getD 15 0)))) := rfl
    have c : S16 (fun x => chi 6 x * row.getD x 0) = 1 * row.getD 0 0 + 1 * row.getD 1 0 + (-1) * row.getD 2 0 + (-1) * row.getD 3 0 + (-1) * row.getD 4 0 + (-1) * row.getD 5 0 + 1 * row.getD 6 0 + 1 * row.getD 7 0 + 1 * row.getD 8 0 + 1 * row.getD 9 0 + (-1) * row.getD 10 0 + (-1) * row.getD 11 0 + (-1) * row.getD 12 0 + (-1) * row.getD 13 0 + 1 * row.getD 14 0 + 1 * row.getD 15 0 := by rw [S16_eq]; rfl
    rw [a, c]; omega
  | 7, _ =>
    have a : (crossN row 4).getD 7 0 = ((((row.getD 0 0 - row.getD 1 0) - (row.getD 2 0 - row.getD 3 0)) - ((row.getD 4 0 - row.getD 5 0) - (row.getD 6 0 - row.getD 7 0))) + (((row.getD 8 0 - row.getD 9 0) - (row.getD 10 0 - row.getD 11 0)) - ((row.getD 12 0 - row.getD 13 0) - (row.getD 14 0 - row.getD 15 0)))) := rfl
    have c : S16 (fun x => chi 7 x * row.getD x 0) = 1 * row.getD 0 0 + (-1) * row.getD 1 0 + (-1) * row.getD 2 0 + 1 * row.getD 3 0 + (-1) * row.getD 4 0 + 1 * row.getD 5 0 + 1 * row.getD 6 0 + (-1) * row.getD 7 0 + 1 * row.getD 8 0 + (-1) * row.getD 9 0 + (-1) * row.getD 10 0 + 1 * row.getD 11 0 + (-1) * row.getD 12 0 + 1 * row.getD 13 0 + 1 * row.getD 14 0 + (-1) * row.getD 15 0 := by rw [S16_eq]; rfl
    rw [a, c]; omega
  | 8, _ =>
    have a : (crossN row 4).getD 8 0 = ((((row.getD 0 0 + row.getD 1 0) + (row.getD 2 0 + row.getD 3 0)) + ((row.getD 4 0 + row.getD 5 0) + (row.getD 6 0 + row.getD 7 0))) - (((row.getD 8 0 + row.getD 9 0) + (row.getD 10 0 + row.getD 11 0)) + ((row.getD 12 0 + row.getD 13 0) + (row.getD 14 0 + row.getD 15 0)))) := rfl
    have c : S16 (fun x => chi 8 x * row.getD x 0) = 1 * row.getD 0 0 + 1 * row.getD 1 0 + 1 * row.getD 2 0 + 1 * row.getD 3 0 + 1 * row.getD 4 0 + 1 * row.getD 5 0 + 1 * row.getD 6 0 + 1 * row.getD 7 0 + (-1) * row.getD 8 0 + (-1) * row.getD 9 0 + (-1) * row.getD 10 0 + (-1) * row.getD 11 0 + (-1) * row.getD 12 0 + (-1) * row.getD 13 0 + (-1) * row.getD 14 0 + (-1) * row.getD 15 0 := by rw [S16_eq]; rfl
    rw [a, c]; omega
  | 9, _ =>
    have a : (crossN row 4).getD 9 0 = ((((row.getD 0 0 - row.getD 1 0) + (row.getD 2 0 - row.getD 3 0)) + ((row.getD 4 0 - row.getD 5 0) + (row.getD 6 0 - row.getD 7 0))) - (((row.getD 8 0 - row.getD 9 0) + (row.getD 10 0 - row.getD 11 0)) + ((row.getD 12 0 - row.getD 13 0) + (row.getD 14 0 - row.getD 15 0)))) := rfl
    have c : S16 (fun x => chi 9 x * row.getD x 0) = 1 * row.getD 0 0 + (-1) * row.getD 1 0 + 1 * row.getD 2 0 + (-1) * row.getD 3 0 + 1 * row.getD 4 0 + (-1) * row.getD 5 0 + 1 * row.getD 6 0 + (-1) * row.getD 7 0 + (-1) * row.getD 8 0 + 1 * row.getD 9 0 + (-1) * row.getD 10 0 + 1 * row.getD 11 0 + (-1) * row.getD 12 0 + 1 * row.getD 13 0 + (-1) * row.getD 14 0 + 1 * row.getD 15 0 := by rw [S16_eq]; rfl
    rw [a, c]; omega
  | 10, _ =>
    have a : (crossN row 4).getD 10 0 = ((((row.getD 0 0 + row.getD 1 0) - (row.getD 2 0 + row.getD 3 0)) + ((row.getD 4 0 + row.getD 5 0) - (row.getD 6 0 + row.getD 7 0))) - (((row.getD 8 0 + row.getD 9 0) - (row.getD 10 0 + row.getD 11 0)) + ((row.getD 12 0 + row.getD 13 0) - (row.getD 14 0 + row.getD 15 0)))) := rfl
    have c : S16 (fun x => chi 10 x * row.getD x 0) = 1 * row.getD 0 0 + 1 * row.getD 1 0 + (-1) * row.getD 2 0 + (-1) * row.getD 3 0 + 1 * row.getD 4 0 + 1 * row.getD 5 0 + (-1) * row.getD 6 0 + (-1) * row.getD 7 0 + (-1) * row.getD 8 0 + (-1) * row.getD 9 0 + 1 * row.getD 10 0 + 1 * row.getD 11 0 + (-1) * row.getD 12 0 + (-1) * row.getD 13 0 + 1 * row.getD 14 0 + 1 * row.getD 15 0 := by rw [S16_eq]; rfl
    rw [a, c]; omega
  | 11, _ =>
    have a : (crossN row 4).getD 11 0 = ((((row.getD 0 0 - row.getD 1 0) - (row.getD 2 0 - row.getD 3 0)) + ((row.getD 4 0 - row.getD 5 0) - (row.getD 6 0 - row.getD 7 0))) - (((row.getD 8 0 - row.getD 9 0) - (row.getD 10 0 - row.getD 11 0)) + ((row.getD 12 0 - row.getD 13 0) - (row.getD 14 0 - row.getD 15 0)))) := rfl
    have c : S16 (fun x => chi 11 x * row.getD x 0) = 1 * row.getD 0 0 + (-1) * row.getD 1 0 + (-1) * row.getD 2 0 + 1 * row.getD 3 0 + 1 * row.getD 4 0 + (-1) * row.getD 5 0 + (-1) * row.getD 6 0 + 1 * row.getD 7 0 + (-1) * row.getD 8 0 + 1 * row.getD 9 0 + 1 * row.getD 10 0 + (-1) * row.getD 11 0 + (-1) * row.getD 12 0 + 1 * row.getD 13 0 + 1 * row.getD 14 0 + (-1) * row.getD 15 0 := by rw [S16_eq]; rfl
    rw [a, c]; omega
  | 12, _ =>
    have a : (crossN row 4).getD 12 0 = ((((row.getD 0 0 + row.getD 1 0) + (row.getD 2 0 + row.getD 3 0)) - ((row.getD 4 0 + row.getD 5 0) + (row.getD 6 0 + row.getD 7 0))) - (((row.getD 8 0 + row.getD 9 0) + (row.getD 10 0 + row.getD 11 0)) - ((row.getD 12 0 + row.getD 13 0) + (row.getD 14 0 + row.getD 15 0)))) := rfl
    have c : S16 (fun x => chi 12 x * row.getD x 0) = 1 * row.getD 0 0 + 1 * row.getD 1 0 + 1 * row.getD 2 0 + 1 * row.getD 3 0 + (-1) * row.getD 4 0 + (-1) * row.getD 5 0 + (-1) * row.getD 6 0 + (-1) * row.getD 7 0 + (-1) * row.getD 8 0 + (-1) * row.getD 9 0 + (-1) * row.getD 10 0 + (-1) * row.getD 11 0 + 1 * row.getD 12 0 + 1 * row.getD 13 0 + 1 * row.getD 14 0 + 1 * row.getD 15 0 := by rw [S16_eq]; rfl
    rw [a, c]; omega
  | 13, _ =>
    have a : (crossN row 4).getD 13 0 = ((((row.getD 0 0 - row.getD 1 0) + (row.getD 2 0 - row.getD 3 0)) - ((row.getD 4 0 - row.getD 5 0) + (row.getD 6 0 - row.getD 7 0))) - (((row.getD 8 0 - row.getD 9 0) + (row.getD 10 0 - row.getD 11 0)) - ((row.getD 12 0 - row.getD 13 0) + (row.getD 14 0 - row.getD 15 0)))) := rfl
    have c : S16 (fun x => chi 13 x * row.getD x 0) = 1 * row.getD 0 0 + (-1) * row.getD 1 0 + 1 * row.getD 2 0 + (-1) * row.getD 3 0 + (-1) * row.getD 4 0 + 1 * row.getD 5 0 + (-1) * row.getD 6 0 + 1 * row.getD 7 0 + (-1) * row.getD 8 0 + 1 * row.getD 9 0 + (-1) * row.getD 10 0 + 1 * row.getD 11 0 + 1 * row.getD 12 0 + (-1) * row.getD 13 0 + 1 * row.getD 14 0 + (-1) * row.getD 15 0 := by rw [S16_eq]; rfl
    rw [a, c]; omega
  | 14, _ =>
    have a : (crossN row 4).getD 14 0 = ((((row.getD 0 0 + row.getD 1 0) - (row.getD 2 0 + row.getD 3 0)) - ((row.getD 4 0 + row.getD 5 0) - (row.getD 6 0 + row.getD 7 0))) - (((row.getD 8 0 + row.getD 9 0) - (row.getD 10 0 + row.getD 11 0)) - ((row.getD 12 0 + row.getD 13 0) - (row.getD 14 0 + row.getD 15 0)))) := rfl
    have c : S16 (fun x => chi 14 x * row.getD x 0) = 1 * row.getD 0 0 + 1 * row.getD 1 0 + (-1) * row.getD 2 0 + (-1) * row.getD 3 0 + (-1) * row.getD 4 0 + (-1) * row.getD 5 0 + 1 * row.getD 6 0 + 1 * row.getD 7 0 + (-1) * row.getD 8 0 + (-1) * row.getD 9 0 + 1 * row.getD 10 0 + 1 * row.getD 11 0 + 1 * row.getD 12 0 + 1 * row.getD 13 0 + (-1) * row.getD 14 0 + (-1) * row.getD 15 0 := by rw [S16_eq]; rfl
    rw [a, c]; omega
  | 15, _ =>
    have a : (crossN row 4).getD 15 0 = ((((row.getD 0 0 - row.getD 1 0) - (row.getD 2 0 - row.getD 3 0)) - ((row.getD 4 0 - row.getD 5 0) - (row.getD 6 0 - row.getD 7 0))) - (((row.getD 8 0 - row.getD 9 0) - (row.getD 10 0 - row.getD 11 0)) - ((row.getD 12 0 - row.getD 13 0) - (row.getD 14 0 - row.getD 15 0)))) := rfl
    have c : S16 (fun x => chi 15 x * row.getD x 0) = 1 * row.getD 0 0 + (-1) * row.getD 1 0 + (-1) * row.getD 2 0 + 1 * row.getD 3 0 + (-1) * row.getD 4 0 + 1 * row.getD 5 0 + 1 * row.getD 6 0 + (-1) * row.getD 7 0 + (-1) * row.getD 8 0 + 1 * row.getD 9 0 + 1 * row.getD 10 0 + (-1) * row.getD 11 0 + 1 * row.getD 12 0 + (-1) * row.getD 13 0 + (-1) * row.getD 14 0 + 1 * row.getD 15 0 := by rw [S16_eq]; rfl
    rw [a, c]; omega
  | n + 16, q => omega
end Mine
end
section
open PySem PySem.W PyProof.Rows PySem.Calls
set_option maxRecDepth 100000
set_option linter.unusedVariables false
namespace Mine
def bitsL (i : Nat) : List Nat := (List.range 4).filter fun p => Builtin.bitAnd ((i : Int) / 2 ^ p) 1 != 0
def uN (b c : Nat) : Nat := c % 2 * 8 ^ b + c / 2 % 2 * 2 * 8 ^ b + c / 4 % 2 * 4 * 8 ^ b + c / 8 % 2 * 2 ^ (9 + b)
def mN (b a c : Nat) : Nat := 4096 * a + uN b c
def rN (n0 : Int) (p : Nat) : Nat := (n0 / 16 ^ p % 16).toNat
theorem rN_lt (n0 : Int) (p : Nat) : rN n0 p < 16 := by
  unfold rN
  have := Int.emod_lt_of_pos (n0 / 16 ^ p) (show (0 : Int) < 16 by decide)
  omega
theorem rN_cast (n0 : Int) (p : Nat) : ((rN n0 p : Nat) : Int) = n0 / 16 ^ p % 16 := by
  unfold rN
  have := Int.emod_nonneg (n0 / 16 ^ p) (show (16 : Int) ≠ 0 by decide)
  omega
theorem uN_lt : ∀ b, b < 3 → ∀ c, c < 16 → uN b c < 4096 := by decide +kernel
theorem uN_xor : ∀ b, b < 3 → ∀ c, c < 16 → ∀ p, p < 4 → uN b c + uN b (2 ^ p) = uN b (c ^^^ 2 ^ p) + 2 * (uN b c &&& uN b (2 ^ p)) := by decide +kernel
theorem sm_xor : ∀ a, a < 16 → ∀ r, r < 16 → a + r = (a ^^^ r) + 2 * (a &&& r) := by decide +kernel
theorem and_split (a r u v : Nat) (hu : u < 4096) (hv : v < 4096) : (4096 * a + u) &&& (4096 * r + v) = 4096 * (a &&& r) + (u &&& v) := by
  have huv : u &&& v < 2 ^ 12 := Nat.and_lt_two_pow _ hv
  apply Nat.eq_of_testBit_eq
  intro j
  rw [Nat.testBit_and, show 4096 = 2 ^ 12 from rfl, Nat.testBit_two_pow_mul_add a hu, Nat.testBit_two_pow_mul_add r hv, Nat.testBit_two_pow_mul_add _ huv]
  split <;> simp [Nat.testBit_and]
theorem xor_step {b a r c p : Nat} (hb : b < 3) (ha : a < 16) (hr : r < 16) (hc : c < 16) (hp : p < 4) : Builtin.bitXor (mN b a c : Int) (mN b r (2 ^ p) : Int) = (mN b (a ^^^ r) (c ^^^ 2 ^ p) : Nat) := by
  have hp2 : 2 ^ p < 16 := by
    have : ∀ p, p < 4 → 2 ^ p < 16 := by decide
    exact this p hp
  have e1 := uN_xor b hb c hc p hp
  have e2 := sm_xor a ha r hr
  have e3 := and_split a r _ _ (uN_lt b hb c hc) (uN_lt b hb _ hp2)
  unfold Builtin.bitXor
  rw [PyProof.Rows.bitOr_and, PyProof.Rows.bitAnd_pp (by omega) (by omega), Int.toNat_natCast, Int.toNat_natCast]
  unfold mN
  rw [e3]
  omega
theorem xor_fold {b : Nat} {r : Nat → Nat} (hb : b < 3) (hr : ∀ p, r p < 16) : ∀ (ps : List Nat) (a c : Nat), (∀ p ∈ ps, p < 4) → a < 16 → c < 16 →
    (ps.map fun p => ((mN b (r p) (2 ^ p) : Nat) : Int)).foldl Builtin.bitXor (mN b a c : Nat) = (mN b (ps.foldl (fun x p => x ^^^ r p) a) (ps.foldl (fun x p => x ^^^ 2 ^ p) c) : Nat)
  | [], a, c, _, _, _ => rfl
  | p :: ps, a, c, h, ha, hc => by
    have hp : p < 4 := h p (by simp)
    have hp2 : 2 ^ p < 16 := by
      have : ∀ p, p < 4 → 2 ^ p < 16 := by decide
      exact this p hp
    simp only [List.map_cons, List.foldl_cons]
    rw [xor_step hb ha (hr p) hc hp]
    exact xor_fold hb hr ps _ _ (fun q hq => h q (by simp [hq])) (xor_lt _ ha _ (hr p)) (xor_lt _ hc _ hp2)
theorem bits_lt (i : Nat) : ∀ p ∈ bitsL i, p < 4 := by
  intro p hp
  exact List.mem_range.mp (List.mem_filter.mp hp).1
theorem bits_xor : ∀ i, i < 16 → ∀ c, c < 16 → (bitsL i).foldl (fun x p => x ^^^ 2 ^ p) c = c ^^^ i := by decide +kernel
def bigR (r : Nat → Nat) (i : Nat) : Nat := (bitsL i).foldl (fun x p => x ^^^ r p) 0
theorem fold_xor (r : Nat → Nat) : ∀ (ps : List Nat) (a : Nat), ps.foldl (fun x p => x ^^^ r p) a = a ^^^ ps.foldl (fun x p => x ^^^ r p) 0
  | [], a => by simp
  | p :: ps, a => by
    simp only [List.foldl_cons]
    rw [fold_xor r ps (a ^^^ r p), fold_xor r ps (0 ^^^ r p), Nat.zero_xor, Nat.xor_assoc]
theorem fold_lt {r : Nat → Nat} (hr : ∀ p, r p < 16) : ∀ (ps : List Nat) (a : Nat), a < 16 → ps.foldl (fun x p => x ^^^ r p) a < 16
  | [], a, h => h
  | p :: ps, a, h => fold_lt hr ps _ (xor_lt _ h _ (hr p))
theorem units_eq : ∀ b : Nat, b < 3 → ∀ p : Nat, p < 4 → (unitsV (b : Int)).getD p 0 = ((uN b (2 ^ p) : Nat) : Int) := by decide +kernel
theorem units_sum : ∀ b : Nat, b < 3 → ∀ c : Nat, c < 16 → (((List.range 4).filter fun p => Builtin.bitAnd ((c : Int) / 2 ^ p) 1 != 0).map fun p => (unitsV (b : Int)).getD p 0).sum = ((uN b c : Nat) : Int) := by decide +kernel
theorem rows_get (n0 : Int) : ∀ p, p < 4 → (rowsV n0).getD p 0 = ((rN n0 p : Nat) : Int) := by
  intro p hp
  rw [rN_cast]
  match p, hp with
  | 0, _ => rfl
  | 1, _ => rfl
  | 2, _ => rfl
  | 3, _ => rfl
theorem masks_get (n0 : Int) {b : Nat} (hb : b < 3) : ∀ p, p < 4 → (masksV n0 b).getD p 0 = ((mN b (rN n0 p) (2 ^ p) : Nat) : Int) := by
  intro p hp
  have e : (masksV n0 b).getD p 0 = 4096 * (rowsV n0).getD p 0 + (unitsV (b : Int)).getD p 0 := by
    match p, hp with
    | 0, _ => rfl
    | 1, _ => rfl
    | 2, _ => rfl
    | 3, _ => rfl
  rw [e, rows_get n0 p hp, units_eq b hb p hp]
  unfold mN
  omega
theorem word_eq (n0 : Int) {b s0 s1 i : Nat} (hb : b < 3) (h0 : s0 < 16) (h1 : s1 < 16) (hi : i < 16) : wordF (masksV n0 b) (firstV b s0 s1) i = ((mN b (s0 ^^^ bigR (rN n0) i) (s1 ^^^ i) : Nat) : Int) := by
  have ef : firstV b s0 s1 = ((mN b s0 s1 : Nat) : Int) := by
    unfold firstV mN
    rw [units_sum b hb s1 h1]
    omega
  have ec : chosenL (masksV n0 b) i = (bitsL i).map fun p => ((mN b (rN n0 p) (2 ^ p) : Nat) : Int) := by
    unfold chosenL bitsL
    apply List.map_congr_left
    intro p hp
    exact masks_get n0 hb p (bits_lt i p hp)
  unfold wordF
  rw [ef, ec, xor_fold hb (rN_lt n0) _ _ _ (bits_lt i) h0 h1, bits_xor i hi s1 h1, fold_xor]
  rfl
end Mine
end
section
open PySem PySem.W PyProof.Rows PySem.Calls
set_option maxRecDepth 100000
set_option linter.unusedVariables false
namespace Mine
def ixE (b K c i : Nat) : Nat := if i = 0 then kindIx.getD K 0 else if i + 3 * b = 7 then idx2 ((c : Int) / 4 % 2) 6 else if i + 3 * b = 8 then idx2 ((c : Int) / 2 % 2) 7 else if i + 3 * b = 9 then endsE (b : Int) ((c : Int) % 2 + (c : Int) / 8 * 2).toNat else 13
theorem and_low {u K : Nat} (hu : u < 4096) : ∀ m : Nat, m < 4096 → Builtin.bitAnd ((4096 * K + u : Nat) : Int) (m : Int) = Builtin.bitAnd (u : Int) (m : Int) := by
  intro m hm
  have e := and_split K 0 u m hu hm
  rw [Nat.mul_zero, Nat.zero_add, Nat.and_zero, Nat.mul_zero, Nat.zero_add] at e
  rw [PyProof.Rows.bitAnd_pp (by omega) (by omega), PyProof.Rows.bitAnd_pp (by omega) (by omega)]
  simp only [Int.toNat_natCast]
  rw [e]
theorem and_high {u K : Nat} (hu : u < 4096) : Builtin.bitAnd ((4096 * K + u : Nat) : Int) 61440 = Builtin.bitAnd ((4096 * K : Nat) : Int) 61440 := by
  have e := and_split K 15 u 0 hu (by decide)
  have e0 := and_split K 15 0 0 (by decide) (by decide)
  rw [Nat.and_zero] at e e0
  rw [PyProof.Rows.bitAnd_pp (by omega) (by decide), PyProof.Rows.bitAnd_pp (by omega) (by decide)]
  simp only [Int.toNat_natCast]
  rw [show (61440 : Int).toNat = 4096 * 15 + 0 from rfl, e, ← e0, Nat.add_zero]
theorem pick_same {idx m m' : Int} (row : List (Int × Str)) (h : ∀ p ∈ row, tst idx m p.1 = tst idx m' p.1) : pick idx m row = pick idx m' row := by
  have e : (row.find? fun p => tst idx m p.1) = row.find? fun p => tst idx m' p.1 := by
    induction row with
    | nil => rfl
    | cons p r ih =>
      simp only [List.find?_cons]
      rw [h p (by simp), ih fun q hq => h q (by simp [hq])]
  unfold pick
  rw [e]
theorem tab_low : ∀ i : Nat, i < 10 → i ≠ 0 → ∀ p ∈ tabRows.getD i [], 0 ≤ p.1 ∧ p.1 < 4096 := by decide +kernel
theorem code_low {u K i : Nat} (hu : u < 4096) (hi : i < 10) (h0 : i ≠ 0) : codeAt ((4096 * K + u : Nat) : Int) i = codeAt (u : Int) i := by
  have e : pickAt ((4096 * K + u : Nat) : Int) i = pickAt (u : Int) i := by
    refine pick_same _ fun p hp => ?_
    have hb := tab_low i hi h0 p hp
    unfold tst
    have hn : ((i : Int) == 0) = false := by simpa using h0
    rw [hn]
    have := and_low (K := K) hu p.1.toNat (by omega)
    rw [Int.toNat_of_nonneg hb.1] at this
    rw [this]
    rfl
  unfold codeAt
  rw [e]
theorem code_high {u K : Nat} (hu : u < 4096) : codeAt ((4096 * K + u : Nat) : Int) 0 = codeAt ((4096 * K : Nat) : Int) 0 := by
  have e : pickAt ((4096 * K + u : Nat) : Int) 0 = pickAt ((4096 * K : Nat) : Int) 0 := by
    refine pick_same _ fun p hp => ?_
    unfold tst
    rw [and_high hu]
    rfl
  unfold codeAt
  rw [e]
theorem ix_high : ∀ K : Nat, K < 16 → ixOf (codeAt ((4096 * K : Nat) : Int) 0) = kindIx.getD K 0 := by decide +kernel
theorem ix_low : ∀ b : Nat, b < 3 → ∀ c : Nat, c < 16 → ∀ i : Nat, i < 10 → i ≠ 0 → ixOf (codeAt ((uN b c : Nat) : Int) i) = ixE b 0 c i := by decide +kernel
theorem ixE_ok : ∀ b : Nat, b < 3 → ∀ K : Nat, K < 16 → ∀ c : Nat, c < 16 → ∀ i : Nat, i < 10 → ixOf (codeAt ((mN b K c : Nat) : Int) i) = ixE b K c i := by
  intro b hb K hK c hc i hi
  unfold mN
  by_cases h0 : i = 0
  · subst h0
    rw [code_high (uN_lt b hb c hc), ix_high K hK]
    rfl
  · rw [code_low (uN_lt b hb c hc) hi h0, ix_low b hb c hc i hi h0]
    unfold ixE
    rw [if_neg h0, if_neg h0]
theorem cost_eq (P : Nat → Int) {b K c : Nat} (hb : b < 3) (hK : K < 16) (hc : c < 16) :
    fold1 (· * ·) (costL P ((mN b K c : Nat) : Int)) = P (kindIx.getD K 0) * rightF P (endsE b) (7 - 3 * b) c * othersV P b := by
  have e : costL P ((mN b K c : Nat) : Int) = (List.range 10).map fun i => P (ixE b K c i) + (i : Int) := by
    unfold costL
    apply List.map_congr_left
    intro i hi
    unfold costF
    rw [ixE_ok b hb K hK c hc i (List.mem_range.mp hi)]
  rw [e]
  unfold rightF
  match b, hb with
  | 0, _ =>
    have l : fold1 (· * ·) ((List.range 10).map fun i => P (ixE 0 K c i) + (i : Int)) = (P (kindIx.getD K 0) + 0) * (P 13 + 1) * (P 13 + 2) * (P 13 + 3) * (P 13 + 4) * (P 13 + 5) * (P 13 + 6) * (P (idx2 ((c : Int) / 4 % 2) 6) + 7) * (P (idx2 ((c : Int) / 2 % 2) 7) + 8) * (P (endsE ((0 : Nat) : Int) ((c : Int) % 2 + (c : Int) / 8 * 2).toNat) + 9) := rfl
    have o : othersV P ((0 : Nat) : Int) = (P 13 + 1) * (P 13 + 2) * (P 13 + 3) * (P 13 + 4) * (P 13 + 5) * (P 13 + 6) := rfl
    rw [l, o, Int.add_zero, show (7 : Int) - 3 * ((0 : Nat) : Int) = 7 from rfl, Int.add_assoc _ 7 1, Int.add_assoc _ 7 2, show (7 : Int) + 1 = 8 from rfl, show (7 : Int) + 2 = 9 from rfl]
    ac_rfl
  | 1, _ =>
    have l : fold1 (· * ·) ((List.range 10).map fun i => P (ixE 1 K c i) + (i : Int)) = (P (kindIx.getD K 0) + 0) * (P 13 + 1) * (P 13 + 2) * (P 13 + 3) * (P (idx2 ((c : Int) / 4 % 2) 6) + 4) * (P (idx2 ((c : Int) / 2 % 2) 7) + 5) * (P (endsE ((1 : Nat) : Int) ((c : Int) % 2 + (c : Int) / 8 * 2).toNat) + 6) * (P 13 + 7) * (P 13 + 8) * (P 13 + 9) := rfl
    have o : othersV P ((1 : Nat) : Int) = (P 13 + 1) * (P 13 + 2) * (P 13 + 3) * (P 13 + 7) * (P 13 + 8) * (P 13 + 9) := rfl
    rw [l, o, Int.add_zero, show (7 : Int) - 3 * ((1 : Nat) : Int) = 4 from rfl, Int.add_assoc _ 4 1, Int.add_assoc _ 4 2, show (4 : Int) + 1 = 5 from rfl, show (4 : Int) + 2 = 6 from rfl]
    ac_rfl
  | 2, _ =>
    have l : fold1 (· * ·) ((List.range 10).map fun i => P (ixE 2 K c i) + (i : Int)) = (P (kindIx.getD K 0) + 0) * (P (idx2 ((c : Int) / 4 % 2) 6) + 1) * (P (idx2 ((c : Int) / 2 % 2) 7) + 2) * (P (endsE ((2 : Nat) : Int) ((c : Int) % 2 + (c : Int) / 8 * 2).toNat) + 3) * (P 13 + 4) * (P 13 + 5) * (P 13 + 6) * (P 13 + 7) * (P 13 + 8) * (P 13 + 9) := rfl
    have o : othersV P ((2 : Nat) : Int) = (P 13 + 4) * (P 13 + 5) * (P 13 + 6) * (P 13 + 7) * (P 13 + 8) * (P 13 + 9) := rfl
    rw [l, o, Int.add_zero, show (7 : Int) - 3 * ((2 : Nat) : Int) = 1 from rfl, Int.add_assoc _ 1 1, Int.add_assoc _ 1 2, show (1 : Int) + 1 = 2 from rfl, show (1 : Int) + 2 = 3 from rfl]
    ac_rfl
/-- the word's cost, summed -/
theorem paid_eq (n0 : Int) (P : Nat → Int) {b s0 s1 : Nat} (hb : b < 3) (h0 : s0 < 16) (h1 : s1 < 16) :
    paidF P (wordL (masksV n0 b) (firstV b s0 s1)) = othersV P b * S16 (fun i => P (kindIx.getD (s0 ^^^ bigR (rN n0) i) 0) * rightF P (endsE b) (7 - 3 * b) (s1 ^^^ i)) := by
  have e : paidF P (wordL (masksV n0 b) (firstV b s0 s1)) = S16 (fun i => fold1 (· * ·) (costL P (wordF (masksV n0 b) (firstV b s0 s1) i))) := by
    rw [S16_eq]; rfl
  rw [e, ← S16_mul]
  apply S16_congr
  intro i hi
  have hR : bigR (rN n0) i < 16 := fold_lt (rN_lt n0) _ _ (by decide)
  rw [word_eq n0 hb h0 h1 hi, cost_eq P hb (xor_lt _ h0 _ hR) (xor_lt _ h1 _ hi)]
  ac_rfl
end Mine
end
section
open PySem PySem.W PyProof.Rows PySem.Calls
set_option maxRecDepth 100000
set_option linter.unusedVariables false
namespace Mine
theorem odd_two (n : Int) : oddF n = 0 ∨ oddF n = 1 := by unfold oddF; omega
def sgn (q : Bool) : Int := if q then -1 else 1
theorem chi_zero : ∀ k, k < 16 → chi k 0 = 1 := by decide +kernel
theorem chi_fold {r : Nat → Nat} (hr : ∀ p, r p < 16) {k : Nat} (hk : k < 16) : ∀ (ps : List Nat) (a : Nat), a < 16 → chi k (ps.foldl (fun x p => x ^^^ r p) a) = ps.foldl (fun s p => s * chi k (r p)) (chi k a)
  | [], a, h => rfl
  | p :: ps, a, h => by
    simp only [List.foldl_cons]
    rw [chi_fold hr hk ps _ (xor_lt _ h _ (hr p)), chi_xor k hk _ h _ (hr p)]
def chB (q0 q1 q2 q3 : Bool) : Int := (((List.range 4).filter fun p => [q0, q1, q2, q3].getD p false).map fun p => (2 : Int) ^ p).sum
theorem chB_ok : ∀ q0 q1 q2 q3 : Bool, ∀ z, z < 16 → chi (chB q0 q1 q2 q3).toNat z = (bitsL z).foldl (fun s p => s * sgn ([q0, q1, q2, q3].getD p false)) 1 := by decide +kernel
theorem ch_eq (rows : List Int) (k : Nat) : chF rows k = chB (chP rows k 0) (chP rows k 1) (chP rows k 2) (chP rows k 3) := by
  unfold chF chB
  have e : List.range 4 = [0, 1, 2, 3] := rfl
  rw [e]
  simp only [List.filter_cons, List.filter_nil]
  rfl
theorem fold_same {f g : Nat → Int} : ∀ (ps : List Nat) (a : Int), (∀ p ∈ ps, f p = g p) → ps.foldl (fun s p => s * f p) a = ps.foldl (fun s p => s * g p) a
  | [], a, _ => rfl
  | p :: ps, a, h => by
    simp only [List.foldl_cons]
    rw [h p (by simp)]
    exact fold_same ps _ fun q hq => h q (by simp [hq])
theorem sgn_chP (n0 : Int) (k p : Nat) (hp : p < 4) : chi k (rN n0 p) = sgn (chP (rowsV n0) k p) := by
  unfold chi sgn chP
  rw [rows_get n0 p hp]
  rcases odd_two (Builtin.bitAnd (k : Int) ((rN n0 p : Nat) : Int)) with e | e <;> rw [e] <;> rfl
theorem ch_chi (n0 : Int) {k z : Nat} (hk : k < 16) (hz : z < 16) : chi (chF (rowsV n0) k).toNat z = chi k (bigR (rN n0) z) := by
  unfold bigR
  rw [chi_fold (rN_lt n0) hk _ _ (by decide), chi_zero k hk, ch_eq, chB_ok _ _ _ _ z hz]
  apply fold_same
  intro p hp
  have hp4 := bits_lt z p hp
  rw [sgn_chP n0 k p hp4]
  match p, hp4 with
  | 0, _ => rfl
  | 1, _ => rfl
  | 2, _ => rfl
  | 3, _ => rfl
theorem turn_eq (rows : List Int) {s0 s1 : Nat} (kinds rights : List Int) (i : Nat) : turnF rows s0 s1 kinds rights i = chi i s0 * chi (chF rows i).toNat s1 * (kinds.getD i 0 * rights.getD (chF rows i).toNat 0) := by
  have hc : (((chF rows i).toNat : Nat) : Int) = chF rows i := by
    have := (ch_bound (chP rows i)).1
    unfold chF
    omega
  unfold turnF chi
  rw [hc]
  rcases odd_two (Builtin.bitAnd (i : Int) (s0 : Int)) with e | e <;> rcases odd_two (Builtin.bitAnd (chF rows i) (s1 : Int)) with e' | e' <;> rw [e, e'] <;> simp
theorem across_eq (n0 : Int) (row0 row1 : List Int) {s0 s1 : Nat} (h0 : s0 < 16) (h1 : s1 < 16) :
    acrossF (rowsV n0) s0 s1 (crossN row0 4) (crossN row1 4) = 16 * S16 (fun i => row0.getD (s0 ^^^ bigR (rN n0) i) 0 * row1.getD (s1 ^^^ i) 0) := by
  have hcl : ∀ k, k < 16 → (chF (rowsV n0) k).toNat < 16 := by
    intro k hk
    have := (ch_bound (chP (rowsV n0) k)).2
    have h0 := (ch_bound (chP (rowsV n0) k)).1
    unfold chF
    omega
  have := poisson (fun x => row0.getD x 0) (fun y => row1.getD y 0) (fun k => (chF (rowsV n0) k).toNat) (bigR (rN n0)) s0 s1 h0 h1 (fun z _ => fold_lt (rN_lt n0) _ _ (by decide)) hcl (fun k hk z hz => ch_chi n0 hk hz)
  rw [← this]
  show S16 (turnF (rowsV n0) s0 s1 (crossN row0 4) (crossN row1 4)) = _
  apply S16_congr
  intro k hk
  rw [turn_eq, walsh row0 k hk, walsh row1 _ (hcl k hk)]
theorem kind_get (P : Nat → Int) : ∀ K, K < 16 → (kindIx.map P).getD K 0 = P (kindIx.getD K 0) := by
  intro K hK
  have hl : K < kindIx.length := hK
  simp [List.getD, hl]
theorem right_get (P : Nat → Int) (e : Nat → Nat) (lead : Int) : ∀ c, c < 16 → (rightL P e lead).getD c 0 = rightF P e lead c := by
  intro c hc
  unfold rightL
  simp [List.getD, hc]
theorem agree_all (n0 : Int) (P : Nat → Int) {b s0 s1 : Nat} (hb : b < 3) (h0 : s0 < 16) (h1 : s1 < 16) : agreeV n0 b s0 s1 P = true := by
  unfold agreeV kindsV rightsV
  rw [paid_eq n0 P hb h0 h1, across_eq n0 _ _ h0 h1]
  have e : S16 (fun i => (kindIx.map P).getD (s0 ^^^ bigR (rN n0) i) 0 * (rightL P (endsE b) (7 - 3 * b)).getD (s1 ^^^ i) 0) = S16 (fun i => P (kindIx.getD (s0 ^^^ bigR (rN n0) i) 0) * rightF P (endsE b) (7 - 3 * b) (s1 ^^^ i)) := by
    apply S16_congr
    intro i hi
    have hR : bigR (rN n0) i < 16 := fold_lt (rN_lt n0) _ _ (by decide)
    rw [kind_get P _ (xor_lt _ h0 _ hR), right_get P _ _ _ (xor_lt _ h1 _ hi)]
  rw [e, beq_iff_eq]
  ac_rfl
theorem math : ∀ n0 b s0 s1 n2 : Int, 0 ≤ b → b < 3 → 0 ≤ s0 → s0 < 16 → 0 ≤ s1 → s1 < 16 → agreeV n0 b s0 s1 (priceF n2) = true := by
  intro n0 b s0 s1 n2 hb hb3 h0 h016 h1 h116
  have := agree_all n0 (priceF n2) (b := b.toNat) (s0 := s0.toNat) (s1 := s1.toNat) (by omega) (by omega) (by omega)
  rwa [Int.toNat_of_nonneg hb, Int.toNat_of_nonneg h0, Int.toNat_of_nonneg h1] at this
end Mine
end
open PySem PySem.W PyProof.Rows PySem.Calls
set_option maxRecDepth 100000 in
set_option maxHeartbeats 8000000 in
theorem PySem.Challenge.cw_ny0113_01_holds : PySem.Challenge.rw_ny0113_01.Holds := by
  exact Mine.hd (by
    w_on
    w_strict (
      k_go0
      (rename Fr _ _ _ _ => F)
      (rename Heap.IsList _ _ _ => hL)
      (rename IntsAre _ _ => hI)
      (rename Frag.In _ _ => KX)
      (rename Top _ _ _ _ _ _ => T)
      (rename ¬ ((63 : Nat) : Int) < _ => h63)
      (rename _ = #[] => hg)
      refine wpAny_mono (Mine.law_body Mine.math ⟨KX, _, _, topRead_of T⟩ F hL hI (by omega)) (fun fl s' hq => ?_) (fun _ _ e => e)
      obtain ⟨h', tk, rfl, rfl, kp⟩ := hq
      exact ⟨.inl ⟨.bool true, .bool true, [], rfl, (fun cls => rfl), .bool true, (by with_unfolding_all rfl), (fun _ => ⟨.nil, fun _ ha => nomatch ha⟩)⟩, kp, rfl, hg⟩))
