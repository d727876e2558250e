import PyProof.Rows.All
import Wide.All
import OpenK.AllK
import Wide.FinOn
import PySem.Challenge.RW_wu0036_01
set_option Elab.async false
set_option linter.all false
section
open PySem PySem.W PyProof.Rows PySem.Spec PySem.Calls
set_option maxRecDepth 100000
set_option maxHeartbeats 1000000
namespace Mine

abbrev Reg := Addr → Option Obj
def Sub (G : Reg) (h : Heap) : Prop := ∀ b o, G b = some o → h.get? b = some o
def RSub (G G' : Reg) : Prop := ∀ b o, G b = some o → G' b = some o
def Ext (h h' : Heap) : Prop := ∀ b o, h.get? b = some o → h'.get? b = some o
theorem RSub.refl (G : Reg) : RSub G G := fun _ _ e => e
theorem RSub.trans {G G' G'' : Reg} (a : RSub G G') (b : RSub G' G'') : RSub G G'' := fun x o e => b x o (a x o e)
theorem Ext.refl (h : Heap) : Ext h h := fun _ _ e => e
theorem Ext.trans {a b c : Heap} (x : Ext a b) (y : Ext b c) : Ext a c := fun z o e => y z o (x z o e)

inductive PV where
  | none | bool (b : Bool) | int (i : Int) | str (s : Str) | bytes (b : Array UInt8) | val (v : Value) | list (xs : List PV) | own (o : Option Addr) (xs : List PV)

mutual
inductive VR (G : Reg) : PV → Value → Prop
  | none : VR G .none .none
  | bool (b : Bool) : VR G (.bool b) (.bool b)
  | int (i : Int) (t : Tok) : VR G (.int i) (.int i t)
  | str (x : Str) (t : Tok) : VR G (.str x) (.str x t)
  | bytes (x : Array UInt8) (t : Tok) : VR G (.bytes x) (.bytes x t)
  | val (v : Value) : VR G (.val v) v
  | list {xs : List PV} {a : Addr} {n : Nat} {vs : List Value} (ho : G a = some (listOf vs.toArray n)) (hv : VRs G xs vs) : VR G (.list xs) (.ref a)
inductive VRs (G : Reg) : List PV → List Value → Prop
  | nil : VRs G [] []
  | cons {p : PV} {v : Value} {ps : List PV} {vs : List Value} (h : VR G p v) (r : VRs G ps vs) : VRs G (p :: ps) (v :: vs)
end

mutual
theorem VR.mono {G G' : Reg} (k : RSub G G') {p : PV} {v : Value} : VR G p v → VR G' p v
  | .none => .none
  | .bool b => .bool b
  | .int i t => .int i t
  | .str x t => .str x t
  | .bytes x t => .bytes x t
  | .val v => .val v
  | .list ho hv => .list (k _ _ ho) (VRs.mono k hv)
theorem VRs.mono {G G' : Reg} (k : RSub G G') {ps : List PV} {vs : List Value} : VRs G ps vs → VRs G' ps vs
  | .nil => .nil
  | .cons h r => .cons (VR.mono k h) (VRs.mono k r)
end

theorem VRs.length {G : Reg} : ∀ {ps : List PV} {vs : List Value}, VRs G ps vs → vs.length = ps.length
  | _, _, .nil => rfl
  | _, _, .cons _ r => congrArg (· + 1) r.length
theorem VRs.append {G : Reg} : ∀ {ps qs : List PV} {vs us : List Value}, VRs G ps vs → VRs G qs us → VRs G (ps ++ qs) (vs ++ us)
  | _, _, _, _, .nil, y => y
  | _, _, _, _, .cons h r, y => .cons h (r.append y)
theorem VRs.get {G : Reg} : ∀ {ps : List PV} {vs : List Value} {i : Nat} {p : PV}, VRs G ps vs → ps[i]? = some p → ∃ v, vs[i]? = some v ∧ VR G p v
  | _, _, _, _, .nil, e => by simp at e
  | _, _, 0, _, .cons h _, e => by simp at e; subst e; exact ⟨_, rfl, h⟩
  | _, _, i + 1, _, .cons _ r, e => by simpa using r.get (by simpa using e)
theorem VRs.take {G : Reg} : ∀ {ps : List PV} {vs : List Value} (n : Nat), VRs G ps vs → VRs G (ps.take n) (vs.take n)
  | _, _, 0, _ => .nil
  | _, _, _ + 1, .nil => .nil
  | _, _, n + 1, .cons h r => .cons h (r.take n)
theorem VRs.drop {G : Reg} : ∀ {ps : List PV} {vs : List Value} (n : Nat), VRs G ps vs → VRs G (ps.drop n) (vs.drop n)
  | _, _, 0, h => h
  | _, _, _ + 1, .nil => .nil
  | _, _, n + 1, .cons _ r => r.drop n
theorem VRs.reverse {G : Reg} : ∀ {ps : List PV} {vs : List Value}, VRs G ps vs → VRs G ps.reverse vs.reverse
  | _, _, .nil => .nil
  | _, _, .cons h r => by rw [List.reverse_cons, List.reverse_cons]; exact r.reverse.append (.cons h .nil)

/-- a value as it is held in a variable or handed on: an own list stands in the heap alone -/
def VRo (G : Reg) (h : Heap) : PV → Value → Prop
  | .own o xs, v => ∃ a n vs, v = .ref a ∧ h.get? a = some (listOf (List.toArray vs) n) ∧ VRs G xs vs ∧ ∀ b, o = some b → a = b
  | p, v => VR G p v
theorem VRo.of {G : Reg} {h : Heap} {p : PV} {v : Value} (x : VR G p v) : VRo G h p v := by
  cases p <;> first | exact x | (cases x)
def PV.pure : PV → Bool
  | .own _ _ => false
  | _ => true
theorem VRo.vr {G : Reg} {h : Heap} {p : PV} {v : Value} (x : VRo G h p v) (hp : p.pure = true) : VR G p v := by
  cases p <;> first | exact x | (cases hp)
theorem VRo.mono {G G' : Reg} {h h' : Heap} (k : RSub G G') (e : Ext h h') {p : PV} {v : Value} (x : VRo G h p v) : VRo G' h' p v := by
  cases p with
  | own o xs => obtain ⟨a, n, vs, r1, r2, r3, r4⟩ := x; exact ⟨a, n, vs, r1, e _ _ r2, r3.mono k, r4⟩
  | _ => exact VRo.of (VR.mono k x)

abbrev Loc := List (Str × PV)

/-- the name x holds v in this frame: by the frame's own dict, or by a cell -/
def Reads (env : Env) (h : Heap) (x : Str) (v : Value) : Prop :=
  (env.kindOf x = some .local ∧ ∃ m, h.Ns env.locals m ∧ m x = some v) ∨
  (env.kindOf x = some .cell ∧ ∃ c, env.cells.lookup x = some c ∧ h.IsCell c (some v))

structure EnvOk (env : Env) : Prop where
  kind : env.scope.kind = .function
  globals : env.globals = mainGlobals
  builtins : env.builtins = builtinsNs
  quiet : interactive env = false

/-- what the statements ask of the frame's surroundings -/
structure AOk (A : Around) (d : Nat) : Prop where
  handled : A.handled = none
  depth : A.depth + d < recursionLimit
  units : A.units + 4 * d < cLine

def Post (G : Reg) (h : Heap) (G' : Reg) (h' : Heap) : Prop := RSub G G' ∧ Ext h h' ∧ Sub G' h' ∧ ∀ b o, G' b = some o → G b = some o ∨ h.get? b = none
theorem Post.refl {G : Reg} {h : Heap} (s : Sub G h) : Post G h G h := ⟨RSub.refl G, Ext.refl h, s, fun _ _ e => .inl e⟩
theorem Post.trans {G G' G'' : Reg} {h h' h'' : Heap} (a : Post G h G' h') (b : Post G' h' G'' h'') : Post G h G'' h'' :=
  ⟨a.1.trans b.1, a.2.1.trans b.2.1, b.2.2.1, fun x o e => by
    rcases b.2.2.2 x o e with q | q
    · exact a.2.2.2 x o q
    · refine .inr ?_
      cases z : h.get? x with
      | none => rfl
      | some o' => rw [a.2.1 x o' z] at q; cases q⟩

/-- what stands of the whole program in the heap at the law's call -/
structure Base (h₀ : Heap) (mg mb : Str → Option Value) : Prop where
  g : h₀.Ns mainGlobals mg
  b : h₀.Ns builtinsNs mb
  lim : h₀.NoLimit

structure RepE (h₀ : Heap) (G : Reg) (env : Env) (loc : Loc) (h : Heap) : Prop where
  base : ∀ b o, h₀.get? b = some o → G b = some o
  sub : Sub G h
  vars : ∀ x p, loc.lookup x = some p → ∃ v, Reads env h x v ∧ VRo G h p v

theorem IsCell.ext {h h' : Heap} (e : Ext h h') {c : Addr} {v : Option Value} (x : h.IsCell c v) : h'.IsCell c v := x.keeps e
theorem Reads.ext {env : Env} {h h' : Heap} (e : Ext h h') {x : Str} {v : Value} (r : Reads env h x v) : Reads env h' x v := by
  rcases r with ⟨k, m, hn, hm⟩ | ⟨k, c, hc, hv⟩
  · exact .inl ⟨k, m, hn.keeps e, hm⟩
  · exact .inr ⟨k, c, hc, hv.keeps e⟩
theorem RepE.post {h₀ : Heap} {G G' : Reg} {env : Env} {loc : Loc} {h h' : Heap} (R : RepE h₀ G env loc h) (p : Post G h G' h') : RepE h₀ G' env loc h' :=
  ⟨fun b o e => p.1 b o (R.base b o e), p.2.2.1, fun x q e => by
    obtain ⟨v, r, vr⟩ := R.vars x q e
    exact ⟨v, r.ext p.2.1, vr.mono p.1 p.2.1⟩⟩
theorem RepE.ext {h₀ : Heap} {G : Reg} {env : Env} {loc : Loc} {h : Heap} (R : RepE h₀ G env loc h) : ∀ b o, h₀.get? b = some o → h.get? b = some o := fun b o e => R.sub b o (R.base b o e)

abbrev NoE : Value → Shared → Prop := fun _ _ => False
theorem passes_no {M : Model} {A : Around} {env : Env} : PassesOwn M A env NoE := fun _ _ h => h.elim
theorem wp_no {M : Model} {A : Around} {α : Type} {t : Sem α} {Q : α → Shared → Prop} {E : Value → Shared → Prop} {s : Shared} (h : wpAny M A t Q NoE s) : wpAny M A t Q E s := wpAny_mono h (fun _ _ x => x) fun _ _ x => x.elim

end Mine
end
section
open PySem PySem.W PyProof.Rows PySem.Spec PySem.Calls
set_option maxRecDepth 100000
set_option maxHeartbeats 1000000
namespace Mine
section
variable {prog : Program} {w : World} {h₀ : Heap} {mg mb : Str → Option Value} {A : Around} {env : Env} {loc : Loc}

def Gives (G : Reg) (s : Shared) (p : PV) (Q : Value → Shared → Prop) : Prop :=
  ∀ G' h' tk v, Post G s.heap G' h' → VRo G' h' p v → Q v { s with heap := h', toks := tk }
theorem Gives.here {G : Reg} {s : Shared} {p : PV} {Q : Value → Shared → Prop} (g : Gives G s p Q) (sub : Sub G s.heap) (tk : Nat) {v : Value} (hv : VR G p v) : Q v { s with toks := tk } :=
  g G s.heap tk v (Post.refl sub) (VRo.of hv)

def Ev (prog : Program) (w : World) (h₀ : Heap) (A : Around) (env : Env) (loc : Loc) (e : Expr) (p : PV) : Prop :=
  ∀ G s Q, RepE h₀ G env loc s.heap → Gives G s p Q → wpAny (model prog w) A (eval e env) Q NoE s

/-- the truth of an expression -/
def EvT (prog : Program) (w : World) (h₀ : Heap) (A : Around) (env : Env) (loc : Loc) (e : Expr) (b : Bool) : Prop :=
  ∀ G s (Q : Bool → Shared → Prop), RepE h₀ G env loc s.heap → (∀ G' h' tk, Post G s.heap G' h' → Q b { s with heap := h', toks := tk }) → wpAny (model prog w) A (isTrue e env (eval e env)) Q NoE s

def OpB (prog : Program) (w : World) (A : Around) (op : Operator) (p q r : PV) : Prop :=
  ∀ G s a b Q, Sub G s.heap → VRo G s.heap p a → VRo G s.heap q b → Gives G s r Q → wpAny (model prog w) A (binaryOp op a b) Q NoE s
def OpC (prog : Program) (w : World) (A : Around) (op : CmpOp) (p q r : PV) : Prop :=
  ∀ G s a b Q, Sub G s.heap → VRo G s.heap p a → VRo G s.heap q b → Gives G s r Q → wpAny (model prog w) A (compareOp op a b) Q NoE s
def OpU (prog : Program) (w : World) (A : Around) (op : UnaryOp) (p r : PV) : Prop :=
  ∀ G s a Q, Sub G s.heap → VRo G s.heap p a → Gives G s r Q → wpAny (model prog w) A (unaryOp op a) Q NoE s
def OpT (prog : Program) (w : World) (A : Around) (p : PV) (b : Bool) : Prop :=
  ∀ G s a (Q : Bool → Shared → Prop), Sub G s.heap → VRo G s.heap p a → (∀ tk, Q b { s with toks := tk }) → wpAny (model prog w) A (truthy a) Q NoE s

theorem Gives.post {G G' : Reg} {s : Shared} {h' : Heap} {tk : Nat} {p : PV} {Q : Value → Shared → Prop} (g : Gives G s p Q) (k : Post G s.heap G' h') : Gives G' { s with heap := h', toks := tk } p Q :=
  fun G'' h'' tk' v k' hv => g G'' h'' tk' v (k.trans k') hv

-- names
theorem Ev.local {x : Str} {pos : Pos} {p : PV} (hE : EnvOk env) (hl : loc.lookup x = some p) (hd : (x == ("__debug__" : Str)) = false := by decide) : Ev prog w h₀ A env loc (.Name x pos) p := by
  intro G s Q R g
  obtain ⟨v, r, vr⟩ := R.vars x p hl
  have fin : Q v s := g G s.heap s.toks v (Post.refl R.sub) vr
  refine wpAny_Name ?_ hd
  rcases r with ⟨k, m, hn, hm⟩ | ⟨k, c, hc, hv⟩
  · exact wpAny_loadName_local hE.kind k hn hm fin
  · exact wpAny_loadName_cell hE.kind k hc hv fin
theorem Ev.global {x : Str} {pos : Pos} {v : Value} (hB : Base h₀ mg mb) (hE : EnvOk env) (hm : mg x = some v) (hx : env.kindOf x = some .globalImplicit) (hd : (x == ("__debug__" : Str)) = false := by decide) : Ev prog w h₀ A env loc (.Name x pos) (.val v) := by
  intro G s Q R g
  refine Calls.Name_function_global hE.kind hx ?_ hd
  refine Calls.loadGlobal_global (env := env) (hE.globals ▸ hB.g.keeps R.ext) hm ?_
  exact g G s.heap s.toks v (Post.refl R.sub) (VR.val v)
theorem Ev.builtin {x : Str} {pos : Pos} {v : Value} (hB : Base h₀ mg mb) (hE : EnvOk env) (hm : mg x = none) (hv : mb x = some v) (hx : env.kindOf x = some .globalImplicit) (hd : (x == ("__debug__" : Str)) = false := by decide) : Ev prog w h₀ A env loc (.Name x pos) (.val v) := by
  intro G s Q R g
  refine Calls.Name_function_global hE.kind hx ?_ hd
  refine Calls.loadGlobal_builtin (env := env) (hE.globals ▸ hB.g.keeps R.ext) hm (hE.builtins ▸ hB.b.keeps R.ext) hv ?_
  exact g G s.heap s.toks v (Post.refl R.sub) (VR.val v)

-- constants
theorem Ev.int {i : Int} {k : Nat} {pos : Pos} : Ev prog w h₀ A env loc (.Constant (.int i) k pos) (.int i) := fun _ _ _ R g => wpAny_Constant_int (g.here R.sub _ (VR.int _ _))
theorem Ev.str {x : Str} {k : Nat} {pos : Pos} : Ev prog w h₀ A env loc (.Constant (.str x) k pos) (.str x) := fun _ _ _ R g => wpAny_Constant_str (g.here R.sub _ (VR.str _ _))
theorem Ev.bool {b : Bool} {k : Nat} {pos : Pos} : Ev prog w h₀ A env loc (.Constant (.bool b) k pos) (.bool b) := fun _ s _ R g => wpAny_Constant_bool (g.here R.sub s.toks (VR.bool _))
theorem Ev.none {k : Nat} {pos : Pos} : Ev prog w h₀ A env loc (.Constant .none k pos) .none := fun _ s _ R g => wpAny_Constant_none (g.here R.sub s.toks VR.none)
theorem Ev.bytes {x : List UInt8} {k : Nat} {pos : Pos} : Ev prog w h₀ A env loc (.Constant (.bytes x) k pos) (.bytes x.toArray) := fun _ _ _ R g => Constant_bytes (g.here R.sub _ (VR.bytes _ _))

-- operators
theorem Ev.bin {l r : Expr} {op : Operator} {pos : Pos} {p q o : PV} (hl : Ev prog w h₀ A env loc l p) (hr : Ev prog w h₀ A env loc r q) (ho : OpB prog w A op p q o) : Ev prog w h₀ A env loc (.BinOp l op r pos) o := by
  intro G s Q R g
  refine wpAny_BinOp (hl G s _ R fun G₁ h₁ t₁ a k₁ va => ?_)
  refine hr G₁ _ _ (R.post k₁) fun G₂ h₂ t₂ b k₂ vb => ?_
  exact ho G₂ _ a b Q k₂.2.2.1 (va.mono k₂.1 k₂.2.1) vb (Gives.post (s := s) g (k₁.trans k₂))
theorem Ev.cmp {l r : Expr} {op : CmpOp} {pos : Pos} {p q o : PV} (hl : Ev prog w h₀ A env loc l p) (hr : Ev prog w h₀ A env loc r q) (ho : OpC prog w A op p q o) (hb : behindInMarks op r = false := by rfl) : Ev prog w h₀ A env loc (.Compare l [op] [r] pos) o := by
  intro G s Q R g
  refine wpAny_Compare1 (hl G s _ R fun G₁ h₁ t₁ a k₁ va => ?_) hb
  refine hr G₁ _ _ (R.post k₁) fun G₂ h₂ t₂ b k₂ vb => ?_
  exact ho G₂ _ a b Q k₂.2.2.1 (va.mono k₂.1 k₂.2.1) vb (Gives.post (s := s) g (k₁.trans k₂))
theorem Ev.un {x : Expr} {op : UnaryOp} {pos : Pos} {p o : PV} (hx : Ev prog w h₀ A env loc x p) (ho : OpU prog w A op p o) : Ev prog w h₀ A env loc (.UnaryOp op x pos) o := by
  intro G s Q R g
  refine wpAny_UnaryOp (hx G s _ R fun G₁ h₁ t₁ a k₁ va => ?_)
  exact ho G₁ _ a Q k₁.2.2.1 va (Gives.post (s := s) g k₁)

-- truth
theorem EvT.cmp {l r : Expr} {op : CmpOp} {pos : Pos} {p q : PV} {b : Bool} (hl : Ev prog w h₀ A env loc l p) (hr : Ev prog w h₀ A env loc r q) (ho : OpC prog w A op p q (.bool b)) (hb : behindInMarks op r = false := by rfl) :
    EvT prog w h₀ A env loc (.Compare l [op] [r] pos) b := by
  intro G s Q R g
  refine wpAny_isTrue_Compare1 (hl G s _ R fun G₁ h₁ t₁ a k₁ va => ?_) hb
  refine hr G₁ _ _ (R.post k₁) fun G₂ h₂ t₂ b' k₂ vb => ?_
  refine ho G₂ _ a b' _ k₂.2.2.1 (va.mono k₂.1 k₂.2.1) vb fun G₃ h₃ t₃ c k₃ vc => ?_
  cases vc
  exact wpAny_truthy_bool (g G₃ h₃ t₃ ((k₁.trans k₂).trans k₃))
theorem EvT.val {e : Expr} {p : PV} {b : Bool} (he : Ev prog w h₀ A env loc e p) (ht : OpT prog w A p b) (hw : isTrue e env (eval e env) = (do let v ← eval e env; standAt e.pos; holding [v] (truthy v)) := by rfl) : EvT prog w h₀ A env loc e b := by
  intro G s Q R g
  refine wpAny_isTrue_value (he G s _ R fun G₁ h₁ t₁ a k₁ va => ?_) hw
  exact ht G₁ _ a Q k₁.2.2.1 va fun tk => g G₁ h₁ tk k₁
theorem EvT.not {x : Expr} {pos : Pos} {b : Bool} (h : EvT prog w h₀ A env loc x b) : EvT prog w h₀ A env loc (.UnaryOp .Not x pos) (!b) := by
  intro G s Q R g
  exact wpAny_isTrue_Not (h G s _ R g)
theorem EvT.or_tt {x : Expr} {rest : List Expr} {pos : Pos} (h : EvT prog w h₀ A env loc x true) : EvT prog w h₀ A env loc (.BoolOp .Or (x :: rest) pos) true := by
  intro G s Q R g
  refine wpAny_isTrue_BoolOp (wpAny_allTrue_Or_cons (h G s _ R fun G' h' tk k => ?_))
  simpa using g G' h' tk k
theorem EvT.or_ff {x : Expr} {y : Expr} {pos : Pos} {b : Bool} (h : EvT prog w h₀ A env loc x false) (hy : EvT prog w h₀ A env loc y b) : EvT prog w h₀ A env loc (.BoolOp .Or [x, y] pos) b := by
  intro G s Q R g
  refine wpAny_isTrue_BoolOp (wpAny_allTrue_Or_cons (h G s _ R fun G₁ h₁ t₁ k₁ => ?_))
  rw [if_neg (by decide)]
  refine wpAny_allTrue_Or_cons (hy G₁ _ _ (R.post k₁) fun G₂ h₂ t₂ k₂ => ?_)
  cases b
  · rw [if_neg (by decide)]; exact wpAny_allTrue_Or_nil (g G₂ h₂ t₂ (k₁.trans k₂))
  · rw [if_pos rfl]; exact g G₂ h₂ t₂ (k₁.trans k₂)
theorem EvT.or_ff3 {x y z : Expr} {pos : Pos} {b : Bool} (h : EvT prog w h₀ A env loc x false) (hy : EvT prog w h₀ A env loc y false) (hz : EvT prog w h₀ A env loc z b) : EvT prog w h₀ A env loc (.BoolOp .Or [x, y, z] pos) b := by
  intro G s Q R g
  refine wpAny_isTrue_BoolOp (wpAny_allTrue_Or_cons (h G s _ R fun G₁ h₁ t₁ k₁ => ?_))
  rw [if_neg (by decide)]
  refine wpAny_allTrue_Or_cons (hy G₁ _ _ (R.post k₁) fun G₂ h₂ t₂ k₂ => ?_)
  rw [if_neg (by decide)]
  refine wpAny_allTrue_Or_cons (hz G₂ _ _ ((R.post k₁).post k₂) fun G₃ h₃ t₃ k₃ => ?_)
  cases b
  · rw [if_neg (by decide)]; exact wpAny_allTrue_Or_nil (g G₃ h₃ t₃ ((k₁.trans k₂).trans k₃))
  · rw [if_pos rfl]; exact g G₃ h₃ t₃ ((k₁.trans k₂).trans k₃)
theorem EvT.and_ff {x : Expr} {rest : List Expr} {pos : Pos} (h : EvT prog w h₀ A env loc x false) : EvT prog w h₀ A env loc (.BoolOp .And (x :: rest) pos) false := by
  intro G s Q R g
  refine wpAny_isTrue_BoolOp (wpAny_allTrue_And_cons (h G s _ R fun G' h' tk k => ?_))
  simpa using g G' h' tk k
theorem EvT.and_tt {x : Expr} {y : Expr} {pos : Pos} {b : Bool} (h : EvT prog w h₀ A env loc x true) (hy : EvT prog w h₀ A env loc y b) : EvT prog w h₀ A env loc (.BoolOp .And [x, y] pos) b := by
  intro G s Q R g
  refine wpAny_isTrue_BoolOp (wpAny_allTrue_And_cons (h G s _ R fun G₁ h₁ t₁ k₁ => ?_))
  rw [if_pos rfl]
  refine wpAny_allTrue_And_cons (hy G₁ _ _ (R.post k₁) fun G₂ h₂ t₂ k₂ => ?_)
  cases b
  · rw [if_neg (by decide)]; exact g G₂ h₂ t₂ (k₁.trans k₂)
  · rw [if_pos rfl]; exact wpAny_allTrue_And_nil (g G₂ h₂ t₂ (k₁.trans k₂))
theorem Ev.ite_tt {t b o : Expr} {pos : Pos} {p : PV} (ht : EvT prog w h₀ A env loc t true) (hb : Ev prog w h₀ A env loc b p) : Ev prog w h₀ A env loc (.IfExp t b o pos) p := by
  intro G s Q R g
  refine wpAny_IfExp (ht G s _ R fun G₁ h₁ t₁ k₁ => ?_)
  rw [if_pos rfl]
  exact hb G₁ _ Q (R.post k₁) (Gives.post (s := s) g k₁)
theorem Ev.ite_ff {t b o : Expr} {pos : Pos} {p : PV} (ht : EvT prog w h₀ A env loc t false) (ho : Ev prog w h₀ A env loc o p) : Ev prog w h₀ A env loc (.IfExp t b o pos) p := by
  intro G s Q R g
  refine wpAny_IfExp (ht G s _ R fun G₁ h₁ t₁ k₁ => ?_)
  rw [if_neg (by decide)]
  exact ho G₁ _ Q (R.post k₁) (Gives.post (s := s) g k₁)

-- the operators' values
theorem OpB.add_int {a b : Int} : OpB prog w A .Add (.int a) (.int b) (.int (a + b)) := by
  intro G s x y Q S ha hb g; cases ha; cases hb
  exact _root_.PyProof.Rows.add_int (g.here S _ (VR.int _ _))
theorem OpB.sub_int {a b : Int} : OpB prog w A .Sub (.int a) (.int b) (.int (a - b)) := by
  intro G s x y Q S ha hb g; cases ha; cases hb
  exact _root_.PyProof.Rows.sub_int (g.here S _ (VR.int _ _))
theorem OpB.sub_bool {a b : Bool} : OpB prog w A .Sub (.bool a) (.bool b) (.int (b2i a - b2i b)) := by
  intro G s x y Q S ha hb g; cases ha; cases hb
  exact _root_.PyProof.Rows.sub_bool (g.here S _ (VR.int _ _))
theorem OpB.fdiv_int {a b : Int} (h : b ≠ 0) (hp : Builtin.divisionGoesByPylong a b = false) : OpB prog w A .FloorDiv (.int a) (.int b) (.int (a.fdiv b)) := by
  intro G s x y Q S ha hb g; cases ha; cases hb
  exact _root_.PyProof.Rows.floordiv_int h (g.here S _ (VR.int _ _)) (.inl hp)
theorem OpB.mod_int {a b : Int} (h : b ≠ 0) : OpB prog w A .Mod (.int a) (.int b) (.int (a.fmod b)) := by
  intro G s x y Q S ha hb g; cases ha; cases hb
  exact _root_.PyProof.Rows.mod_int' h (g.here S _ (VR.int _ _))
theorem OpB.shl_int {a n : Int} (h0 : 0 ≤ n) (h1 : n ≤ 1000000) (h2 : a.natAbs < 2 ^ 64) : OpB prog w A .LShift (.int a) (.int n) (.int (a * 2 ^ n.toNat)) := by
  intro G s x y Q S ha hb g; cases ha; cases hb
  exact _root_.PyProof.Rows.lshift_int_small h0 h1 h2 (g.here S _ (VR.int _ _))
theorem OpB.and_int {a b : Int} : OpB prog w A .BitAnd (.int a) (.int b) (.int (Builtin.bitAnd a b)) := by
  intro G s x y Q S ha hb g; cases ha; cases hb
  exact _root_.PyProof.Rows.and_int (g.here S _ (VR.int _ _))
theorem OpB.add_str {a b : Str} (h : a.length + b.length ≤ sizeLine) : OpB prog w A .Add (.str a) (.str b) (.str (a ++ b)) := by
  intro G s x y Q S ha hb g; cases ha; cases hb
  exact _root_.PyProof.Rows.add_str (fun t tk => g.here S _ (VR.str _ _)) h
theorem OpB.add_bytes {a b : Array UInt8} (h : a.size + b.size ≤ 16777216) : OpB prog w A .Add (.bytes a) (.bytes b) (.bytes (a ++ b)) := by
  intro G s x y Q S ha hb g; cases ha; cases hb
  exact KBy.add_bytes h (fun t tk => g.here S _ (VR.bytes _ _))
theorem OpU.neg_int {a : Int} : OpU prog w A .USub (.int a) (.int (-a)) := by
  intro G s x Q S ha g; cases ha
  exact _root_.PyProof.Rows.neg_int (g.here S _ (VR.int _ _))
theorem OpC.lt_int {a b : Int} : OpC prog w A .Lt (.int a) (.int b) (.bool (decide (a < b))) := by
  intro G s x y Q S ha hb g; cases ha; cases hb
  exact P.lt_int (g.here S s.toks (VR.bool _))
theorem OpC.gt_int {a b : Int} : OpC prog w A .Gt (.int a) (.int b) (.bool (decide (a > b))) := by
  intro G s x y Q S ha hb g; cases ha; cases hb
  exact P.gt_int (g.here S s.toks (VR.bool _))
theorem OpC.eq_int {a b : Int} : OpC prog w A .Eq (.int a) (.int b) (.bool (a == b)) := by
  intro G s x y Q S ha hb g; cases ha; cases hb
  exact _root_.PyProof.Rows.eq_int (g.here S s.toks (VR.bool _))
theorem OpC.ne_int {a b : Int} : OpC prog w A .NotEq (.int a) (.int b) (.bool (a != b)) := by
  intro G s x y Q S ha hb g; cases ha; cases hb
  exact P.ne_int (g.here S s.toks (VR.bool _))
theorem OpC.lt_str {a b : Str} : OpC prog w A .Lt (.str a) (.str b) (.bool (decide (a.cps.toList < b.cps.toList))) := by
  intro G s x y Q S ha hb g; cases ha; cases hb
  exact P.lt_str (g.here S s.toks (VR.bool _))
theorem OpC.gt_str {a b : Str} : OpC prog w A .Gt (.str a) (.str b) (.bool (decide (b.cps.toList < a.cps.toList))) := by
  intro G s x y Q S ha hb g; cases ha; cases hb
  exact P.gt_str (g.here S s.toks (VR.bool _))
theorem OpC.eq_str {a b : Str} : OpC prog w A .Eq (.str a) (.str b) (.bool (a == b)) := by
  intro G s x y Q S ha hb g; cases ha; cases hb
  exact _root_.PyProof.Rows.eq_str (g.here S s.toks (VR.bool _))
theorem OpC.ne_str {a b : Str} : OpC prog w A .NotEq (.str a) (.str b) (.bool (a.cps.toList != b.cps.toList)) := by
  intro G s x y Q S ha hb g; cases ha; cases hb
  exact P.ne_str (g.here S s.toks (VR.bool _))
theorem OpC.is_none_none : OpC prog w A .Is .none .none (.bool true) := by
  intro G s x y Q S ha hb g; cases ha; cases hb
  exact _root_.PyProof.Rows.is_none_none (g.here S s.toks (VR.bool _))
theorem OpC.is_int_none {a : Int} : OpC prog w A .Is (.int a) .none (.bool false) := by
  intro G s x y Q S ha hb g; cases ha; cases hb
  exact _root_.PyProof.Rows.is_int_none (g.here S s.toks (VR.bool _))
theorem OpC.is_ref_none {a : Addr} : OpC prog w A .Is (.val (.ref a)) .none (.bool false) := by
  intro G s x y Q S ha hb g; cases ha; cases hb
  exact _root_.PyProof.Rows.is_ref_none (g.here S s.toks (VR.bool _))
theorem OpT.bool {b : Bool} : OpT prog w A (.bool b) b := by
  intro G s a Q S ha g; cases ha; exact wpAny_truthy_bool (g s.toks)
theorem OpT.int {i : Int} : OpT prog w A (.int i) (i != 0) := by
  intro G s a Q S ha g; cases ha; exact PyProof.Rows.truthy_int (g s.toks)
end
end Mine
end
section
open PySem PySem.W PyProof.Rows PySem.Spec PySem.Calls
set_option maxRecDepth 100000
set_option maxHeartbeats 1000000
namespace Mine

inductive Pv where | frame | cell (x : Str) | own (x : Str)

structure Priv (K G : Reg) (env : Env) (loc : Loc) (h : Heap) (ad : Pv → Option Addr) : Prop where
  frame : ad .frame = some env.locals
  ns : ∃ m, h.Ns env.locals m
  cell : ∀ x, env.kindOf x = some .cell → ∃ c v₀, env.cells.lookup x = some c ∧ ad (.cell x) = some c ∧ h.IsCell c v₀
  own : ∀ x o xs, loc.lookup x = some (.own o xs) → ∃ a n vs, ad (.own x) = some a ∧ Reads env h x (.ref a) ∧ h.get? a = some (listOf (List.toArray vs) n) ∧ VRs G xs vs ∧ ∀ b, o = some b → a = b
  inj : ∀ p q a, ad p = some a → ad q = some a → p = q
  off : ∀ p a, ad p = some a → K a = none ∧ G a = none
  there : ∀ p a, ad p = some a → ∃ o, h.get? a = some o

structure Rep (h₀ : Heap) (K G : Reg) (env : Env) (loc : Loc) (h : Heap) : Prop where
  base : ∀ b o, h₀.get? b = some o → G b = some o
  subK : Sub K h
  sub : Sub G h
  vars : ∀ x p, loc.lookup x = some p → p.pure = true → ∃ v, Reads env h x v ∧ VR G p v
  priv : ∃ ad, Priv K G env loc h ad

theorem Rep.toE {h₀ : Heap} {K G : Reg} {env : Env} {loc : Loc} {h : Heap} (R : Rep h₀ K G env loc h) : RepE h₀ G env loc h :=
  ⟨R.base, R.sub, fun x p e => by
    cases q : p.pure with
    | true => obtain ⟨v, r, vr⟩ := R.vars x p e q; exact ⟨v, r, VRo.of vr⟩
    | false =>
      cases p with
      | own o xs =>
        obtain ⟨ad, P⟩ := R.priv
        obtain ⟨a, n, vs, _, r, ho, hv, hq⟩ := P.own x o xs e
        exact ⟨.ref a, r, a, n, vs, rfl, ho, hv, hq⟩
      | _ => cases q⟩

def PostS (K G G' : Reg) : Prop := RSub G G' ∧ ∀ b o, G' b = some o → G b = some o ∨ K b = none
theorem PostS.refl (K G : Reg) : PostS K G G := ⟨RSub.refl G, fun _ _ e => .inl e⟩
theorem PostS.trans {K G G' G'' : Reg} (a : PostS K G G') (b : PostS K G' G'') : PostS K G G'' :=
  ⟨a.1.trans b.1, fun x o e => by rcases b.2 x o e with q | q; exact a.2 x o q; exact .inr q⟩
theorem PostS.of {K G G' : Reg} {h h' : Heap} (k : Sub K h) (p : Post G h G' h') : PostS K G G' :=
  ⟨p.1, fun b o e => by
    rcases p.2.2.2 b o e with q | q
    · exact .inl q
    · refine .inr ?_
      cases z : K b with
      | none => rfl
      | some o' => rw [k b o' z] at q; cases q⟩

theorem Rep.post {h₀ : Heap} {K G G' : Reg} {env : Env} {loc : Loc} {h h' : Heap} (R : Rep h₀ K G env loc h) (p : Post G h G' h') : Rep h₀ K G' env loc h' := by
  refine ⟨fun b o e => p.1 b o (R.base b o e), fun b o e => p.2.1 b o (R.subK b o e), p.2.2.1, fun x q e hq => ?_, ?_⟩
  · obtain ⟨v, r, vr⟩ := R.vars x q e hq
    exact ⟨v, r.ext p.2.1, VR.mono p.1 vr⟩
  · obtain ⟨ad, P⟩ := R.priv
    refine ⟨ad, P.frame, ?_, ?_, ?_, P.inj, ?_, ?_⟩
    · obtain ⟨m, hm⟩ := P.ns; exact ⟨m, hm.keeps p.2.1⟩
    · intro x hx
      obtain ⟨c, v₀, e1, e2, e3⟩ := P.cell x hx
      exact ⟨c, v₀, e1, e2, e3.keeps p.2.1⟩
    · intro x o xs e
      obtain ⟨a, n, vs, e1, e2, e3, e4, e5⟩ := P.own x o xs e
      exact ⟨a, n, vs, e1, e2.ext p.2.1, p.2.1 _ _ e3, VRs.mono p.1 e4, e5⟩
    · intro q a e
      refine ⟨(P.off q a e).1, ?_⟩
      cases z : G' a with
      | none => rfl
      | some o =>
        rcases p.2.2.2 a o z with y | y
        · rw [(P.off q a e).2] at y; cases y
        · obtain ⟨o', ho'⟩ := P.there q a e; rw [ho'] at y; cases y
    · intro q a e
      obtain ⟨o, ho⟩ := P.there q a e
      exact ⟨o, p.2.1 _ _ ho⟩

/-- the same frame, fewer facts of its names -/
def LSub (l l' : Loc) : Prop := ∀ x p, l.lookup x = some p → l'.lookup x = some p
theorem LSub.refl (l : Loc) : LSub l l := fun _ _ e => e
theorem LSub.nil (l : Loc) : LSub [] l := fun x p e => by simp [List.lookup] at e
theorem LSub.cons {x : Str} {p : PV} {l l' : Loc} (h : l'.lookup x = some p) (r : LSub l l') : LSub ((x, p) :: l) l' := fun y q e => by
  rw [List.lookup_cons] at e
  by_cases hy : (y == x) = true
  · rw [hy] at e; cases e; rw [beq_iff_eq.mp hy]; exact h
  · have hy' : (y == x) = false := by simpa using hy
    rw [hy'] at e; exact r y q e
theorem Rep.less {h₀ : Heap} {K G : Reg} {env : Env} {loc loc' : Loc} {h : Heap} (R : Rep h₀ K G env loc h) (s : LSub loc' loc) : Rep h₀ K G env loc' h := by
  refine ⟨R.base, R.subK, R.sub, fun x p e hp => R.vars x p (s x p e) hp, ?_⟩
  obtain ⟨ad, P⟩ := R.priv
  exact ⟨ad, P.frame, P.ns, P.cell, fun x o xs e => P.own x o xs (s _ _ e), P.inj, P.off, P.there⟩
theorem Rep.lessK {h₀ : Heap} {K K' G : Reg} {env : Env} {loc : Loc} {h : Heap} (R : Rep h₀ K G env loc h) (s : RSub K' K) : Rep h₀ K' G env loc h := by
  refine ⟨R.base, fun b o e => R.subK b o (s b o e), R.sub, R.vars, ?_⟩
  obtain ⟨ad, P⟩ := R.priv
  refine ⟨ad, P.frame, P.ns, P.cell, P.own, P.inj, fun p a e => ⟨?_, (P.off p a e).2⟩, P.there⟩
  cases z : K' a with
  | none => rfl
  | some o => have := s a o z; rw [(P.off p a e).1] at this; cases this

/-- a change at one private place that all else bears -/
theorem Reads.but {env : Env} {h h' : Heap} {b : Addr} (s : ∀ a o, a ≠ b → h.get? a = some o → h'.get? a = some o) {x : Str} {v : Value} (hL : env.locals ≠ b) (hc : ∀ c, env.kindOf x = some .cell → env.cells.lookup x = some c → c ≠ b) (r : Reads env h x v) : Reads env h' x v := by
  rcases r with ⟨k, m, hn, hm⟩ | ⟨k, c, hc', hv⟩
  · exact .inl ⟨k, m, hn.at' fun o e => s _ o hL e, hm⟩
  · obtain ⟨o, ho, hd⟩ := hv
    exact .inr ⟨k, c, hc', o, s _ o (hc c k hc') ho, hd⟩

section
variable {prog : Program} {w : World} {h₀ : Heap} {A : Around} {env : Env}

/-- the store of a pure value in a name -/
theorem Rep.storeP {K G : Reg} {loc : Loc} {s : Shared} {x : Str} {p : PV} {v : Value} {Q : Unit → Shared → Prop} (R : Rep h₀ K G env loc s.heap) (hE : EnvOk env) (hk : env.kindOf x = some .local ∨ env.kindOf x = some .cell)
    (hp : p.pure = true) (hv : VR G p v) (h : ∀ h' tk, Rep h₀ K G env ((x, p) :: loc) h' → Q () { s with heap := h', toks := tk }) : wpAny (model prog w) A (storeName env x v) Q NoE s := by
  obtain ⟨ad, P⟩ := R.priv
  have hLf := P.frame
  have look : ∀ {y q}, ((x, p) :: loc).lookup y = some q → (y = x ∧ q = p) ∨ (y ≠ x ∧ loc.lookup y = some q) := by
    intro y q e
    rw [List.lookup_cons] at e
    by_cases hy : (y == x) = true
    · rw [hy] at e; cases e; exact .inl ⟨beq_iff_eq.mp hy, rfl⟩
    · have hy' : (y == x) = false := by simpa using hy
      rw [hy'] at e; exact .inr ⟨fun z => hy (by simp [z]), e⟩
  have notown : ∀ o xs, p ≠ .own o xs := fun o xs e => by rw [e] at hp; cases hp
  rcases hk with hk | hk
  · obtain ⟨m, hm⟩ := P.ns
    refine wpAny_storeName_local hk hm (fun h' hn hs => h h' _ ?_) (by rw [hE.kind]; rfl)
    have bt : ∀ a o, a ≠ env.locals → s.heap.get? a = some o → h'.get? a = some o := fun a o ne e => (hs.2 a ne).trans e
    have nG : ∀ b o, G b = some o → b ≠ env.locals := fun b o e q => by rw [q, (P.off _ _ hLf).2] at e; cases e
    have nK : ∀ b o, K b = some o → b ≠ env.locals := fun b o e q => by rw [q, (P.off _ _ hLf).1] at e; cases e
    have rd : ∀ y v, y ≠ x → Reads env s.heap y v → Reads env h' y v := fun y u ne r => by
      rcases r with ⟨k, m₂, hn₂, hm₂⟩ | ⟨k, c, hc', hv'⟩
      · refine .inl ⟨k, _, hn, ?_⟩
        have : m y = m₂ y := Heap.Ns.agree hm hn₂ y
        rw [if_neg ne, this, hm₂]
      · obtain ⟨o, ho, hd⟩ := hv'
        obtain ⟨c', v₀, e1, e2, _⟩ := P.cell y k
        rw [hc'] at e1; cases e1
        exact .inr ⟨k, c, hc', o, bt _ o (fun q => by have := P.inj _ _ _ (q ▸ e2) hLf; cases this) ho, hd⟩
    refine ⟨R.base, fun b o e => bt b o (nK b o e) (R.subK b o e), fun b o e => bt b o (nG b o e) (R.sub b o e), fun y q e hq => ?_, ad, hLf, ⟨_, hn⟩, fun y hy => ?_, fun y o xs e => ?_, P.inj, P.off, fun q a e => ?_⟩
    · rcases look e with ⟨rfl, rfl⟩ | ⟨ne, e⟩
      · exact ⟨v, .inl ⟨hk, _, hn, if_pos rfl⟩, hv⟩
      · obtain ⟨u, r, vr⟩ := R.vars y q e hq
        exact ⟨u, rd y u ne r, vr⟩
    · obtain ⟨c, v₀, e1, e2, o, ho, hd⟩ := P.cell y hy
      exact ⟨c, v₀, e1, e2, o, bt _ o (fun q => by have := P.inj _ _ _ (q ▸ e2) hLf; cases this) ho, hd⟩
    · rcases look e with ⟨rfl, e9⟩ | ⟨ne, e⟩
      · exact absurd e9.symm (notown _ xs)
      · obtain ⟨a, n, vs, e1, e2, e3, e4, e5⟩ := P.own y o xs e
        exact ⟨a, n, vs, e1, rd y _ ne e2, bt _ _ (fun q => by have := P.inj _ _ _ (q ▸ e1) hLf; cases this) e3, e4, e5⟩
    · by_cases ne : a = env.locals
      · subst ne; obtain ⟨o, _, _, ho, _⟩ := hn; exact ⟨o, ho⟩
      · obtain ⟨o, ho⟩ := P.there q a e; exact ⟨o, bt _ o ne ho⟩
  · obtain ⟨c, v₀, hc, hac, hcell⟩ := P.cell x hk
    refine wpAny_storeName_cell hE.kind hk hc hcell fun h' hv' hs => h h' s.toks ?_
    have bt : ∀ a o, a ≠ c → s.heap.get? a = some o → h'.get? a = some o := fun a o ne e => (hs.2 a ne).trans e
    have nG : ∀ b o, G b = some o → b ≠ c := fun b o e q => by rw [q, (P.off _ _ hac).2] at e; cases e
    have nK : ∀ b o, K b = some o → b ≠ c := fun b o e q => by rw [q, (P.off _ _ hac).1] at e; cases e
    have nL : env.locals ≠ c := fun q => by have := P.inj _ _ _ hLf (q ▸ hac); cases this
    have nC : ∀ y c', y ≠ x → env.kindOf y = some .cell → env.cells.lookup y = some c' → c' ≠ c := fun y c' ne k e q => by
      obtain ⟨c'', _, e1, e2, _⟩ := P.cell y k
      rw [e] at e1; cases e1
      have := P.inj _ _ _ (q ▸ e2) hac; cases this; exact ne rfl
    have rd : ∀ y v, y ≠ x → Reads env s.heap y v → Reads env h' y v := fun y u ne r => r.but bt nL fun c' k e => nC y c' ne k e
    refine ⟨R.base, fun b o e => bt b o (nK b o e) (R.subK b o e), fun b o e => bt b o (nG b o e) (R.sub b o e), fun y q e hq => ?_, ad, hLf, ?_, fun y hy => ?_, fun y o xs e => ?_, P.inj, P.off, fun q a e => ?_⟩
    · rcases look e with ⟨rfl, rfl⟩ | ⟨ne, e⟩
      · exact ⟨v, .inr ⟨hk, c, hc, hv'⟩, hv⟩
      · obtain ⟨u, r, vr⟩ := R.vars y q e hq
        exact ⟨u, rd y u ne r, vr⟩
    · obtain ⟨m, hm⟩ := P.ns; exact ⟨m, hm.at' fun o e => bt _ o nL e⟩
    · by_cases ne : y = x
      · subst ne; exact ⟨c, _, hc, hac, hv'⟩
      · obtain ⟨c', v₁, e1, e2, o, ho, hd⟩ := P.cell y hy
        exact ⟨c', v₁, e1, e2, o, bt _ o (nC y c' ne hy e1) ho, hd⟩
    · rcases look e with ⟨rfl, e9⟩ | ⟨ne, e⟩
      · exact absurd e9.symm (notown _ xs)
      · obtain ⟨a, n, vs, e1, e2, e3, e4, e5⟩ := P.own y o xs e
        exact ⟨a, n, vs, e1, rd y _ ne e2, bt _ _ (fun q => by have := P.inj _ _ _ (q ▸ e1) hac; cases this) e3, e4, e5⟩
    · by_cases ne : a = c
      · subst ne; obtain ⟨o, ho, _⟩ := hv'; exact ⟨o, ho⟩
      · obtain ⟨o, ho⟩ := P.there q a e; exact ⟨o, bt _ o ne ho⟩
end
end Mine
end
section
open PySem PySem.W PyProof.Rows PySem.Spec PySem.Calls
set_option maxRecDepth 100000
set_option maxHeartbeats 1000000
namespace Mine

inductive PR where | next | brk | cont | ret (p : PV)
def FR (G : Reg) : PR → Flow → Prop
  | .next, .next => True
  | .brk, .brk => True
  | .cont, .cont => True
  | .ret p, .ret v => VR G p v
  | _, _ => False

section
variable {prog : Program} {w : World} {h₀ : Heap} {A : Around} {env : Env} {loc : Loc}

def Ex (prog : Program) (w : World) (h₀ : Heap) (A : Around) (env : Env) (loc : Loc) (st : Stmt) (r : PR) (loc' : Loc) : Prop :=
  ∀ K G s (Q : Flow → Shared → Prop), Rep h₀ K G env loc s.heap → (∀ G' h' tk f, Rep h₀ K G' env loc' h' → PostS K G G' → FR G' r f → Q f { s with heap := h', toks := tk }) → wpAny (model prog w) A (exec st env) Q NoE s
def Exs (prog : Program) (w : World) (h₀ : Heap) (A : Around) (env : Env) (loc : Loc) (sts : List Stmt) (r : PR) (loc' : Loc) : Prop :=
  ∀ K G s (Q : Flow → Shared → Prop), Rep h₀ K G env loc s.heap → (∀ G' h' tk f, Rep h₀ K G' env loc' h' → PostS K G G' → FR G' r f → Q f { s with heap := h', toks := tk }) → wpAny (model prog w) A (execs sts env) Q NoE s

theorem Exs.nil : Exs prog w h₀ A env loc [] .next loc := fun K G s _ R g => wpAny_execs_nil (g G s.heap s.toks .next R (PostS.refl K G) trivial)
theorem Exs.cons {loc₁ loc' : Loc} {st : Stmt} {rest : List Stmt} {r : PR} (h1 : Ex prog w h₀ A env loc st .next loc₁) (h2 : Exs prog w h₀ A env loc₁ rest r loc') : Exs prog w h₀ A env loc (st :: rest) r loc' := by
  intro K G s Q R g
  refine wpAny_execs_cons (h1 K G s _ R fun G₁ s₁ t₁ f R₁ k₁ hf => ?_)
  cases f with
  | next => exact h2 K G₁ _ Q R₁ fun G₂ s₂ t₂ f₂ R₂ k₂ hf₂ => g G₂ s₂ t₂ f₂ R₂ (k₁.trans k₂) hf₂
  | _ => cases hf
def PR.isNext : PR → Bool
  | .next => true
  | _ => false
theorem Exs.stop {loc' : Loc} {st : Stmt} {rest : List Stmt} {r : PR} (h1 : Ex prog w h₀ A env loc st r loc') (hr : r.isNext = false := by rfl) : Exs prog w h₀ A env loc (st :: rest) r loc' := by
  intro K G s Q R g
  refine wpAny_execs_cons (h1 K G s _ R fun G₁ s₁ t₁ f R₁ k₁ hf => ?_)
  cases f with
  | next => cases r with
    | next => cases hr
    | _ => exact hf.elim
  | _ => exact g G₁ s₁ t₁ _ R₁ k₁ hf
theorem Exs.less {loc₀ loc' loc₁ : Loc} {sts : List Stmt} {r : PR} (h : Exs prog w h₀ A env loc₀ sts r loc₁) (a : LSub loc₀ loc) (b : LSub loc' loc₁) : Exs prog w h₀ A env loc sts r loc' :=
  fun K G s _ R g => h K G s _ (R.less a) fun G₁ s₁ t₁ f R₁ k₁ hf => g G₁ s₁ t₁ f (R₁.less b) k₁ hf
theorem Ex.less {loc₀ loc' loc₁ : Loc} {st : Stmt} {r : PR} (h : Ex prog w h₀ A env loc₀ st r loc₁) (a : LSub loc₀ loc) (b : LSub loc' loc₁) : Ex prog w h₀ A env loc st r loc' :=
  fun K G s _ R g => h K G s _ (R.less a) fun G₁ s₁ t₁ f R₁ k₁ hf => g G₁ s₁ t₁ f (R₁.less b) k₁ hf

theorem Ex.assign {x : Str} {pos pos' : Pos} {e : Expr} {p : PV} (he : Ev prog w h₀ A env loc e p) (hE : EnvOk env) (hp : p.pure = true) (hk : env.kindOf x = some .local ∨ env.kindOf x = some .cell)
    (hsw : swapsWith e (some (.Name x pos')) pos.line env = Pure.pure false := by rfl) : Ex prog w h₀ A env loc (.Assign [.Name x pos'] e pos) .next ((x, p) :: loc) := by
  intro K G s Q R g
  refine wpAny_Assign_Name (he G s _ R.toE fun G₁ h₁ t₁ v k₁ hv => ?_) hsw
  refine (R.post k₁).storeP (s := { s with heap := h₁, toks := t₁ }) hE hk hp (hv.vr hp) fun h' tk R' => ?_
  exact g G₁ h' tk .next R' (PostS.of R.subK k₁) trivial
theorem Ex.if_tt {t : Expr} {b o : List Stmt} {pos : Pos} {r : PR} {loc' : Loc} (ht : EvT prog w h₀ A env loc t true) (hb : Exs prog w h₀ A env loc b r loc') : Ex prog w h₀ A env loc (.If t b o pos) r loc' := by
  intro K G s Q R g
  refine wpAny_If (ht G s _ R.toE fun G₁ h₁ t₁ k₁ => ?_)
  rw [if_pos rfl]
  exact hb K G₁ _ Q (R.post k₁) fun G₂ s₂ t₂ f₂ R₂ k₂ hf₂ => g G₂ s₂ t₂ f₂ R₂ ((PostS.of R.subK k₁).trans k₂) hf₂
theorem Ex.if_ff {t : Expr} {b o : List Stmt} {pos : Pos} {r : PR} {loc' : Loc} (ht : EvT prog w h₀ A env loc t false) (ho : Exs prog w h₀ A env loc o r loc') : Ex prog w h₀ A env loc (.If t b o pos) r loc' := by
  intro K G s Q R g
  refine wpAny_If (ht G s _ R.toE fun G₁ h₁ t₁ k₁ => ?_)
  rw [if_neg (by decide)]
  exact ho K G₁ _ Q (R.post k₁) fun G₂ s₂ t₂ f₂ R₂ k₂ hf₂ => g G₂ s₂ t₂ f₂ R₂ ((PostS.of R.subK k₁).trans k₂) hf₂
theorem Ex.ret {e : Expr} {pos : Pos} {p : PV} (he : Ev prog w h₀ A env loc e p) (hp : p.pure = true) : Ex prog w h₀ A env loc (.Return (some e) pos) (.ret p) loc := by
  intro K G s Q R g
  exact wpAny_Return_some (he G s _ R.toE fun G₁ h₁ t₁ v k₁ hv => g G₁ h₁ t₁ (.ret v) (R.post k₁) (PostS.of R.subK k₁) (hv.vr hp))
theorem Ex.brk {pos : Pos} : Ex prog w h₀ A env loc (.Break pos) .brk loc := fun K G s _ R g => wpAny_Break (g G s.heap s.toks .brk R (PostS.refl K G) trivial)
theorem Ex.aug {x : Str} {pos pos' : Pos} {op : Operator} {e : Expr} {p q o : PV} (hl : loc.lookup x = some p) (he : Ev prog w h₀ A env loc e q) (hE : EnvOk env) (ho : o.pure = true) (hk : env.kindOf x = some .local ∨ env.kindOf x = some .cell)
    (hop : ∀ G s a b Q, Sub G s.heap → VRo G s.heap p a → VRo G s.heap q b → Gives G s o Q → wpAny (model prog w) A (inplaceOp op a b) Q NoE s) :
    Ex prog w h₀ A env loc (.AugAssign (.Name x pos') op e pos) .next ((x, o) :: loc) := by
  intro K G s Q R g
  refine wpAny_AugAssign_Name ?_
  obtain ⟨v, r, vr⟩ := R.toE.vars x p hl
  have go : wpAny (model prog w) A (eval e env) (fun b s₂ => wpAny (model prog w) A (inplaceOp op v b) (fun r s₃ => wpAny (model prog w) A (storeName env x r) (fun _ => Q .next) NoE s₃) NoE s₂) NoE s := by
    refine he G s _ R.toE fun G₁ h₁ t₁ b k₁ hb => ?_
    refine hop G₁ _ v b _ k₁.2.2.1 (vr.mono k₁.1 k₁.2.1) hb fun G₂ h₂ t₂ c k₂ hc => ?_
    refine ((R.post k₁).post k₂).storeP (s := { s with heap := h₂, toks := t₂ }) hE hk ho (hc.vr ho) fun h' tk R' => ?_
    exact g G₂ h' tk .next R' (PostS.of R.subK (k₁.trans k₂)) trivial
  rcases r with ⟨k, m, hn, hm⟩ | ⟨k, c, hc, hv⟩
  · exact wpAny_loadName_local hE.kind k hn hm go
  · exact wpAny_loadName_cell hE.kind k hc hv go
theorem aug_xor {a b : Int} : ∀ G (s : Shared) x y Q, Sub G s.heap → VRo G s.heap (.int a) x → VRo G s.heap (.int b) y → Gives G s (.int (Builtin.bitXor a b)) Q → wpAny (model prog w) A (inplaceOp .BitXor x y) Q NoE s := by
  intro G s x y Q S ha hb g; cases ha; cases hb
  exact _root_.PyProof.Rows.ixor_int (g.here S _ (VR.int _ _))

-- while
inductive WhS (prog : Program) (w : World) (h₀ : Heap) (A : Around) (env : Env) (test : Expr) (body orelse : List Stmt) : Loc → PR → Loc → Prop
  | done {loc loc' : Loc} {r : PR} : EvT prog w h₀ A env loc test false → Exs prog w h₀ A env loc orelse r loc' → WhS prog w h₀ A env test body orelse loc r loc'
  | turn {loc loc₁ loc' : Loc} {r : PR} : EvT prog w h₀ A env loc test true → Exs prog w h₀ A env loc body .next loc₁ → WhS prog w h₀ A env test body orelse loc₁ r loc' → WhS prog w h₀ A env test body orelse loc r loc'
  | ret {loc loc' : Loc} {p : PV} : EvT prog w h₀ A env loc test true → Exs prog w h₀ A env loc body (.ret p) loc' → WhS prog w h₀ A env test body orelse loc (.ret p) loc'

theorem WhS.code {test : Expr} {body orelse : List Stmt} {r : PR} {loc' : Loc} (W : WhS prog w h₀ A env test body orelse loc r loc') : ∀ K G s (Q : Flow → Shared → Prop), Rep h₀ K G env loc s.heap →
    (∀ G' h' tk f, Rep h₀ K G' env loc' h' → PostS K G G' → FR G' r f → Q f { s with heap := h', toks := tk }) → WhlRest prog w A NoE env test body orelse Q 0 s := by
  induction W with
  | done ht ho =>
    intro K G s Q R g
    refine whl_turn (k := 0) passes_no (ht G s _ R.toE fun G₁ h₁ t₁ k₁ => WhlIf.no rfl ?_)
    exact ho K G₁ _ Q (R.post k₁) fun G₂ s₂ t₂ f₂ R₂ k₂ hf₂ => g G₂ s₂ t₂ f₂ R₂ ((PostS.of R.subK k₁).trans k₂) hf₂
  | turn ht hb _ ih =>
    intro K G s Q R g
    refine whl_turn (k := 0) passes_no (ht G s _ R.toE fun G₁ h₁ t₁ k₁ => WhlIf.yes rfl ?_)
    refine hb K G₁ _ _ (R.post k₁) fun G₂ s₂ t₂ f₂ R₂ k₂ hf₂ => ?_
    cases f₂ with
    | next => exact ih K G₂ _ Q R₂ fun G₃ s₃ t₃ f₃ R₃ k₃ hf₃ => g G₃ s₃ t₃ f₃ R₃ (((PostS.of R.subK k₁).trans k₂).trans k₃) hf₃
    | _ => cases hf₂
  | ret ht hb =>
    intro K G s Q R g
    refine whl_turn (k := 0) passes_no (ht G s _ R.toE fun G₁ h₁ t₁ k₁ => WhlIf.yes rfl ?_)
    refine hb K G₁ _ _ (R.post k₁) fun G₂ s₂ t₂ f₂ R₂ k₂ hf₂ => ?_
    cases f₂ with
    | ret v => exact g G₂ s₂ t₂ (.ret v) R₂ ((PostS.of R.subK k₁).trans k₂) hf₂
    | _ => cases hf₂
theorem Ex.while_ {test : Expr} {body orelse : List Stmt} {pos : Pos} {r : PR} {loc' : Loc} (W : WhS prog w h₀ A env test body orelse loc r loc') : Ex prog w h₀ A env loc (.While test body orelse pos) r loc' :=
  fun K G s Q R g => whl_start 0 (W.code K G s Q R g)

-- for
/-- the items that an iterator is still to hand out -/
def IterOk (prog : Program) (w : World) (A : Around) (G : Reg) (I : Addr) : List PV → Obj → Prop
  | [], o => ∀ s (Q : Option Value → Shared → Prop), Sub G s.heap → s.heap.get? I = some o → (∀ h' tk, Heap.ExtBut I s.heap h' → Q none { s with heap := h', toks := tk }) → wpAny (model prog w) A (pyNext (.ref I)) Q NoE s
  | p :: ps, o => ∀ s (Q : Option Value → Shared → Prop), Sub G s.heap → s.heap.get? I = some o →
      (∀ h' tk v o', Heap.ExtBut I s.heap h' → h'.get? I = some o' → VR G p v → IterOk prog w A G I ps o' → Q (some v) { s with heap := h', toks := tk }) → wpAny (model prog w) A (pyNext (.ref I)) Q NoE s
theorem IterOk.mono {G G' : Reg} {I : Addr} (k : RSub G G') : ∀ {ps : List PV} {o : Obj}, IterOk prog w A G I ps o → IterOk prog w A G' I ps o
  | [], _, h => fun s Q S ho g => h s Q (fun b o e => S b o (k b o e)) ho g
  | _ :: _, _, h => fun s Q S ho g => h s Q (fun b o e => S b o (k b o e)) ho fun h' tk v o' e1 e2 e3 e4 => g h' tk v o' e1 e2 (VR.mono k e3) (IterOk.mono k e4)

def EvI (prog : Program) (w : World) (h₀ : Heap) (A : Around) (env : Env) (loc : Loc) (e : Expr) (ps : List PV) : Prop :=
  ∀ G s (Q : Value → Shared → Prop), RepE h₀ G env loc s.heap →
    (∀ G' h' tk I o, Post G s.heap G' h' → h'.get? I = some o → s.heap.get? I = none → G' I = none → IterOk prog w A G' I ps o → Q (.ref I) { s with heap := h', toks := tk }) →
    wpAny (model prog w) A (eval e env) (fun x s₁ => wpAny (model prog w) A (pyIter x) Q NoE s₁) NoE s

inductive ForS (prog : Program) (w : World) (h₀ : Heap) (A : Around) (env : Env) (x : Str) (body orelse : List Stmt) : Loc → List PV → PR → Loc → Prop
  | done {loc loc' : Loc} {r : PR} : Exs prog w h₀ A env loc orelse r loc' → ForS prog w h₀ A env x body orelse loc [] r loc'
  | turn {loc loc₁ loc' : Loc} {p : PV} {ps : List PV} {r : PR} : p.pure = true → Exs prog w h₀ A env ((x, p) :: loc) body .next loc₁ → ForS prog w h₀ A env x body orelse loc₁ ps r loc' → ForS prog w h₀ A env x body orelse loc (p :: ps) r loc'
  | brk {loc loc' : Loc} {p : PV} {ps : List PV} : p.pure = true → Exs prog w h₀ A env ((x, p) :: loc) body .brk loc' → ForS prog w h₀ A env x body orelse loc (p :: ps) .next loc'
  | ret {loc loc' : Loc} {p q : PV} {ps : List PV} : p.pure = true → Exs prog w h₀ A env ((x, p) :: loc) body (.ret q) loc' → ForS prog w h₀ A env x body orelse loc (p :: ps) (.ret q) loc'

def Reg.put (K : Reg) (I : Addr) (o : Obj) : Reg := fun b => if b = I then some o else K b
theorem Rep.bump {K G : Reg} {h h' : Heap} {I : Addr} {o o' : Obj} (R : Rep h₀ (Reg.put K I o) G env loc h) (hG : G I = none) (e : Heap.ExtBut I h h') (ho : h'.get? I = some o') : Rep h₀ (Reg.put K I o') G env loc h' := by
  obtain ⟨ad, P⟩ := R.priv
  have off : ∀ p a, ad p = some a → a ≠ I := fun p a q z => by have := (P.off p a q).1; rw [z] at this; simp [Reg.put] at this
  have bt : ∀ a o, a ≠ I → h.get? a = some o → h'.get? a = some o := fun a o ne q => e a o ne q
  have nG : ∀ b o, G b = some o → b ≠ I := fun b o q z => by rw [z, hG] at q; cases q
  have rd : ∀ y v, Reads env h y v → Reads env h' y v := fun y v r => r.but bt (off _ _ P.frame) fun c k q => by
    obtain ⟨c', _, e1, e2, _⟩ := P.cell y k
    rw [q] at e1; cases e1; exact off _ _ e2
  refine ⟨R.base, fun b q z => ?_, fun b q z => bt b q (nG b q z) (R.sub b q z), fun x p z hp => ?_, ad, P.frame, ?_, ?_, ?_, P.inj, ?_, ?_⟩
  · by_cases hb : b = I
    · subst hb; simp [Reg.put] at z; subst z; exact ho
    · have z' : (Reg.put K I o) b = some q := by simp [Reg.put, hb] at z ⊢; exact z
      exact bt b q hb (R.subK b q z')
  · obtain ⟨v, r, vr⟩ := R.vars x p z hp; exact ⟨v, rd x v r, vr⟩
  · obtain ⟨m, hm⟩ := P.ns; exact ⟨m, hm.at' fun q z => bt _ q (off _ _ P.frame) z⟩
  · intro x hx
    obtain ⟨c, v₀, e1, e2, q, hq, hd⟩ := P.cell x hx
    exact ⟨c, v₀, e1, e2, q, bt _ q (off _ _ e2) hq, hd⟩
  · intro x o xs z
    obtain ⟨a, n, vs, e1, e2, e3, e4, e5⟩ := P.own x o xs z
    exact ⟨a, n, vs, e1, rd x _ e2, bt _ _ (off _ _ e1) e3, e4, e5⟩
  · intro p a z
    refine ⟨?_, (P.off p a z).2⟩
    have := (P.off p a z).1
    simp [Reg.put, off p a z] at this ⊢; exact this
  · intro p a z
    obtain ⟨q, hq⟩ := P.there p a z; exact ⟨q, bt _ q (off p a z) hq⟩
theorem Rep.putK {K G : Reg} {h : Heap} {I : Addr} {o : Obj} (R : Rep h₀ K G env loc h) (ho : h.get? I = some o) (hp : ∀ ad, Priv K G env loc h ad → ∀ p, ad p ≠ some I) : Rep h₀ (Reg.put K I o) G env loc h := by
  obtain ⟨ad, P⟩ := R.priv
  refine ⟨R.base, fun b q z => ?_, R.sub, R.vars, ad, P.frame, P.ns, P.cell, P.own, P.inj, fun p a z => ⟨?_, (P.off p a z).2⟩, P.there⟩
  · by_cases hb : b = I
    · subst hb; simp [Reg.put] at z; subst z; exact ho
    · simp [Reg.put, hb] at z; exact R.subK b q z
  · have : a ≠ I := fun q => hp ad P p (q ▸ z)
    simp [Reg.put, this]; exact (P.off p a z).1
theorem sub_put {K : Reg} {I : Addr} {o : Obj} (hK : K I = none) : RSub K (Reg.put K I o) := fun b q z => by
  by_cases hb : b = I
  · subst hb; rw [hK] at z; cases z
  · simp [Reg.put, hb]; exact z
theorem PostS.put {K G G' : Reg} {I : Addr} {o : Obj} (h : PostS (Reg.put K I o) G G') (hK : K I = none) : PostS K G G' := ⟨h.1, fun b q z => by
  rcases h.2 b q z with y | y
  · exact .inl y
  · refine .inr ?_
    by_cases hb : b = I
    · subst hb; exact hK
    · simp [Reg.put, hb] at y; exact y⟩
theorem PostS.putG {K G G' : Reg} {I : Addr} {o : Obj} (h : PostS (Reg.put K I o) G G') (hG : G I = none) : G' I = none := by
  cases z : G' I with
  | none => rfl
  | some q =>
    rcases h.2 I q z with y | y
    · rw [hG] at y; cases y
    · simp [Reg.put] at y

theorem wpAny_pyNext_no {M : Model} {I : Addr} {Q : Option Value → Shared → Prop} {E : Value → Shared → Prop} {s : Shared} (h : wpAny M A (pyNext (.ref I)) Q NoE s) : wpAny M A (pyNext (.ref I)) Q E s := wp_no h

theorem ForS.code {x : Str} {body orelse : List Stmt} {px : Pos} (hE : EnvOk env) (hk : env.kindOf x = some .local ∨ env.kindOf x = some .cell) {I : Addr} {items : List PV} {r : PR} {loc' : Loc} (F : ForS prog w h₀ A env x body orelse loc items r loc') :
    ∀ K G s (Q : Flow → Shared → Prop) o, Rep h₀ (Reg.put K I o) G env loc s.heap → K I = none → G I = none → IterOk prog w A G I items o →
    (∀ G' h' tk f, Rep h₀ K G' env loc' h' → PostS K G G' → FR G' r f → Q f { s with heap := h', toks := tk }) →
    codeAny (model prog w) A (.forLoop (.Name x px) (.ref I) body orelse env) (fun r s' => match r with | .ok f => Q f s' | .error e => cameBackBy (model prog w) A env NoE e s') s := by
  intro K G s Q o R hK hG hI g
  refine codeAny_forLoop (I := fun n s' => ∃ loc₁ items₁ o₁ G₁ h₁ t₁, s' = { s with heap := h₁, toks := t₁ } ∧ n = items₁.length ∧ ForS prog w h₀ A env x body orelse loc₁ items₁ r loc' ∧ Rep h₀ (Reg.put K I o₁) G₁ env loc₁ h₁ ∧ G₁ I = none ∧ IterOk prog w A G₁ I items₁ o₁ ∧ PostS K G G₁)
    ?_ items.length ⟨loc, items, o, G, s.heap, s.toks, rfl, rfl, F, R, hG, hI, PostS.refl K G⟩ (by intro _; rfl)
  rintro n s' ⟨loc₁, items₁, o₁, G₁, h₁, t₁, rfl, rfl, F₁, R₁, hG₁, hI₁, k₁⟩
  have hthere : h₁.get? I = some o₁ := R₁.subK I o₁ (by simp [Reg.put])
  cases F₁ with
  | done ho =>
    refine wp_no (hI₁ _ _ R₁.sub hthere fun h' tk he => ?_)
    refine wp_no (ho K G₁ _ _ ?_ fun G₂ s₂ t₂ f₂ R₂ k₂ hf₂ => g G₂ s₂ t₂ f₂ R₂ (k₁.trans k₂) hf₂)
    -- the iterator is let go
    show Rep h₀ K G₁ env loc₁ h'
    obtain ⟨ad, P⟩ := R₁.priv
    have off : ∀ p a, ad p = some a → a ≠ I := fun p a q z => by have := (P.off p a q).1; rw [z] at this; simp [Reg.put] at this
    have nG : ∀ b o, G₁ b = some o → b ≠ I := fun b o q z => by rw [z, hG₁] at q; cases q
    have nK : ∀ b o, K b = some o → b ≠ I := fun b o q z => by rw [z, hK] at q; cases q
    have rd : ∀ y v, Reads env h₁ y v → Reads env h' y v := fun y v r => r.but he (off _ _ P.frame) fun c k q => by
      obtain ⟨c', _, e1, e2, _⟩ := P.cell y k
      rw [q] at e1; cases e1; exact off _ _ e2
    refine ⟨R₁.base, fun b q z => he b q (nK b q z) (R₁.subK b q (sub_put hK b q z)), fun b q z => he b q (nG b q z) (R₁.sub b q z), fun x p z hp => ?_, ad, P.frame, ?_, ?_, ?_, P.inj, ?_, ?_⟩
    · obtain ⟨v, r, vr⟩ := R₁.vars x p z hp; exact ⟨v, rd x v r, vr⟩
    · obtain ⟨m, hm⟩ := P.ns; exact ⟨m, hm.at' fun q z => he _ q (off _ _ P.frame) z⟩
    · intro x hx
      obtain ⟨c, v₀, e1, e2, q, hq, hd⟩ := P.cell x hx
      exact ⟨c, v₀, e1, e2, q, he _ q (off _ _ e2) hq, hd⟩
    · intro x o xs z
      obtain ⟨a, n, vs, e1, e2, e3, e4, e5⟩ := P.own x o xs z
      exact ⟨a, n, vs, e1, rd x _ e2, he _ _ (off _ _ e1) e3, e4, e5⟩
    · intro p a z
      have := (P.off p a z).1
      simp [Reg.put, off p a z] at this
      exact ⟨this, (P.off p a z).2⟩
    · intro p a z
      obtain ⟨q, hq⟩ := P.there p a z; exact ⟨q, he _ q (off p a z) hq⟩
  | @turn _ loc₂ _ p ps _ hp hb hr =>
    refine wp_no (hI₁ _ _ R₁.sub hthere fun h' tk v o' he ho' hv hI' => ?_)
    refine wp_no (wpAny_assign_Name ((R₁.bump hG₁ he ho').storeP (s := { s with heap := h', toks := tk }) hE hk hp hv fun h'' tk'' R₂ => ?_))
    refine wp_no (hb (Reg.put K I o') G₁ _ _ R₂ fun G₃ s₃ t₃ f₃ R₃ k₃ hf₃ => ?_)
    cases f₃ with
    | next => exact ⟨ps.length, by simp, loc₂, ps, o', G₃, s₃, t₃, rfl, rfl, hr, R₃, k₃.putG hG₁, hI'.mono k₃.1, k₁.trans (k₃.put hK)⟩
    | _ => cases hf₃
  | @brk _ _ p ps hp hb =>
    refine wp_no (hI₁ _ _ R₁.sub hthere fun h' tk v o' he ho' hv hI' => ?_)
    refine wp_no (wpAny_assign_Name ((R₁.bump hG₁ he ho').storeP (s := { s with heap := h', toks := tk }) hE hk hp hv fun h'' tk'' R₂ => ?_))
    refine wp_no (hb (Reg.put K I o') G₁ _ _ R₂ fun G₃ s₃ t₃ f₃ R₃ k₃ hf₃ => ?_)
    cases f₃ with
    | brk => exact g G₃ s₃ t₃ .next (R₃.lessK (sub_put hK)) (k₁.trans (k₃.put hK)) trivial
    | _ => cases hf₃
  | @ret _ _ p q ps hp hb =>
    refine wp_no (hI₁ _ _ R₁.sub hthere fun h' tk v o' he ho' hv hI' => ?_)
    refine wp_no (wpAny_assign_Name ((R₁.bump hG₁ he ho').storeP (s := { s with heap := h', toks := tk }) hE hk hp hv fun h'' tk'' R₂ => ?_))
    refine wp_no (hb (Reg.put K I o') G₁ _ _ R₂ fun G₃ s₃ t₃ f₃ R₃ k₃ hf₃ => ?_)
    cases f₃ with
    | ret u => exact g G₃ s₃ t₃ (.ret u) (R₃.lessK (sub_put hK)) (k₁.trans (k₃.put hK)) hf₃
    | _ => cases hf₃
theorem Ex.for_ {x : Str} {iter : Expr} {body orelse : List Stmt} {px pos : Pos} {items : List PV} {r : PR} {loc' : Loc} (hi : EvI prog w h₀ A env loc iter items) (hE : EnvOk env) (hk : env.kindOf x = some .local ∨ env.kindOf x = some .cell)
    (F : ForS prog w h₀ A env x body orelse loc items r loc') (hs : ∀ x, foldedSetIterable iter env x = pure x := by intro _; rfl) : Ex prog w h₀ A env loc (.For (.Name x px) iter body orelse pos) r loc' := by
  intro K G s Q R g
  refine wpAny_For (hi G s _ R.toE fun G' h' tk I o k hI hn hG ho => ?_) hs
  have hK : K I = none := by
    cases z : K I with
    | none => rfl
    | some q => rw [R.subK I q z] at hn; cases hn
  have R' := R.post k
  have R'' : Rep h₀ (Reg.put K I o) G' env loc h' := by
    obtain ⟨ad, P⟩ := R.priv
    obtain ⟨b1, b2, b3, b4, ad', P'⟩ := R'
    -- the private places stood before the iterator was made
    have Rn := R.post k
    have Pn : Priv K G' env loc h' ad := by
      refine ⟨P.frame, ?_, ?_, ?_, P.inj, ?_, ?_⟩
      · obtain ⟨m, hm⟩ := P.ns; exact ⟨m, hm.keeps k.2.1⟩
      · intro x hx
        obtain ⟨c, v₀, e1, e2, e3⟩ := P.cell x hx
        exact ⟨c, v₀, e1, e2, e3.keeps k.2.1⟩
      · intro x o xs e
        obtain ⟨a, n, vs, e1, e2, e3, e4, e5⟩ := P.own x o xs e
        exact ⟨a, n, vs, e1, e2.ext k.2.1, k.2.1 _ _ e3, VRs.mono k.1 e4, e5⟩
      · intro q a e
        refine ⟨(P.off q a e).1, ?_⟩
        cases z : G' a with
        | none => rfl
        | some o =>
          rcases k.2.2.2 a o z with y | y
          · rw [(P.off q a e).2] at y; cases y
          · obtain ⟨o', ho'⟩ := P.there q a e; rw [ho'] at y; cases y
      · intro q a e
        obtain ⟨o, ho⟩ := P.there q a e
        exact ⟨o, k.2.1 _ _ ho⟩
    refine ⟨b1, fun b q z => ?_, b3, b4, ad, Pn.frame, Pn.ns, Pn.cell, Pn.own, Pn.inj, fun p a z => ⟨?_, (Pn.off p a z).2⟩, Pn.there⟩
    · by_cases hb : b = I
      · subst hb; simp [Reg.put] at z; subst z; exact hI
      · simp [Reg.put, hb] at z; exact b2 b q z
    · have : a ≠ I := fun q => by
        obtain ⟨o', ho'⟩ := P.there p a z; rw [q, hn] at ho'; cases ho'
      simp [Reg.put, this]; exact (Pn.off p a z).1
  exact F.code hE hk K G' _ Q o R'' hK hG ho fun G₂ s₂ t₂ f₂ R₂ k₂ hf₂ => g G₂ s₂ t₂ f₂ R₂ ((PostS.of R.subK k).trans k₂) hf₂
end
end Mine
end
section
open PySem PySem.W PyProof.Rows PySem.Spec PySem.Calls
set_option maxRecDepth 100000
set_option maxHeartbeats 1000000
namespace Mine

inductive VRos (G : Reg) (h : Heap) : List PV → List Value → Prop
  | nil : VRos G h [] []
  | cons {p : PV} {v : Value} {ps : List PV} {vs : List Value} (a : VRo G h p v) (r : VRos G h ps vs) : VRos G h (p :: ps) (v :: vs)
theorem VRos.mono {G G' : Reg} {h h' : Heap} (k : RSub G G') (e : Ext h h') : ∀ {ps : List PV} {vs : List Value}, VRos G h ps vs → VRos G' h' ps vs
  | _, _, .nil => .nil
  | _, _, .cons a r => .cons (a.mono k e) (r.mono k e)
def allPure : List PV → Bool
  | [] => true
  | p :: r => p.pure && allPure r
theorem VRos.vrs {G : Reg} {h : Heap} : ∀ {ps : List PV} {vs : List Value}, VRos G h ps vs → allPure ps = true → VRs G ps vs
  | _, _, .nil, _ => .nil
  | _, _, .cons a r, e => by
    simp only [allPure, Bool.and_eq_true] at e
    exact .cons (a.vr e.1) (r.vrs e.2)
theorem VRs.pure {G : Reg} : ∀ {ps : List PV} {vs : List Value}, VRs G ps vs → allPure ps = true
  | _, _, .nil => rfl
  | _, _, .cons a r => by
    simp only [allPure, Bool.and_eq_true]
    exact ⟨by cases a <;> rfl, r.pure⟩
/-- an own list read as it stands now -/
def PV.frz : PV → PV
  | .own _ xs => .list xs
  | p => p
def asL : PV → Option (List PV)
  | .own _ xs => some xs
  | .list xs => some xs
  | _ => none
theorem VRo.isL {G : Reg} {h : Heap} (S : Sub G h) {p : PV} {v : Value} {xs : List PV} (x : VRo G h p v) (e : asL p = some xs) : ∃ a n vs, v = .ref a ∧ h.get? a = some (listOf (List.toArray vs) n) ∧ VRs G xs vs := by
  cases p with
  | own o ys => cases e; obtain ⟨a, n, vs, r1, r2, r3, _⟩ := x; exact ⟨a, n, vs, r1, r2, r3⟩
  | list ys =>
    cases e
    cases x with
    | list ho hv => exact ⟨_, _, _, rfl, S _ _ ho, hv⟩
  | _ => cases e
theorem isList_of {h : Heap} {a : Addr} {n : Nat} {its : Array Value} (e : h.get? a = some (listOf its n)) : h.IsList a its := ⟨_, e, rfl, n, rfl⟩

section
variable {prog : Program} {w : World} {h₀ : Heap} {A : Around} {env : Env} {loc : Loc}

def EvArgs (prog : Program) (w : World) (h₀ : Heap) (A : Around) (env : Env) (loc : Loc) (es : List Expr) (ps : List PV) : Prop :=
  ∀ G s pos (Q : List Value → Shared → Prop), RepE h₀ G env loc s.heap → (∀ G' h' tk vs, Post G s.heap G' h' → VRos G' h' ps vs → Q vs { s with heap := h', toks := tk }) →
    wpAny (model prog w) A (spliced (backTo pos (starEach es env))) Q NoE s
theorem EvArgs.nil : EvArgs prog w h₀ A env loc [] [] := fun G s _ _ R g => wpAny_items_nil (g G s.heap s.toks [] (Post.refl R.sub) .nil)
theorem EvArgs.cons {e : Expr} {rest : List Expr} {p : PV} {ps : List PV} (he : Ev prog w h₀ A env loc e p) (hr : EvArgs prog w h₀ A env loc rest ps) (hst : starEach (e :: rest) env = (false, eval e env) :: starEach rest env := by rfl) :
    EvArgs prog w h₀ A env loc (e :: rest) (p :: ps) := by
  intro G s pos Q R g
  refine wpAny_items_cons (he G s _ R fun G₁ h₁ t₁ v k₁ hv => ?_) hst
  refine hr G₁ _ pos _ (R.post k₁) fun G₂ h₂ t₂ vs k₂ hvs => ?_
  exact g G₂ h₂ t₂ (v :: vs) (k₁.trans k₂) (.cons (hv.mono k₂.1 k₂.2.1) hvs)

def OpF (prog : Program) (w : World) (A : Around) (fv : Value) (ps : List PV) (r : PV) : Prop :=
  ∀ G s vs Q, Sub G s.heap → VRos G s.heap ps vs → Gives G s r Q → wpAny (model prog w) A (call fv vs) Q NoE s

theorem Ev.callB {f e : Expr} {rest : List Expr} {pos : Pos} {id : String} {ps : List PV} {r : PV} (hf : Ev prog w h₀ A env loc f (.val (.builtin id))) (ha : EvArgs prog w h₀ A env loc (e :: rest) ps) (ho : OpF prog w A (.builtin id) ps r)
    (hc : eval (.Call f (e :: rest) [] pos) env = (do callWith pos (← eval f env) [] (backTo pos (starEach (e :: rest) env)) (backToKw pos (keywordEach [] env))) := by rfl)
    (hst : starEach (e :: rest) env = (false, eval e env) :: starEach rest env := by rfl) (hns : (backTo pos (starEach rest env)).any (·.1) = false := by rfl) :
    Ev prog w h₀ A env loc (.Call f (e :: rest) [] pos) r := by
  intro G s Q R g
  refine Call_ (hf G s _ R fun G₁ h₁ t₁ v k₁ hv => ?_) hc
  cases hv
  refine PyProof.Rows.callWith_builtin1 (ha G₁ _ pos _ (R.post k₁) fun G₂ h₂ t₂ vs k₂ hvs => ?_) hst hns
  exact ho G₂ _ vs Q k₂.2.2.1 hvs (Gives.post (s := s) g (k₁.trans k₂))
theorem Ev.callT {f e : Expr} {rest : List Expr} {pos : Pos} {id : String} {ps : List PV} {r : PV} (hf : Ev prog w h₀ A env loc f (.val (.type id))) (ha : EvArgs prog w h₀ A env loc (e :: rest) ps) (ho : OpF prog w A (.type id) ps r)
    (hc : eval (.Call f (e :: rest) [] pos) env = (do callWith pos (← eval f env) [] (backTo pos (starEach (e :: rest) env)) (backToKw pos (keywordEach [] env))) := by rfl)
    (hst : starEach (e :: rest) env = (false, eval e env) :: starEach rest env := by rfl) (hns : (backTo pos (starEach rest env)).any (·.1) = false := by rfl) :
    Ev prog w h₀ A env loc (.Call f (e :: rest) [] pos) r := by
  intro G s Q R g
  refine Call_ (hf G s _ R fun G₁ h₁ t₁ v k₁ hv => ?_) hc
  cases hv
  refine PyProof.Rows.callWith_type1 (ha G₁ _ pos _ (R.post k₁) fun G₂ h₂ t₂ vs k₂ hvs => ?_) hst hns
  exact ho G₂ _ vs Q k₂.2.2.1 hvs (Gives.post (s := s) g (k₁.trans k₂))
/-- a method of a built-in type, one argument or more -/
def IsMeth (prog : Program) (w : World) (A : Around) (p : PV) (name : Str) (id : String) : Prop :=
  ∀ G s v pl (Q : Value × List Value → Shared → Prop), Sub G s.heap → VRo G s.heap p v → Q (.builtin id, [v]) s → wpAny (model prog w) A (getMethod v name pl) Q NoE s
theorem Ev.meth {o e : Expr} {rest : List Expr} {name : Str} {apos pos : Pos} {id : String} {p : PV} {ps : List PV} {r : PV} {pl : Sem Bool} (ho : Ev prog w h₀ A env loc o p) (hm : IsMeth prog w A p name id) (ha : EvArgs prog w h₀ A env loc (e :: rest) ps)
    (hf : OpF prog w A (.builtin id) (p :: ps) r)
    (hc : eval (.Call (.Attribute o name apos) (e :: rest) [] pos) env = (do
          let ov ← eval o env
          standAt apos.atName
          let (f, first) ← holding [ov] (getMethod ov name pl)
          callWith pos f first (backTo pos (starEach (e :: rest) env)) []) := by rfl)
    (hst : starEach (e :: rest) env = (false, eval e env) :: starEach rest env := by rfl) (hns : (backTo pos (starEach rest env)).any (·.1) = false := by rfl) :
    Ev prog w h₀ A env loc (.Call (.Attribute o name apos) (e :: rest) [] pos) r := by
  intro G s Q R g
  refine MethodCall_ (pl := pl) (ho G s _ R fun G₁ h₁ t₁ v k₁ hv => ?_) hc
  refine hm G₁ _ v pl _ k₁.2.2.1 hv ?_
  refine PyProof.Rows.callWith_method1 (ha G₁ _ pos _ (R.post k₁) fun G₂ h₂ t₂ vs k₂ hvs => ?_) hst hns
  exact hf G₂ _ (v :: vs) Q k₂.2.2.1 (.cons (hv.mono k₂.1 k₂.2.1) hvs) (Gives.post (s := s) g (k₁.trans k₂))

/-- a new list that all may read: it is frozen at once -/
theorem Gives.fresh {G : Reg} {s : Shared} {xs : List PV} {Q : Value → Shared → Prop} (g : Gives G s (.list xs) Q) (S : Sub G s.heap) {h' : Heap} {a : Addr} {n : Nat} {vs : List Value} {tk : Nat} (e : Ext s.heap h') (hn : s.heap.get? a = none)
    (ho : h'.get? a = some (listOf vs.toArray n)) (hv : VRs G xs vs) : Q (.ref a) { s with heap := h', toks := tk } := by
  have hG : G a = none := by
    cases z : G a with
    | none => rfl
    | some o => rw [S a o z] at hn; cases hn
  have k : RSub G (Reg.put G a (listOf vs.toArray n)) := sub_put hG
  refine g (Reg.put G a (listOf vs.toArray n)) h' tk (.ref a) ⟨k, e, fun b o z => ?_, fun b o z => ?_⟩ (VRo.of (.list (n := n) (by simp [Reg.put]) (VRs.mono k hv)))
  · by_cases hb : b = a
    · subst hb; simp [Reg.put] at z; subst z; exact ho
    · simp [Reg.put, hb] at z; exact e b o (S b o z)
  · by_cases hb : b = a
    · subst hb; exact .inr hn
    · simp [Reg.put, hb] at z; exact .inl z
theorem get_size_none (h : Heap) : h.get? h.objs.size = none := by
  cases e : h.get? h.objs.size with
  | none => rfl
  | some o => exact absurd (Heap.lt_size e) (Nat.lt_irrefl _)
theorem ext_push (h : Heap) (o : Obj) : Ext h (h.push o) := fun _ _ e => Heap.get?_push_of_some o e

theorem Ev.list {elts : List Expr} {pos : Pos} {ps : List PV} (ha : EvArgs prog w h₀ A env loc elts ps) (hp : allPure ps = true) (hz : ps.length ≤ sizeLine) : Ev prog w h₀ A env loc (.List elts pos) (.list ps) := by
  intro G s Q R g
  refine wpAny_List_spliced (ha G s pos _ R fun G₁ h₁ t₁ vs k₁ hvs => ?_)
  have hv := hvs.vrs hp
  refine ⟨by rw [hv.length]; exact hz, ?_⟩
  exact Gives.fresh (Gives.post (s := s) (tk := t₁) g k₁) k₁.2.2.1 (ext_push _ _) (get_size_none _) (Heap.get?_push_size _ rfl) hv

-- len
theorem OpF.len_str {x : Str} (hz : ¬ ((x.length : Int) ≥ 2 ^ 63)) : OpF prog w A (.builtin "len") [.str x] (.int x.length) := by
  intro G s vs Q S hv g
  cases hv with
  | cons a r => cases r; cases a; exact PyProof.Rows.len_str hz (g.here S _ (VR.int _ _))
theorem OpF.len_list {p : PV} {xs : List PV} (e : asL p = some xs) (hz : xs.length < 2 ^ 62) : OpF prog w A (.builtin "len") [p] (.int xs.length) := by
  intro G s vs Q S hv g
  cases hv with
  | cons a r =>
    cases r
    obtain ⟨l, n, us, rfl, ho, hu⟩ := a.isL S e
    have hl := hu.length
    refine Calls.call_len_list (isList_of ho) (by rw [List.size_toArray, hl]; omega) ?_
    rw [List.size_toArray, hl]
    exact g.here S _ (VR.int _ _)

-- items
theorem Ev.item_list {value slice : Expr} {pos : Pos} {p q : PV} {xs : List PV} {i : Int} (hv : Ev prog w h₀ A env loc value p) (hi : Ev prog w h₀ A env loc slice (.int i)) (e : asL p = some xs) (h0 : 0 ≤ i) (h1 : i < 2 ^ 63) (hx : xs[i.toNat]? = some q)
    (hs : ∀ l t, subscripted slice false (.ref l) (.int i t) = operate [.ref l, .int i t] (getItem (.ref l) (.int i t)) := by intros; with_unfolding_all rfl) : Ev prog w h₀ A env loc (.Subscript value slice pos) q := by
  intro G s Q R g
  refine Subscript_ (hv G s _ R fun G₁ h₁ t₁ a k₁ ha => ?_)
  refine hi G₁ _ _ (R.post k₁) fun G₂ h₂ t₂ b k₂ hb => ?_
  obtain ⟨l, n, us, rfl, ho, hu⟩ := (ha.mono k₂.1 k₂.2.1).isL k₂.2.2.1 e
  cases hb
  obtain ⟨u, hu1, hu2⟩ := hu.get hx
  refine tail_any (s := { s with heap := h₂, toks := t₂ }) (isList_of ho).typeIs PySem.F.slot_list_getitem.lookup (wpAny_getItem_list (isList_of ho) h0 h1 (by simpa using hu1) ?_) (hs _ _)
  exact g G₂ h₂ t₂ u (k₁.trans k₂) (VRo.of hu2)
theorem Ev.item_list_neg {value slice : Expr} {pos : Pos} {p q : PV} {xs : List PV} {i : Int} (hv : Ev prog w h₀ A env loc value p) (hi : Ev prog w h₀ A env loc slice (.int i)) (e : asL p = some xs) (h0 : i < 0) (h1 : -(xs.length : Int) ≤ i) (h2 : -2 ^ 63 ≤ i) (hx : xs[(i + xs.length).toNat]? = some q)
    (hs : ∀ l t, subscripted slice false (.ref l) (.int i t) = operate [.ref l, .int i t] (getItem (.ref l) (.int i t)) := by intros; with_unfolding_all rfl) : Ev prog w h₀ A env loc (.Subscript value slice pos) q := by
  intro G s Q R g
  refine Subscript_ (hv G s _ R fun G₁ h₁ t₁ a k₁ ha => ?_)
  refine hi G₁ _ _ (R.post k₁) fun G₂ h₂ t₂ b k₂ hb => ?_
  obtain ⟨l, n, us, rfl, ho, hu⟩ := (ha.mono k₂.1 k₂.2.1).isL k₂.2.2.1 e
  cases hb
  obtain ⟨u, hu1, hu2⟩ := hu.get hx
  have hl := hu.length
  refine tail_any (s := { s with heap := h₂, toks := t₂ }) (isList_of ho).typeIs PySem.F.slot_list_getitem.lookup (wpAny_getItem_list_neg (isList_of ho) h0 (by rw [List.size_toArray, hl]; exact h1) h2 (by rw [List.size_toArray, hl]; simpa using hu1) ?_) (hs _ _)
  exact g G₂ h₂ t₂ u (k₁.trans k₂) (VRo.of hu2)
theorem Ev.item_str {value slice : Expr} {pos : Pos} {x : Str} {i : Int} {c : Nat} (hv : Ev prog w h₀ A env loc value (.str x)) (hi : Ev prog w h₀ A env loc slice (.int i)) (h0 : 0 ≤ i) (h1 : i < 2 ^ 63) (hx : x.cps[i.toNat]? = some c)
    (hs : ∀ t u, subscripted slice false (.str x t) (.int i u) = operate [.str x t, .int i u] (getItem (.str x t) (.int i u)) := by intros; with_unfolding_all rfl) : Ev prog w h₀ A env loc (.Subscript value slice pos) (.str ⟨#[c]⟩) := by
  intro G s Q R g
  refine Subscript_ (hv G s _ R fun G₁ h₁ t₁ a k₁ ha => ?_)
  refine hi G₁ _ _ (R.post k₁) fun G₂ h₂ t₂ b k₂ hb => ?_
  cases ha; cases hb
  have hlt : i.toNat < x.length := by
    have : i.toNat < x.cps.size := by
      rcases Nat.lt_or_ge i.toNat x.cps.size with q | q
      · exact q
      · rw [Array.getElem?_eq_none q] at hx; cases hx
    exact this
  refine tail_any (s := { s with heap := h₂, toks := t₂ }) (typeIs_str _ _ _) PySem.F.slot_str_getitem.lookup (PyProof.Rows.getItem_str (by simp; omega) (c := c) ?_ ?_) (hs _ _)
  · have : seqIndex? i x.length = some i.toNat := by
      have h2 : i < (x.length : Int) := by omega
      unfold seqIndex?
      simp [h0, h2, Int.not_lt.mpr h0]
    rw [this]; exact hx
  · exact Gives.here (Gives.post (s := s) (tk := t₂) g (k₁.trans k₂)) k₂.2.2.1 _ (VR.str _ _)
end
end Mine
end
section
open PySem PySem.W PyProof.Rows PySem.Spec PySem.Calls
set_option maxRecDepth 100000
set_option maxHeartbeats 1000000
namespace Mine
theorem VRs.ints {G : Reg} : ∀ {ns : List Int} {vs : List Value}, VRs G (ns.map PV.int) vs → IntsAre vs ns
  | [], _, .nil => .nil
  | n :: ns, _, .cons h r => by cases h; exact .cons n _ (VRs.ints r)
theorem VRs.strs {G : Reg} : ∀ {ys : List Str} {vs : List Value}, VRs G (ys.map PV.str) vs → StrsAre vs ys
  | [], _, .nil => .nil
  | y :: ys, _, .cons h r => by cases h; exact .cons y _ (VRs.strs r)
theorem VRs.strValues {G : Reg} : ∀ {ys : List Str} {vs : List Value}, VRs G (ys.map PV.str) vs → ∃ l : List (Str × Tok), vs = strValues l ∧ l.map (·.1) = ys
  | [], _, .nil => ⟨[], rfl, rfl⟩
  | y :: ys, _, .cons h r => by
    cases h with
    | str _ t =>
    obtain ⟨l, e1, e2⟩ := VRs.strValues r
    exact ⟨(y, t) :: l, by rw [e1]; rfl, by simp [e2]⟩
/-- the items of a slice -/
def sliceL {α : Type} (xs : List α) (lo hi st : Option Int) : List α :=
  (sliceRange (sliceBounds lo hi st xs.length).1 (sliceBounds lo hi st xs.length).2.1 (sliceBounds lo hi st xs.length).2.2).filterMap (xs[·]?)
theorem VRs.pick {G : Reg} {xs : List PV} {vs : List Value} (h : VRs G xs vs) : ∀ idx : List Nat, VRs G (idx.filterMap (xs[·]?)) (idx.filterMap (vs[·]?))
  | [] => .nil
  | i :: r => by
    have ih := h.pick r
    cases e : xs[i]? with
    | some p =>
      obtain ⟨v, e1, e2⟩ := h.get e
      rw [List.filterMap_cons_some e, List.filterMap_cons_some e1]
      exact .cons e2 ih
    | none =>
      have e1 : vs[i]? = none := by
        rw [List.getElem?_eq_none_iff] at e ⊢
        rw [h.length]; exact e
      rw [List.filterMap_cons_none e, List.filterMap_cons_none e1]
      exact ih
theorem slicePick_list (vs : List Value) (lo hi st : Option Int) : slicePick vs.toArray lo hi st = (sliceL vs lo hi st).toArray := by
  unfold slicePick sliceL
  simp
def sliceS (x : Str) (lo hi : Option Int) : Str :=
  let l := Builtin.Str.strSliceIndices lo hi 1 x.length
  if l.length == x.length then x else ⟨(l.filterMap (x.cps[·]?)).toArray⟩

section
variable {prog : Program} {w : World} {h₀ : Heap} {A : Around} {env : Env} {loc : Loc}

def EvP (prog : Program) (w : World) (h₀ : Heap) (A : Around) (env : Env) (loc : Loc) (o : Option Expr) (r : Option Int) : Prop :=
  ∀ G s (Q : Value → Shared → Prop), RepE h₀ G env loc s.heap → (∀ G' h' tk v, Post G s.heap G' h' → IsPart v r → Q v { s with heap := h', toks := tk }) → wpAny (model prog w) A (evalPart o env) Q NoE s
theorem EvP.none : EvP prog w h₀ A env loc none none := fun G s _ R g => wpAny_evalPart_none (g G s.heap s.toks .none (Post.refl R.sub) .none)
theorem EvP.some {e : Expr} {i : Int} (he : Ev prog w h₀ A env loc e (.int i)) : EvP prog w h₀ A env loc (some e) (some i) := fun G s Q R g =>
  wpAny_evalPart_some (he G s Q R fun G' h' tk v k hv => g G' h' tk v k (by cases hv; exact .int i _))

theorem Ev.slice_list {value : Expr} {lo hi st : Option Expr} {sp pos : Pos} {p : PV} {xs : List PV} {l u k : Option Int} (hv : Ev prog w h₀ A env loc value p) (e : asL p = some xs) (hl : EvP prog w h₀ A env loc lo l) (hu : EvP prog w h₀ A env loc hi u) (hk : EvP prog w h₀ A env loc st k)
    (hk0 : k ≠ Option.some 0) (hz : xs.length ≤ sizeLine)
    (hs : ∀ a b, subscripted (.Slice lo hi st sp) false (.ref a) (.ref b) = operate [.ref b, .ref a] (getItem (.ref a) (.ref b)) := by intros; with_unfolding_all rfl) : Ev prog w h₀ A env loc (.Subscript value (.Slice lo hi st sp) pos) (.list (sliceL xs l u k)) := by
  intro G s Q R g
  refine Subscript_ (hv G s _ R fun G₁ h₁ t₁ a k₁ ha => ?_)
  refine wpAny_Slice (hl G₁ _ _ (R.post k₁) fun G₂ h₂ t₂ vl k₂ hvl => ?_)
  refine hu G₂ _ _ ((R.post k₁).post k₂) fun G₃ h₃ t₃ vu k₃ hvu => ?_
  refine hk G₃ _ _ (((R.post k₁).post k₂).post k₃) fun G₄ h₄ t₄ vk k₄ hvk => ?_
  have k14 := (k₂.trans k₃).trans k₄
  have kk := k₁.trans k14
  obtain ⟨la, n, us, rfl, ho, hus⟩ := (ha.mono k14.1 k14.2.1).isL kk.2.2.1 e
  let sl : Obj := { cls := Value.type "slice", data := Data.fields #[vl, vu, vk] }
  have hsl : (h₄.push sl).get? h₄.objs.size = some sl := Heap.get?_push_size _ rfl
  have ho' : (h₄.push sl).get? la = some (listOf us.toArray n) := Heap.get?_push_of_some _ ho
  refine tail_any (s := { s with heap := h₄.push sl, toks := t₄ }) (isList_of ho').typeIs PySem.F.slot_list_getitem.lookup
    (wpAny_getItem_list_slice (isList_of ho') ⟨sl, hsl, rfl, rfl⟩ hvl hvu hvk hk0 ?_ (by rw [List.size_toArray, hus.length]; exact hz)) (hs _ _)
  rw [slicePick_list]
  have he : Ext h₄ ((h₄.push sl).push { cls := Value.type "list", data := Data.seq (sliceL us l u k).toArray }) := (ext_push _ _).trans (ext_push _ _)
  refine Gives.fresh (Gives.post (s := s) (tk := t₄) g kk) kk.2.2.1 (n := 0) he ?_ (Heap.get?_push_size _ rfl) ?_
  · cases z : h₄.get? (h₄.push sl).objs.size with
    | none => rfl
    | some o => have := Heap.lt_size z; rw [Heap.size_push] at this; exact absurd this (Nat.not_lt.mpr (Nat.le_succ _))
  · unfold sliceL
    rw [hus.length]
    exact hus.pick _
theorem Ev.slice_str {value : Expr} {lo hi : Option Expr} {sp pos : Pos} {x : Str} {l u : Option Int} (hv : Ev prog w h₀ A env loc value (.str x)) (hl : EvP prog w h₀ A env loc lo l) (hu : EvP prog w h₀ A env loc hi u) (hz : x.length ≤ 1000)
    (hs : ∀ t b, subscripted (.Slice lo hi Option.none sp) false (.str x t) (.ref b) = operate [.ref b, .str x t] (getItem (.str x t) (.ref b)) := by intros; with_unfolding_all rfl) : Ev prog w h₀ A env loc (.Subscript value (.Slice lo hi Option.none sp) pos) (.str (sliceS x l u)) := by
  intro G s Q R g
  refine Subscript_ (hv G s _ R fun G₁ h₁ t₁ a k₁ ha => ?_)
  refine wpAny_Slice (hl G₁ _ _ (R.post k₁) fun G₂ h₂ t₂ vl k₂ hvl => ?_)
  refine hu G₂ _ _ ((R.post k₁).post k₂) fun G₃ h₃ t₃ vu k₃ hvu => wpAny_evalPart_none ?_
  have k13 := k₂.trans k₃
  have kk := k₁.trans k13
  cases ha
  rename_i t
  let sl : Obj := { cls := Value.type "slice", data := Data.fields #[vl, vu, Value.none] }
  have hsl : (h₃.push sl).get? h₃.objs.size = some sl := Heap.get?_push_size _ rfl
  obtain ⟨l', el, el'⟩ : ∃ l' : Option (Int × Tok), vl = partValue l' ∧ l'.map (·.1) = l := by
    cases hvl with
    | none => exact ⟨Option.none, rfl, rfl⟩
    | int i t => exact ⟨Option.some (i, t), rfl, rfl⟩
  obtain ⟨u', eu, eu'⟩ : ∃ u' : Option (Int × Tok), vu = partValue u' ∧ u'.map (·.1) = u := by
    cases hvu with
    | none => exact ⟨Option.none, rfl, rfl⟩
    | int i t => exact ⟨Option.some (i, t), rfl, rfl⟩
  have kp : Post G s.heap G₃ (h₃.push sl) := kk.trans ⟨RSub.refl _, ext_push _ _, fun b o e => ext_push _ _ b o (kk.2.2.1 b o e), fun _ _ e => .inl e⟩
  refine tail_any (s := { s with heap := h₃.push sl, toks := t₃ }) (typeIs_str _ _ _) PySem.F.slot_str_getitem.lookup
    (wpAny_getItem_str_slice (l := l') (u := u') (st := Option.none) ⟨sl, hsl, rfl, by rw [← el, ← eu]; rfl⟩ (by rfl) ?_) (hs _ _)
  have ep : slicePicked x l' u' Option.none = Builtin.Str.strSliceIndices l u 1 x.length := by
    unfold slicePicked; rw [el', eu']; rfl
  unfold sliceMade
  rw [ep]
  have g' := Gives.post (s := s) (tk := t₃) g kp
  by_cases hc : (Builtin.Str.strSliceIndices l u 1 x.length).length = x.length
  · rw [if_pos (by simp [hc])]
    refine g'.here kp.2.2.1 t₃ ?_
    unfold sliceS
    rw [if_pos (by simp [hc])]
    exact VR.str _ _
  · rw [if_neg (by simp [hc])]
    refine ⟨?_, g'.here kp.2.2.1 (t₃ + 1) ?_⟩
    · show (List.filterMap (fun i => x.cps[i]?) (Builtin.Str.strSliceIndices l u 1 x.length)).toArray.size ≤ sizeLine
      rw [List.size_toArray]
      refine Nat.le_trans (List.length_filterMap_le _ _) ?_
      have := indices_len_le l u x.length
      rw [sizeLine_eq]; omega
    · unfold sliceS
      rw [if_neg (by simp [hc])]
      exact VR.str _ _

-- concatenation
theorem OpB.add_list {p q : PV} {xs ys : List PV} (e1 : asL p = some xs) (e2 : asL q = some ys) (hz : xs.length + ys.length ≤ sizeLine) : OpB prog w A .Add p q (.list (xs ++ ys)) := by
  intro G s a b Q S ha hb g
  obtain ⟨l, n, vs, rfl, ho, hv⟩ := ha.isL S e1
  obtain ⟨l2, n2, ws, rfl, ho2, hw⟩ := hb.isL S e2
  have e : vs.toArray ++ ws.toArray = (vs ++ ws).toArray := by simp
  refine concat_meets ⟨_, ho, rfl⟩ ⟨_, ho2, rfl⟩ noFill_list_add seq_list_add PySem.F.slot_list_add PySem.F.entry_list_add (PySem.F.args_list_add_2 _ _) (list_addW l l2 vs.toArray ws.toArray n n2 none none #[] #[] (by simp [hv.length, hw.length]; exact hz)) ⟨ho, ho2, ?_⟩
  rw [e]
  exact Gives.fresh g S (n := 0) (ext_push _ _) (get_size_none _) (Heap.get?_push_size _ rfl) (hv.append hw)
theorem VRs.replicate {G : Reg} {xs : List PV} {vs : List Value} (h : VRs G xs vs) : ∀ n : Nat, VRs G (List.replicate n xs).flatten (List.replicate n vs).flatten
  | 0 => .nil
  | n + 1 => by rw [List.replicate_succ, List.replicate_succ, List.flatten_cons, List.flatten_cons]; exact h.append (h.replicate n)

-- comparison
theorem OpC.ne_ints {p q : PV} {ns ms : List Int} (e1 : asL p = some (ns.map PV.int)) (e2 : asL q = some (ms.map PV.int)) (hu : A.units + 64 < cLine) : OpC prog w A .NotEq p q (.bool (!decide (ns = ms))) := by
  intro G s a b Q S ha hb g
  obtain ⟨l, n, vs, rfl, ho, hv⟩ := ha.isL S e1
  obtain ⟨l2, n2, ws, rfl, ho2, hw⟩ := hb.isL S e2
  exact ne_intsK (isList_of ho) hv.ints (isList_of ho2) hw.ints hu (g.here S s.toks (VR.bool _))
theorem sameStrs : ∀ ns ms : List Str, PySem.Spec.sameAll (ns.map PyData.str) (ms.map PyData.str) = decide (ns = ms)
  | [], [] => by simp [PySem.Spec.sameAll]
  | [], _ :: _ => by simp [PySem.Spec.sameAll]
  | _ :: _, [] => by simp [PySem.Spec.sameAll]
  | a :: r, b :: t => by
    simp only [List.map_cons, PySem.Spec.sameAll, PySem.Spec.same, sameStrs r t]
    by_cases h : a = b <;> by_cases h' : r = t <;> simp [h, h']
theorem carriedStrs : ∀ {vs : List Value} {ns : List Str}, StrsAre vs ns → CarriedAll vs (ns.map PyData.str)
  | _, _, .nil => .nil
  | _, _, .cons _ t r => .cons (.str _ t) (carriedStrs r)
theorem shapedStrs (ns : List Str) (h : ∀ x ∈ ns, PyData.strOk x = true) : SeqAt.shaped (.list (ns.map PyData.str)) = true := by
  have h1 : PyData.canLayAll0 (ns.map PyData.str) = true := by
    induction ns with
    | nil => rfl
    | cons a r ih =>
      simp only [List.map_cons, PyData.canLayAll0, PyData.canLay0, Bool.and_eq_true]
      exact ⟨h a (.head _), ih fun x hx => h x (.tail _ hx)⟩
  have h2 : PyData.depthAll (ns.map PyData.str) = 0 := by
    clear h h1
    induction ns with
    | nil => rfl
    | cons a r ih => simp [PyData.depthAll, PyData.depth, ih]
  simp [SeqAt.shaped, PyData.canLay0, PyData.depth, h1, h2]
theorem OpC.ne_strs {p q : PV} {ns ms : List Str} (e1 : asL p = some (ns.map PV.str)) (e2 : asL q = some (ms.map PV.str)) (o1 : ∀ x ∈ ns, PyData.strOk x = true) (o2 : ∀ x ∈ ms, PyData.strOk x = true) (hu : A.units + 64 < cLine) :
    OpC prog w A .NotEq p q (.bool (!decide (ns = ms))) := by
  intro G s a b Q S ha hb g
  obtain ⟨l, n, vs, rfl, ho, hv⟩ := ha.isL S e1
  obtain ⟨l2, n2, ws, rfl, ho2, hw⟩ := hb.isL S e2
  refine ne_dataH_same (reads_newData (isList_of ho) (carriedStrs hv.strs)) (reads_newData (isList_of ho2) (carriedStrs hw.strs)) (shapedStrs _ o1) (shapedStrs _ o2) hu
    (SeqAt.noMix_of_shape (.list .str) rfl _ _ (list_map_has fun _ => rfl) (list_map_has fun _ => rfl)) ?_
  have e : PySem.Spec.same (.list (ns.map PyData.str)) (.list (ms.map PyData.str)) = decide (ns = ms) := by simp only [PySem.Spec.same]; exact sameStrs ns ms
  rw [e]
  exact g.here S s.toks (VR.bool _)
theorem OpC.notin_strs {p : PV} {k : Str} {ys : List Str} (e : asL p = some (ys.map PV.str)) : OpC prog w A .NotIn (.str k) p (.bool (!(ys.any (· == k)))) := by
  intro G s a b Q S ha hb g
  cases ha
  obtain ⟨l, n, vs, rfl, ho, hv⟩ := hb.isL S e
  exact notin_list_strs (isList_of ho) hv.strs (g.here S s.toks (VR.bool _))

-- calls of the built-ins
theorem OpF.sum_ints {p : PV} {ns : List Int} (hh : A.handled = none) (e : asL p = some (ns.map PV.int)) : OpF prog w A (.builtin "sum") [p] (.int ns.sum) := by
  intro G s vs Q S hv g
  cases hv with
  | cons a r =>
    cases r
    obtain ⟨l, n, us, rfl, ho, hu⟩ := a.isL S e
    have hi := hu.ints
    have hl := isList_of ho
    obtain ⟨xs, hx⟩ := hi.allInts.items
    have hn : numsOf us.toArray.toList = ns := by rw [show us.toArray.toList = us from rfl, hi.numsOf]
    rw [hx] at hl hn
    rw [nums_intItems] at hn
    refine sum_intListG hh hl fun h' tk t' hk => ?_
    rw [preSum_eq, List.take_of_length_le (by simp), hn]
    exact g G h' tk _ ⟨RSub.refl _, hk, fun b o z => hk b o (S b o z), fun _ _ z => .inl z⟩ (VRo.of (VR.int _ _))
def minL : List Int → Int
  | [] => 0
  | [a] => a
  | a :: b :: r => min a (minL (b :: r))
theorem minL_le : ∀ {ns : List Int} {a : Int}, a ∈ ns → minL ns ≤ a
  | [a], _, .head _ => Int.le_refl _
  | a :: b :: r, _, .head _ => by simp only [minL]; omega
  | a :: b :: r, x, .tail _ h => by have := minL_le h; simp only [minL]; omega
theorem minL_mem : ∀ {ns : List Int}, ns ≠ [] → minL ns ∈ ns
  | [a], _ => .head _
  | a :: b :: r, _ => by
    have := minL_mem (ns := b :: r) (by simp)
    simp only [minL]
    rcases Int.le_total a (minL (b :: r)) with h | h
    · rw [Int.min_eq_left h]; exact .head _
    · rw [Int.min_eq_right h]; exact .tail _ this
theorem OpF.min_ints {p : PV} {ns : List Int} (hh : A.handled = none) (e : asL p = some (ns.map PV.int)) (hne : ns ≠ []) : OpF prog w A (.builtin "min") [p] (.int (minL ns)) := by
  intro G s vs Q S hv g
  cases hv with
  | cons a r =>
    cases r
    obtain ⟨l, n, us, rfl, ho, hu⟩ := a.isL S e
    have hi := hu.ints
    have hl := isList_of ho
    obtain ⟨xs, e⟩ := hi.allInts.items
    have hns : ns = xs.toList.map (·.1) := by
      rw [← hi.numsOf, ← nums_intItems, ← e]
    have hpos : 0 < ns.length := List.length_pos_iff.mpr hne
    have hsz : 0 < xs.size := by
      rw [hns, List.length_map, Array.length_toList] at hpos; exact hpos
    rw [e] at hl
    refine min_intList hh hl hsz fun v h' tk hv hk => ?_
    obtain ⟨t, rfl⟩ := intItems_at hv
    obtain ⟨h1, h2⟩ := argBest_lt (numAt xs) (xs.size - 1)
    have m1 : numAt xs (argBest (fun i j => decide (numAt xs i < numAt xs j)) (xs.size - 1)) ∈ ns := by
      rw [hns, numAt_eq]; exact getD_mem (by rw [List.length_map, Array.length_toList]; omega)
    have m2 : ∀ a, a ∈ ns → numAt xs (argBest (fun i j => decide (numAt xs i < numAt xs j)) (xs.size - 1)) ≤ a := fun a ha => by
      rw [hns] at ha
      obtain ⟨j, hj, rfl⟩ := mem_getD ha
      rw [List.length_map, Array.length_toList] at hj
      rw [← numAt_eq]; exact h2 j (by omega)
    have em : numAt xs (argBest (fun i j => decide (numAt xs i < numAt xs j)) (xs.size - 1)) = minL ns := Int.le_antisymm (m2 _ (minL_mem hne)) (minL_le m1)
    refine g G h' tk _ ⟨RSub.refl _, hk, fun b o z => hk b o (S b o z), fun _ _ z => .inl z⟩ (VRo.of ?_)
    rw [em]
    exact VR.int _ _
theorem OpF.min_two {a b : Int} (hh : A.handled = none) : OpF prog w A (.builtin "min") [.int a, .int b] (.int (if b < a then b else a)) := by
  intro G s vs Q S hv g
  cases hv with
  | cons x r =>
    cases r with
    | cons y r =>
      cases r; cases x; cases y
      refine min_two_ints hh fun h' tk hk => ?_
      have g' := fun t => g G h' tk (.int (if b < a then b else a) t) ⟨RSub.refl _, hk, fun b o z => hk b o (S b o z), fun _ _ z => .inl z⟩ (VRo.of (VR.int _ _))
      by_cases c : b < a
      · simpa only [if_pos c] using g' _
      · simpa only [if_neg c] using g' _
theorem OpF.join {x : Str} {p : PV} {ys : List Str} (e : asL p = some (ys.map PV.str)) (hj : JoinOk x ys = true) : OpF prog w A (.builtin "str.join") [.str x, p] (.str (Txt.join x ys)) := by
  intro G s vs Q S hv g
  cases hv with
  | cons a r =>
    cases r with
    | cons b r =>
      cases r; cases a
      obtain ⟨l, n, us, rfl, ho, hu⟩ := b.isL S e
      obtain ⟨l', e1, e2⟩ := hu.strValues
      rw [e1] at ho
      exact SC.join (isList_of ho) e2 hj fun t k => g.here S k (VR.str _ _)
theorem OpF.hex {i : Int} (hz : (baseText "0x" 16 i).length ≤ sizeLine) : OpF prog w A (.builtin "hex") [.int i] (.str (baseText "0x" 16 i)) := by
  intro G s vs Q S hv g
  cases hv with
  | cons a r => cases r; cases a; exact P.hex_of_int (g.here S _ (VR.str _ _)) hz
theorem OpF.isi_int_bool {i : Int} : OpF prog w A (.builtin "isinstance") [.int i, .val (.type "bool")] (.bool false) := by
  intro G s vs Q S hv g
  cases hv with
  | cons a r =>
    cases r with
    | cons b r => cases r; cases a; cases b; exact IsiPair.int_bool (g.here S _ (VR.bool _))
end
end Mine
end
section
open PySem PySem.W PyProof.Rows PySem.Spec PySem.Calls
set_option maxRecDepth 100000
set_option maxHeartbeats 1000000
namespace Mine
section
variable {prog : Program} {w : World} {h₀ : Heap} {A : Around} {env : Env} {loc : Loc}

theorem Rep.setLocal {K G G' : Reg} {h h' : Heap} {x : Str} {p : PV} {v : Value} {m : Str → Option Value} (R : Rep h₀ K G env loc h) (hk : env.kindOf x = some .local) (hm : h.Ns env.locals m)
    (bt : ∀ b o, b ≠ env.locals → h.get? b = some o → h'.get? b = some o) (hn : h'.Ns env.locals (fun z => if z = x then some v else m z)) (kG : RSub G G') (sG : Sub G' h') (nG : ∀ b o, G' b = some o → G b = some o ∨ h.get? b = none)
    (hp : p.pure = true) (hv : VR G' p v) : Rep h₀ K G' env ((x, p) :: loc) h' := by
  obtain ⟨ad, P⟩ := R.priv
  have hLf := P.frame
  have look : ∀ {y q}, ((x, p) :: loc).lookup y = some q → (y = x ∧ q = p) ∨ (y ≠ x ∧ loc.lookup y = some q) := by
    intro y q e
    rw [List.lookup_cons] at e
    by_cases hy : (y == x) = true
    · rw [hy] at e; cases e; exact .inl ⟨beq_iff_eq.mp hy, rfl⟩
    · have hy' : (y == x) = false := by simpa using hy
      rw [hy'] at e; exact .inr ⟨fun z => hy (by simp [z]), e⟩
  have notown : ∀ o xs, p ≠ .own o xs := fun o xs e => by rw [e] at hp; cases hp
  have nK : ∀ b o, K b = some o → b ≠ env.locals := fun b o e q => by rw [q, (P.off _ _ hLf).1] at e; cases e
  have rd : ∀ y v, y ≠ x → Reads env h y v → Reads env h' y v := fun y u ne r => by
    rcases r with ⟨k, m₂, hn₂, hm₂⟩ | ⟨k, c, hc', hv'⟩
    · refine .inl ⟨k, _, hn, ?_⟩
      have : m y = m₂ y := Heap.Ns.agree hm hn₂ y
      rw [if_neg ne, this, hm₂]
    · obtain ⟨o, ho, hd⟩ := hv'
      obtain ⟨c', v₀, e1, e2, _⟩ := P.cell y k
      rw [hc'] at e1; cases e1
      exact .inr ⟨k, c, hc', o, bt _ o (fun q => by have := P.inj _ _ _ (q ▸ e2) hLf; cases this) ho, hd⟩
  refine ⟨fun b o e => kG b o (R.base b o e), fun b o e => bt b o (nK b o e) (R.subK b o e), sG, fun y q e hq => ?_, ad, hLf, ⟨_, hn⟩, fun y hy => ?_, fun y o xs e => ?_, P.inj, fun q a e => ⟨(P.off q a e).1, ?_⟩, fun q a e => ?_⟩
  · rcases look e with ⟨rfl, rfl⟩ | ⟨ne, e⟩
    · exact ⟨v, .inl ⟨hk, _, hn, if_pos rfl⟩, hv⟩
    · obtain ⟨u, r, vr⟩ := R.vars y q e hq
      exact ⟨u, rd y u ne r, VR.mono kG vr⟩
  · obtain ⟨c, v₀, e1, e2, o, ho, hd⟩ := P.cell y hy
    exact ⟨c, v₀, e1, e2, o, bt _ o (fun q => by have := P.inj _ _ _ (q ▸ e2) hLf; cases this) ho, hd⟩
  · rcases look e with ⟨rfl, e9⟩ | ⟨ne, e⟩
    · exact absurd e9.symm (notown _ xs)
    · obtain ⟨a, n, vs, e1, e2, e3, e4, e5⟩ := P.own y o xs e
      exact ⟨a, n, vs, e1, rd y _ ne e2, bt _ _ (fun q => by have := P.inj _ _ _ (q ▸ e1) hLf; cases this) e3, VRs.mono kG e4, e5⟩
  · cases z : G' a with
    | none => rfl
    | some o =>
      rcases nG a o z with y | y
      · rw [(P.off q a e).2] at y; cases y
      · obtain ⟨o', ho'⟩ := P.there q a e; rw [ho'] at y; cases y
  · by_cases ne : a = env.locals
    · subst ne; obtain ⟨o, _, _, ho, _⟩ := hn; exact ⟨o, ho⟩
    · obtain ⟨o, ho⟩ := P.there q a e; exact ⟨o, bt _ o ne ho⟩

-- iterators over lists and ranges
theorem listIter_ok (hh : A.handled = none) {G : Reg} {I l : Addr} {n : Nat} {xs : List PV} {vs : List Value} (hne : l ≠ I) (hl : G l = some (listOf vs.toArray n)) (hv : VRs G xs vs) :
    ∀ (k i : Nat), i + k = xs.length → ∀ o : Obj, o.cls = .type "list_iterator" → o.data = .fields #[.ref l, .int i 0] → IterOk prog w A G I (xs.drop i) o := by
  intro k
  induction k with
  | zero =>
    intro i hi o hc hd
    rw [List.drop_eq_nil_of_le (by omega)]
    intro s Q S ho g
    refine wpAny_pyNext_list_end hh ⟨o, ho, hc, hd⟩ (isList_of (S _ _ hl)) ?_ fun h' he => g h' s.toks he
    rw [Array.getElem?_eq_none]
    rw [List.size_toArray, hv.length]; omega
  | succ k ih =>
    intro i hi o hc hd
    have hlt : i < xs.length := by omega
    rw [List.drop_eq_getElem_cons hlt]
    intro s Q S ho g
    obtain ⟨v, e1, e2⟩ := hv.get (List.getElem?_eq_getElem hlt)
    refine wpAny_pyNext_list_item (items := vs.toArray) (x := v) ⟨o, ho, hc, hd⟩ (isList_of (S _ _ hl)) (by simpa using e1) fun h' hi' hs => ?_
    obtain ⟨o', ho', hc', hd'⟩ := hi'
    exact g h' s.toks v o' (fun b o q e => (hs.2 b q).trans e) ho' e2 (ih (i + 1) (by omega) o' hc' hd')
theorem EvI.list {e : Expr} {p : PV} {xs : List PV} (he : Ev prog w h₀ A env loc e (.list xs)) (hh : A.handled = none) : EvI prog w h₀ A env loc e xs := by
  intro G s Q R g
  refine he G s _ R fun G₁ h₁ t₁ a k₁ ha => ?_
  cases ha with
  | @list _ l n vs ho hv =>
    have hlh := k₁.2.2.1 _ _ ho
    refine wpAny_pyIter_list (isList_of hlh) ?_
    let it : Obj := { cls := Value.type "list_iterator", data := Data.fields #[Value.ref l, Value.int 0 0] }
    have k₂ : Post G₁ h₁ G₁ (h₁.push it) := ⟨RSub.refl _, ext_push _ _, fun b o e => ext_push _ _ b o (k₁.2.2.1 b o e), fun _ _ e => .inl e⟩
    refine g G₁ (h₁.push it) t₁ h₁.objs.size it (k₁.trans k₂) (Heap.get?_push_size _ rfl) ?_ ?_ ?_
    · cases z : s.heap.get? h₁.objs.size with
      | none => rfl
      | some o => have := k₁.2.1 _ _ z; rw [get_size_none] at this; cases this
    · cases z : G₁ h₁.objs.size with
      | none => rfl
      | some o => have := k₁.2.2.1 _ _ z; rw [get_size_none] at this; cases this
    · have := listIter_ok (prog := prog) (w := w) hh (I := h₁.objs.size) (fun q => by rw [q, get_size_none] at hlh; cases hlh) ho hv xs.length 0 (by omega) it rfl rfl
      simpa using this

def rangePV (n : Int) : List PV := (List.range n.toNat).map fun (i : Nat) => .int (i : Int)
theorem rangeIter_ok (hh : A.handled = none) {G : Reg} {I : Addr} (n : Nat) : ∀ (k i : Nat), i + k = n → IterOk prog w A G I (((List.range n).map fun (i : Nat) => PV.int (i : Int)).drop i) { cls := .type "range_iterator", data := .fields #[rawInt (i : Int), rawInt ((n : Int) - i), rawInt 1] } := by
  intro k
  induction k with
  | zero =>
    intro i hi
    rw [List.drop_eq_nil_of_le (by simp; omega)]
    intro s Q S ho g
    exact wpAny_pyNext_range_end (x := i) (left := (n : Int) - i) (step := 1) hh ho (by omega) fun h' he => g h' s.toks he
  | succ k ih =>
    intro i hi
    have hlt : i < ((List.range n).map fun (i : Nat) => PV.int (i : Int)).length := by simp; omega
    rw [List.drop_eq_getElem_cons hlt]
    intro s Q S ho g
    refine wpAny_pyNext_range_item (x := i) (left := (n : Int) - i) (step := 1) ho (by omega) fun h' hi' hs => ?_
    refine g h' (s.toks + 1) (.int i s.toks) _ (fun b o q e => (hs.2 b q).trans e) hi' ?_ ?_
    · simp only [List.getElem_map, List.getElem_range]; exact VR.int _ _
    · have := ih (i + 1) (by omega)
      have e1 : ((i + 1 : Nat) : Int) = (i : Int) + 1 := by omega
      have e2 : (n : Int) - ((i + 1 : Nat) : Int) = (n : Int) - i - 1 := by omega
      rw [e2, e1] at this
      exact this
theorem rangeSize_up {n : Int} (h : 0 ≤ n) : Builtin.Range.rangeSize 0 n 1 = n := by
  unfold Builtin.Range.rangeSize
  simp
  omega
theorem range_small {n : Int} (h : 0 ≤ n) (h2 : n < 2 ^ 62) : Builtin.Range.small 0 n 1 = true := by
  unfold Builtin.Range.small
  rw [rangeSize_up h]
  have f : ∀ i : Int, 0 ≤ i → i < 2 ^ 63 → Builtin.Range.rangeFitsLong i = true := fun i a b => by
    unfold Builtin.Range.rangeFitsLong
    simp; omega
  have h3 : n < 2 ^ 63 := by omega
  simp only [f 0 (by omega) (by omega), f n h h3, f 1 (by omega) (by omega), Bool.true_and, Bool.or_eq_true, beq_iff_eq]
  refine .inr ?_
  rw [if_pos (by decide)]
  exact f _ (by omega) (by omega)

/-- the range object of a call of range upon one int -/
theorem range_made {n : Int} {t : Tok} {s : Shared} {Q : Value → Shared → Prop} {mg : Str → Option Value} (hg : s.heap.Ns mainGlobals mg)
    (g : ∀ h' tk r (t₁ u₁ v₁ : Tok), s.heap.get? r = none → h'.get? r = some { cls := .type "range", data := .fields #[.int 0 t₁, .int n u₁, .int 1 v₁] } → Ext s.heap h' → Q (.ref r) { s with heap := h', toks := tk }) :
    wpAny (model prog w) A (call (.type "range") [.int n t]) Q NoE s := by
  have F : Fr ({} : Heap) mainGlobals s.heap mg := ⟨hg, fun b o e => (nomatch e), Nat.zero_le _⟩
  have N : News ({} : Heap) mainGlobals s.heap [] := fun p hp => (nomatch hp)
  refine range1_rows F N fun h' tk t₁ u₁ v₁ hr _ _ he => g h' tk _ t₁ u₁ v₁ (get_size_none _) hr he
theorem EvI.range {f e : Expr} {pos : Pos} {n : Int} {mg mb : Str → Option Value} (hB : Base h₀ mg mb) (hf : Ev prog w h₀ A env loc f (.val (.type "range"))) (he : Ev prog w h₀ A env loc e (.int n)) (hh : A.handled = none) (h0 : 0 ≤ n) (h1 : n < 2 ^ 62)
    (hc : eval (.Call f [e] [] pos) env = (do callWith pos (← eval f env) [] (backTo pos (starEach [e] env)) (backToKw pos (keywordEach [] env))) := by rfl)
    (hst : starEach [e] env = (false, eval e env) :: starEach [] env := by rfl) : EvI prog w h₀ A env loc (.Call f [e] [] pos) (rangePV n) := by
  intro G s Q R g
  refine Call_ (hf G s _ R fun G₁ h₁ t₁ v k₁ hv => ?_) hc
  cases hv
  refine PyProof.Rows.callWith_type1 (EvArgs.cons (hst := hst) he EvArgs.nil G₁ _ pos _ (R.post k₁) fun G₂ h₂ t₂ vs k₂ hvs => ?_) hst (by rfl)
  cases hvs with
  | cons a r =>
    cases r; cases a
    have kk := k₁.trans k₂
    refine range_made (hB.g.keeps (((R.post k₁).post k₂)).ext) fun h₃ t₃ r t₁' u₁ v₁ hn hr he3 => ?_
    refine wpAny_pyIter_range (a := 0) (b := n) (c := 1) hr (range_small h0 h1) ?_
    rw [rangeSize_up h0]
    let it : Obj := { cls := Value.type "range_iterator", data := Data.fields #[rawInt 0, rawInt n, rawInt 1] }
    have k₃ : Post G₂ h₂ G₂ (h₃.push it) := ⟨RSub.refl _, he3.trans (ext_push _ _), fun b o e => ext_push _ _ b o (he3 b o (k₂.2.2.1 b o e)), fun _ _ e => .inl e⟩
    have kall := kk.trans k₃
    have fr : ∀ b o, h₂.get? b = some o → b ≠ h₃.objs.size := fun b o z q => by have := he3 _ _ z; rw [q, get_size_none] at this; cases this
    refine g G₂ (h₃.push it) t₃ h₃.objs.size it kall (Heap.get?_push_size _ rfl) ?_ ?_ ?_
    · cases z : s.heap.get? h₃.objs.size with
      | none => rfl
      | some o => exact absurd rfl (fr _ _ (kk.2.1 _ _ z))
    · cases z : G₂ h₃.objs.size with
      | none => rfl
      | some o => exact absurd rfl (fr _ _ (kk.2.2.1 _ _ z))
    · have := rangeIter_ok (prog := prog) (w := w) (G := G₂) (I := h₃.objs.size) hh n.toNat n.toNat 0 (by omega)
      simp only [List.drop_zero, Int.toNat_of_nonneg h0, Int.natCast_zero, Int.sub_zero] at this
      exact this

-- comprehensions
theorem walks_bd {I : Addr} {fp wr : List Addr} {n : Nat} {P : Nat → Value → Prop} {St : Nat → Heap → Prop} (W : Walks prog w A I fp wr n P St) : Walks prog w A I fp wr n (fun i v => i < n ∧ P i v) St :=
  ⟨W.sub, W.frame, fun i s Q E hi hs h => W.item i s Q E hi hs fun v h' tk hv a b => h v h' tk ⟨hi, hv⟩ a b, W.done, W.self⟩

def EvW (prog : Program) (w : World) (h₀ : Heap) (A : Around) (env : Env) (loc : Loc) (e : Expr) (ps : List PV) : Prop :=
  ∀ G s (Q : Value → Shared → Prop), RepE h₀ G env loc s.heap →
    (∀ G' h' tk I fp wr P St, Post G s.heap G' h' → Walks prog w A I fp wr ps.length P St → St 0 h' → (∀ b ∈ fp, b < h'.objs.size) → (∀ b ∈ wr, s.heap.get? b = none ∧ G' b = none) →
      (∀ i v, P i v → ∃ p, ps[i]? = some p ∧ VR G' p v) → Q (.ref I) { s with heap := h', toks := tk }) →
    wpAny (model prog w) A (eval e env) (fun x s₁ => wpAny (model prog w) A (pyIter x) Q NoE s₁) NoE s
theorem EvW.list {e : Expr} {xs : List PV} (he : Ev prog w h₀ A env loc e (.list xs)) (hh : A.handled = none) : EvW prog w h₀ A env loc e xs := by
  intro G s Q R g
  refine he G s _ R fun G₁ h₁ t₁ a k₁ ha => ?_
  cases ha with
  | @list _ l n vs ho hv =>
    have hlh := k₁.2.2.1 _ _ ho
    refine wpAny_pyIter_list (isList_of hlh) ?_
    let it : Obj := { cls := Value.type "list_iterator", data := Data.fields #[Value.ref l, Value.int 0 0] }
    have k₂ : Post G₁ h₁ G₁ (h₁.push it) := ⟨RSub.refl _, ext_push _ _, fun b o e => ext_push _ _ b o (k₁.2.2.1 b o e), fun _ _ e => .inl e⟩
    have hne : l ≠ h₁.objs.size := fun q => by rw [q, get_size_none] at hlh; cases hlh
    have W := Walks.list (prog := prog) (w := w) hh h₁.objs.size l hne vs.toArray
    have eW : vs.toArray.size = xs.length := by simp [hv.length]
    rw [eW] at W
    refine g G₁ (h₁.push it) t₁ h₁.objs.size _ _ _ _ (k₁.trans k₂) W ⟨⟨it, Heap.get?_push_size _ rfl, rfl, rfl⟩, isList_of (ext_push _ _ _ _ hlh)⟩ (fun b hb => ?_) (fun b hb => ?_) fun i v hP => ?_
    · rcases List.mem_cons.mp hb with rfl | hb
      · rw [Heap.size_push]; exact Nat.lt_succ_self _
      · rw [List.mem_singleton.mp hb, Heap.size_push]; exact Nat.lt_succ_of_lt (Heap.lt_size hlh)
    · rw [List.mem_singleton.mp hb]
      constructor
      · cases z : s.heap.get? h₁.objs.size with
        | none => rfl
        | some o => have := k₁.2.1 _ _ z; rw [get_size_none] at this; cases this
      · cases z : G₁ h₁.objs.size with
        | none => rfl
        | some o => have := k₁.2.2.1 _ _ z; rw [get_size_none] at this; cases this
    · have hi : i < xs.length := by
        rcases Nat.lt_or_ge i xs.length with q | q
        · exact q
        · rw [Array.getElem?_eq_none (by rw [List.size_toArray, hv.length]; exact q)] at hP; cases hP
      obtain ⟨u, e1, e2⟩ := hv.get (List.getElem?_eq_getElem hi)
      have : vs[i]? = some v := by simpa using hP
      rw [this] at e1; cases e1
      exact ⟨_, List.getElem?_eq_getElem hi, e2⟩
theorem EvW.range {f e : Expr} {pos : Pos} {n : Int} {mg mb : Str → Option Value} (hB : Base h₀ mg mb) (hf : Ev prog w h₀ A env loc f (.val (.type "range"))) (he : Ev prog w h₀ A env loc e (.int n)) (hh : A.handled = none) (h0 : 0 ≤ n) (h1 : n < 2 ^ 62)
    (hc : eval (.Call f [e] [] pos) env = (do callWith pos (← eval f env) [] (backTo pos (starEach [e] env)) (backToKw pos (keywordEach [] env))) := by rfl)
    (hst : starEach [e] env = (false, eval e env) :: starEach [] env := by rfl) : EvW prog w h₀ A env loc (.Call f [e] [] pos) (rangePV n) := by
  intro G s Q R g
  refine Call_ (hf G s _ R fun G₁ h₁ t₁ v k₁ hv => ?_) hc
  cases hv
  refine PyProof.Rows.callWith_type1 (EvArgs.cons (hst := hst) he EvArgs.nil G₁ _ pos _ (R.post k₁) fun G₂ h₂ t₂ vs k₂ hvs => ?_) hst (by rfl)
  cases hvs with
  | cons a r =>
    cases r; cases a
    have kk := k₁.trans k₂
    refine range_made (hB.g.keeps (((R.post k₁).post k₂)).ext) fun h₃ t₃ r t₁' u₁ v₁ hn hr he3 => ?_
    refine wpAny_pyIter_range (a := 0) (b := n) (c := 1) hr (range_small h0 h1) ?_
    rw [rangeSize_up h0]
    let it : Obj := { cls := Value.type "range_iterator", data := Data.fields #[rawInt 0, rawInt n, rawInt 1] }
    have k₃ : Post G₂ h₂ G₂ (h₃.push it) := ⟨RSub.refl _, he3.trans (ext_push _ _), fun b o e => ext_push _ _ b o (he3 b o (k₂.2.2.1 b o e)), fun _ _ e => .inl e⟩
    have kall := kk.trans k₃
    have fr : ∀ b o, h₂.get? b = some o → b ≠ h₃.objs.size := fun b o z q => by have := he3 _ _ z; rw [q, get_size_none] at this; cases this
    have W := walks_bd (Walks.range (prog := prog) (w := w) hh h₃.objs.size 0 1 n.toNat)
    have hlen : (rangePV n).length = n.toNat := by simp [rangePV]
    rw [← hlen] at W
    refine g G₂ (h₃.push it) t₃ h₃.objs.size _ _ _ _ kall W ?_ (fun b hb => ?_) (fun b hb => ?_) fun i v hP => ?_
    · show (h₃.push it).get? h₃.objs.size = some _
      rw [Heap.get?_push_size _ (by rfl), hlen]
      simp [it, Int.toNat_of_nonneg h0]
    · rw [List.mem_singleton.mp hb, Heap.size_push]; exact Nat.lt_succ_self _
    · rw [List.mem_singleton.mp hb]
      constructor
      · cases z : s.heap.get? h₃.objs.size with
        | none => rfl
        | some o => exact absurd rfl (fr _ _ (kk.2.1 _ _ z))
      · cases z : G₂ h₃.objs.size with
        | none => rfl
        | some o => exact absurd rfl (fr _ _ (kk.2.2.1 _ _ z))
    · obtain ⟨hi, t, rfl⟩ := hP
      rw [hlen] at hi
      refine ⟨.int i, ?_, ?_⟩
      · simp [rangePV, hi]
      · have : (0 : Int) + (i : Int) * 1 = i := by omega
        rw [this]; exact VR.int _ _
end
end Mine
end
section
open PySem PySem.W PyProof.Rows PySem.Spec PySem.Calls
set_option maxRecDepth 100000
set_option maxHeartbeats 1000000
namespace Mine
def pvOf : Value → PV
  | .int i _ => .int i
  | .str x _ => .str x
  | .bytes x _ => .bytes x
  | .bool b => .bool b
  | .none => .none
  | v => .val v
def PV.flat : PV → Bool
  | .none | .bool _ | .int _ | .str _ | .bytes _ => true
  | _ => false
theorem PV.flat_pure {p : PV} (h : p.flat = true) : p.pure = true := by cases p <;> first | rfl | cases h
def noReg : Reg := fun _ => none
theorem noReg_sub (G : Reg) : RSub noReg G := fun _ _ e => nomatch e
theorem VR.pvOf {G : Reg} {p : PV} {v : Value} (h : VR G p v) (hf : p.flat = true) : pvOf v = p := by cases h <;> first | rfl | cases hf
theorem VR.flat {G G' : Reg} {p : PV} {v : Value} (h : VR G p v) (hf : p.flat = true) : VR G' p v := by
  cases h with
  | none => exact .none
  | bool b => exact .bool b
  | int i t => exact .int i t
  | str x t => exact .str x t
  | bytes x t => exact .bytes x t
  | val v => cases hf
  | list => cases hf
theorem VRo.flat {G G' : Reg} {h h' : Heap} {p : PV} {v : Value} (x : VRo G h p v) (hf : p.flat = true) : VRo G' h' p v := VRo.of ((x.vr (PV.flat_pure hf)).flat hf)
theorem paired_vrs {f : PV → PV} : ∀ {vs ys : List Value}, Paired (fun v y => VR noReg (f (pvOf v)) y) vs ys → VRs noReg ((vs.map pvOf).map f) ys
  | _, _, .nil => .nil
  | _, _, .cons a r => .cons a (paired_vrs r)
theorem filter_pvOf {pt : PV → Bool} : ∀ vs : List Value, (vs.filter fun v => pt (pvOf v)).map pvOf = (vs.map pvOf).filter pt
  | [] => rfl
  | v :: r => by
    simp only [List.filter_cons, List.map_cons]
    cases pt (pvOf v) <;> simp [filter_pvOf r]
theorem map_pvOf {xs : List PV} {vs : List Value} (hl : vs.length = xs.length) (h : ∀ (j : Nat) (v : Value), vs[j]? = some v → ∃ p, xs[j]? = some p ∧ pvOf v = p) : vs.map pvOf = xs := by
  apply List.ext_getElem?
  intro i
  rw [List.getElem?_map]
  cases e : vs[i]? with
  | none =>
    rw [List.getElem?_eq_none_iff] at e
    rw [hl] at e
    simp [e]
  | some v =>
    obtain ⟨p, e1, e2⟩ := h i v e
    simp [e1, e2]

section
variable {prog : Program} {w : World} {h₀ : Heap} {A : Around} {env : Env} {loc : Loc}

theorem compEnvOk {scope : Scope} {cl : List (Str × Addr)} {C : Addr} (hE : EnvOk env) (hk : scope.kind = .function) : EnvOk (compEnvC scope cl C env) :=
  ⟨hk, hE.globals, hE.builtins, by
    unfold interactive compEnvC
    simp only
    have : (relabel scope env).kind = scope.kind := rfl
    rw [this, hk]; rfl⟩

def EvIfs (prog : Program) (w : World) (h₀ : Heap) (A : Around) (env : Env) (loc : Loc) (ifs : List Expr) (b : Bool) : Prop :=
  (ifs = [] ∧ b = true) ∨ ∃ t, ifs = [t] ∧ EvT prog w h₀ A env loc t b

/-- what the element and the test of a comprehension give, item by item -/
structure CompS (prog : Program) (w : World) (h₀ : Heap) (A : Around) (env : Env) (loc : Loc) (x : Str) (ifs : List Expr) (elt : Expr) (scope : Scope) (cl : List (Str × Addr)) (loc' : Loc) (xs : List PV) (pt : PV → Bool) (f : PV → PV) : Prop where
  cap : ∀ y p, loc'.lookup y = some p → loc.lookup y = some p ∧ env.kindOf y = some .cell ∧ cl.lookup y = env.cells.lookup y ∧ (relabel scope env).names.lookup y = some .cell
  flat : ∀ p ∈ xs, p.flat = true
  tests : ∀ C p, p ∈ xs → EvIfs prog w h₀ A (compEnvC scope cl C env) ((x, p) :: loc') ifs (pt p)
  elt : ∀ C p, p ∈ xs → pt p = true → Ev prog w h₀ A (compEnvC scope cl C env) ((x, p) :: loc') elt (f p)
  eflat : ∀ p ∈ xs, pt p = true → (f p).flat = true

theorem CompS.quiet {x : Str} {ifs : List Expr} {elt : Expr} {scope : Scope} {cl : List (Str × Addr)} {loc' : Loc} {xs : List PV} {pt : PV → Bool} {f : PV → PV} (S : CompS prog w h₀ A env loc x ifs elt scope cl loc' xs pt f)
    (hx : scope.names.lookup x = some .local) {G : Reg} {s s₂ : Shared} {wr : List Addr} {P : Nat → Value → Prop} (R : RepE h₀ G env loc s.heap) (he : Ext s.heap s₂.heap) (hwr : ∀ b ∈ wr, s.heap.get? b = none)
    (hP : ∀ i v, P i v → ∃ p, xs[i]? = some p ∧ pvOf v = p ∧ VR noReg p v) :
    QuietOnC prog w A env scope cl x ifs elt wr P (fun v => pt (pvOf v)) (fun v y => VR noReg (f (pvOf v)) y) s₂ := by
  have rep : ∀ (C : Addr) (i : Nat) (v : Value) (s₃ : Shared) (m₃ : Str → Option Value), P i v → s₃.heap.Ns C m₃ → m₃ x = some v → (∀ b o, b ∉ wr → s₂.heap.get? b = some o → s₃.heap.get? b = some o) → RepE h₀ G (compEnvC scope cl C env) ((x, pvOf v) :: loc') s₃.heap := by
    intro C i v s₃ m₃ hv hn hm hk
    obtain ⟨p, e1, e2, e3⟩ := hP i v hv
    have ex : Ext s.heap s₃.heap := fun b o e => hk b o (fun hb => by rw [hwr b hb] at e; cases e) (he b o e)
    refine ⟨R.base, fun b o e => ex b o (R.sub b o e), fun y q e => ?_⟩
    rw [List.lookup_cons] at e
    by_cases hy : (y == x) = true
    · rw [hy] at e
      have e' := Option.some.inj e
      rw [beq_iff_eq.mp hy]
      refine ⟨v, .inl ⟨lookup_relabel_local hx, m₃, hn, hm⟩, ?_⟩
      rw [← e', e2]
      exact VRo.of (VR.mono (noReg_sub G) e3)
    · have hy' : (y == x) = false := by simpa using hy
      rw [hy'] at e
      obtain ⟨a1, a2, a3, a4⟩ := S.cap y q e
      obtain ⟨u, r, vr⟩ := R.vars y q a1
      rcases r with ⟨k, _⟩ | ⟨_, c, hc, hv'⟩
      · rw [a2] at k; cases k
      · exact ⟨u, .inr ⟨a4, c, by rw [← hc]; exact a3, hv'.keeps ex⟩, vr.mono (RSub.refl G) ex⟩
  refine ⟨fun C i v s₃ m₃ E' hC hv hn hm hk ht => ?_, fun C i v s₃ m₃ E' hC hv hpv hn hm hk ht => ?_⟩
  · obtain ⟨p, e1, e2, e3⟩ := hP i v hv
    have R' := rep C i v s₃ m₃ hv hn hm hk
    have mem : p ∈ xs := List.mem_of_getElem? e1
    rcases S.tests C p mem with ⟨e, b⟩ | ⟨t, e, b⟩
    · subst e
      exact wpAny_tests_nil ⟨by rw [e2, b], s₃.heap, s₃.toks, rfl, fun _ _ z => z⟩
    · subst e
      rw [e2] at R'
      exact wp_no (wpAny_tests_one (b G s₃ _ R' fun G' h' tk k => ⟨by rw [e2], h', tk, rfl, k.2.1⟩))
  · obtain ⟨p, e1, e2, e3⟩ := hP i v hv
    have R' := rep C i v s₃ m₃ hv hn hm hk
    have mem : p ∈ xs := List.mem_of_getElem? e1
    rw [e2] at R' hpv
    refine wp_no (S.elt C p mem hpv G s₃ _ R' fun G' h' tk y k hy => ⟨?_, h', tk, rfl, k.2.1⟩)
    rw [e2]
    exact (hy.vr (PV.flat_pure (S.eflat p mem hpv))).flat (S.eflat p mem hpv)

theorem Ev.comp {iter elt : Expr} {x : Str} {px pos : Pos} {ifs : List Expr} {scope : Scope} {cl : List (Str × Addr)} {loc' : Loc} {xs : List PV} {pt : PV → Bool} {f : PV → PV} (S : CompS prog w h₀ A env loc x ifs elt scope cl loc' xs pt f) (hi : EvW prog w h₀ A env loc iter xs)
    (hcl : closureFor scope env = pure cl) (hcell : ∀ y ∈ scope.names, y.2 ≠ .cell) (hkind : scope.kind = .function) (hnames : ∀ y ∈ scope.names, y.2 = .local → scope.names.lookup y.1 = some .local) (hx : scope.names.lookup x = some .local) (hz : xs.length ≤ sizeLine)
    (hs : ∀ x, foldedSetIterable iter env x = Pure.pure x := by intro _; rfl) : Ev prog w h₀ A env loc (.ListComp elt [⟨.Name x px, iter, ifs, 0⟩] scope pos) (.list ((xs.filter pt).map f)) := by
  intro G s Q R g
  refine wpAny_ListComp_free (cl := cl) (fun v => pt (pvOf v)) (fun v y => VR noReg (f (pvOf v)) y) hcl hcell hkind hnames hx ?_ hs
  refine hi G s _ R fun G₁ h₁ t₁ I fp wr P St k₁ W hst hfp hwr hP => ?_
  have hP' : ∀ i v, P i v → ∃ p, xs[i]? = some p ∧ pvOf v = p ∧ VR noReg p v := fun i v hv => by
    obtain ⟨p, e1, e2⟩ := hP i v hv
    have fl := S.flat p (List.mem_of_getElem? e1)
    exact ⟨p, e1, e2.pvOf fl, e2.flat fl⟩
  refine ⟨I, fp, wr, xs.length, P, St, rfl, W, hz, hst, hfp, S.quiet hx R k₁.2.1 (fun b hb => (hwr b hb).1) hP', ?_⟩
  intro D h' tk ys vs hD hl hpl hlen hPv hF hk
  obtain ⟨n, ho⟩ := hpl
  have em : vs.map pvOf = xs := map_pvOf hlen fun j v e => by obtain ⟨p, a, b, _⟩ := hP' j v (hPv j v e); exact ⟨p, a, b⟩
  have hv : VRs noReg ((xs.filter pt).map f) ys.toList := by
    have := paired_vrs hF
    rw [filter_pvOf, em] at this
    exact this
  have ex : Ext s.heap h' := fun b o e => hk b o (fun hb => by rw [(hwr b hb).1] at e; cases e) (k₁.2.1 b o e)
  refine Gives.fresh g R.sub (vs := ys.toList) (n := n) ex ?_ (by simpa using ho) (VRs.mono (noReg_sub G) hv)
  cases z : s.heap.get? D with
  | none => rfl
  | some o => have := k₁.2.1 _ _ z; rw [hD] at this; cases this

theorem Ex.comp {iter elt : Expr} {x y : Str} {px py pos spos : Pos} {ifs : List Expr} {scope : Scope} {cl : List (Str × Addr)} {loc' : Loc} {xs : List PV} {pt : PV → Bool} {f : PV → PV} (S : CompS prog w h₀ A env loc x ifs elt scope cl loc' xs pt f) (hi : EvW prog w h₀ A env loc iter xs) (hE : EnvOk env)
    (hsw : swapsWith (.ListComp elt [⟨.Name x px, iter, ifs, 0⟩] scope pos) (some (.Name y py)) spos.line env = Pure.pure true)
    (hcl : closureFor scope env = pure cl) (hcell : ∀ y ∈ scope.names, y.2 ≠ .cell) (hkind : scope.kind = .function) (hnames : ∀ y ∈ scope.names, y.2 = .local → scope.names.lookup y.1 = some .local) (hx : scope.names.lookup x = some .local) (hy : env.kindOf y = some .local) (hz : xs.length ≤ sizeLine)
    (hs : ∀ x, foldedSetIterable iter env x = Pure.pure x := by intro _; rfl) : Ex prog w h₀ A env loc (.Assign [.Name y py] (.ListComp elt [⟨.Name x px, iter, ifs, 0⟩] scope pos) spos) .next ((y, .list ((xs.filter pt).map f)) :: loc) := by
  intro K G s Q R g
  have RE := R.toE
  obtain ⟨ad, Pr⟩ := R.priv
  obtain ⟨m, hm⟩ := Pr.ns
  obtain ⟨oL, _, _, hoL, _⟩ := id hm
  refine wpAny_Assign_ListComp_free (cl := cl) (fun v => pt (pvOf v)) (fun v y => VR noReg (f (pvOf v)) y) hsw hcl hcell hkind hnames hx hy (by rw [hE.kind]; rfl) ?_ hs
  refine hi G s _ RE fun G₁ h₁ t₁ I fp wr P St k₁ W hst hfp hwr hP => ?_
  have hP' : ∀ i v, P i v → ∃ p, xs[i]? = some p ∧ pvOf v = p ∧ VR noReg p v := fun i v hv => by
    obtain ⟨p, e1, e2⟩ := hP i v hv
    have fl := S.flat p (List.mem_of_getElem? e1)
    exact ⟨p, e1, e2.pvOf fl, e2.flat fl⟩
  refine ⟨I, fp, wr, xs.length, P, St, m, rfl, W, hz, hst, hfp, (fun hb => by rw [(hwr _ hb).1] at hoL; cases hoL), hm.keeps k₁.2.1, S.quiet hx RE k₁.2.1 (fun b hb => (hwr b hb).1) hP', ?_⟩
  intro D h' tk ys vs hD hl hpl hlen hPv hF hn hk
  obtain ⟨n, ho⟩ := hpl
  have em : vs.map pvOf = xs := map_pvOf hlen fun j v e => by obtain ⟨p, a, b, _⟩ := hP' j v (hPv j v e); exact ⟨p, a, b⟩
  have hv : VRs noReg ((xs.filter pt).map f) ys.toList := by
    have := paired_vrs hF
    rw [filter_pvOf, em] at this
    exact this
  have hDs : s.heap.get? D = none := by
    cases z : s.heap.get? D with
    | none => rfl
    | some o => have := k₁.2.1 _ _ z; rw [hD] at this; cases this
  have bt : ∀ b o, b ≠ env.locals → s.heap.get? b = some o → h'.get? b = some o := fun b o ne e => hk b o ne (fun hb => by rw [(hwr b hb).1] at e; cases e) (k₁.2.1 b o e)
  have hGD : G D = none := by
    cases z : G D with
    | none => rfl
    | some o => rw [R.sub D o z] at hDs; cases hDs
  have hGL : ∀ b o, G b = some o → b ≠ env.locals := fun b o e q => by rw [q, (Pr.off _ _ Pr.frame).2] at e; cases e
  have kk : RSub G (Reg.put G D (listOf ys.toList.toArray n)) := sub_put hGD
  have nG : ∀ b o, (Reg.put G D (listOf ys.toList.toArray n)) b = some o → G b = some o ∨ s.heap.get? b = none := fun b o z => by
    by_cases hb : b = D
    · exact .inr (hb ▸ hDs)
    · simp [Reg.put, hb] at z; exact .inl z
  refine g (Reg.put G D (listOf ys.toList.toArray n)) h' tk .next (R.setLocal hy hm bt hn kk (fun b o z => ?_) nG rfl (.list (n := n) (by simp [Reg.put]) (VRs.mono (noReg_sub _) hv))) ⟨kk, fun b o z => ?_⟩ trivial
  · by_cases hb : b = D
    · subst hb; simp [Reg.put] at z; subst z; simpa using ho
    · simp [Reg.put, hb] at z
      exact bt b o (hGL b o z) (R.sub b o z)
  · rcases nG b o z with q | q
    · exact .inl q
    · refine .inr ?_
      cases zz : K b with
      | none => rfl
      | some o' => rw [R.subK b o' zz] at q; cases q
end
end Mine
end
section
open PySem PySem.W PyProof.Rows PySem.Spec PySem.Calls
set_option maxRecDepth 100000
set_option maxHeartbeats 1000000
namespace Mine

/-- a def of the text stands at f -/
structure FnAt (h : Heap) (f : Addr) (name : Str) (params : Arguments) (body : List Stmt) (scope : Scope) (dV kV : Value) : Prop where
  is : ∃ o fd, h.get? f = some o ∧ o.data = .func fd ∧ fd.qualname = name ∧ fd.params = params ∧ fd.body = .stmts body ∧ fd.scope = scope ∧ fd.globals = mainGlobals ∧ fd.closure = [] ∧ fd.defaults = dV ∧ fd.kwdefaults = kV ∧ fd.builtins = builtinsNs ∧ h.CodeRec fd.code name
  co : scope.isCoroutine = false
  gen : scope.isGenerator = false
  kind : scope.kind = .function
  nodup : (scope.names.map (·.1)).Nodup

abbrev fenv (name : Str) (scope : Scope) (L f : Addr) (cd : Value) : Env :=
  newEnv scope L mainGlobals (cellsFrom (L + 1) scope.names []) (name ++ ".<locals>.") (some f) cd none builtinsNs

theorem fenvOk {name : Str} {scope : Scope} {L f : Addr} {cd : Value} (hk : scope.kind = .function) : EnvOk (fenv name scope L f cd) :=
  ⟨hk, rfl, rfl, by unfold interactive fenv newEnv; simp [hk]⟩

def Binds (h₀ : Heap) (params : Arguments) (dV kV : Value) (vs : List Value) (kvs : List (Str × Value)) (binds : List (Str × Value)) : Prop :=
  ∀ (s : Shared) (fd : FuncData), Ext h₀ s.heap → fd.params = params → fd.defaults = dV → fd.kwdefaults = kV → BindsTo s fd ⟨vs, kvs⟩ binds

theorem bindL_keep {k : Str → Option NameKind} {x : Str} : ∀ {b : List (Str × Value)} {m : Str → Option Value}, x ∉ b.map (·.1) → bindL k b m x = m x
  | [], _, _ => rfl
  | (n, v) :: r, m, h => by
    simp only [List.map_cons, List.mem_cons, not_or] at h
    unfold bindL
    rw [bindL_keep h.2]
    split
    · exact if_neg h.1
    · rfl
theorem bindL_at {k : Str → Option NameKind} {x : Str} {v : Value} : ∀ {b : List (Str × Value)} {m : Str → Option Value}, (b.map (·.1)).Nodup → b.lookup x = some v → k x = some .local → bindL k b m x = some v
  | [], _, _, e, _ => by simp at e
  | (n, u) :: r, m, nd, e, hk => by
    simp only [List.map_cons, List.nodup_cons] at nd
    rw [List.lookup_cons] at e
    unfold bindL
    by_cases hn : (x == n) = true
    · rw [hn] at e; cases e
      have : x = n := beq_iff_eq.mp hn
      subst this
      rw [bindL_keep nd.1, if_pos hk]
      exact if_pos rfl
    · have hn' : (x == n) = false := by simpa using hn
      rw [hn'] at e
      exact bindL_at nd.2 e hk
theorem bindC_keep {k : Str → Option NameKind} {x : Str} : ∀ {b : List (Str × Value)} {m : Str → Option Value}, x ∉ b.map (·.1) → bindC k b m x = m x
  | [], _, _ => rfl
  | (n, v) :: r, m, h => by
    simp only [List.map_cons, List.mem_cons, not_or] at h
    unfold bindC
    rw [bindC_keep h.2]
    split
    · rfl
    · exact if_neg h.1
theorem bindC_at {k : Str → Option NameKind} {x : Str} {v : Value} : ∀ {b : List (Str × Value)} {m : Str → Option Value}, (b.map (·.1)).Nodup → b.lookup x = some v → k x = some .cell → bindC k b m x = some v
  | [], _, _, e, _ => by simp at e
  | (n, u) :: r, m, nd, e, hk => by
    simp only [List.map_cons, List.nodup_cons] at nd
    rw [List.lookup_cons] at e
    unfold bindC
    by_cases hn : (x == n) = true
    · rw [hn] at e; cases e
      have : x = n := beq_iff_eq.mp hn
      subst this
      rw [bindC_keep nd.1, if_neg (by rw [hk]; decide)]
      exact if_pos rfl
    · have hn' : (x == n) = false := by simpa using hn
      rw [hn'] at e
      exact bindC_at nd.2 e hk

def retOf : PR → PV
  | .ret p => p
  | _ => .none
def flowV : Flow → Value
  | .ret v => v
  | _ => .none
theorem FR.out {G : Reg} {r : PR} {f : Flow} (h : FR G r f) : VR G (retOf r) (flowV f) := by
  cases r <;> cases f <;> first | exact h | exact VR.none | exact h.elim

section
variable {prog : Program} {w : World} {h₀ : Heap} {A : Around}

open Classical in
theorem FnAt.enter {mg mb : Str → Option Value} {f : Addr} {name : Str} {params : Arguments} {body : List Stmt} {scope : Scope} {dV kV : Value} (F : FnAt h₀ f name params body scope dV kV) (hB : Base h₀ mg mb) {K G : Reg} {s : Shared} {vs : List Value} {kvs binds : List (Str × Value)} {loc loc' : Loc} {r : PR} {Q : Value → Shared → Prop}
    (hroom : A.depth < recursionLimit) (base : ∀ b o, h₀.get? b = some o → G b = some o) (sK : Sub K s.heap) (sG : Sub G s.heap) (hb : Binds h₀ params dV kV vs kvs binds) (nd : (binds.map (·.1)).Nodup)
    (hkind : (binds.all fun y => scope.names.lookup y.1 == some .local || scope.names.lookup y.1 == some .cell) = true)
    (hv : ∀ x p, loc.lookup x = some p → p.pure = true → ∃ v, binds.lookup x = some v ∧ VR G p v) (xo : Str) (a₀ : Addr)
    (ho : ∀ x oo xs, loc.lookup x = some (.own oo xs) → x = xo ∧ (∀ b, oo = some b → a₀ = b) ∧ ∃ n us, binds.lookup x = some (.ref a₀) ∧ s.heap.get? a₀ = some (listOf (List.toArray us) n) ∧ VRs G xs us ∧ K a₀ = none ∧ G a₀ = none)
    (hbody : ∀ L cd, Exs prog w h₀ (A.deeper (fenv name scope L f cd)) (fenv name scope L f cd) loc body r loc')
    (g : ∀ G' h' tk v L cd, Rep h₀ K G' (fenv name scope L f cd) loc' h' → PostS K G G' → VR G' (retOf r) v → Q v { s with heap := h', toks := tk }) :
    wpAny (model prog w) A (call (.ref f) vs kvs) Q NoE s := by
  obtain ⟨o, fd, hget, hdata, e1, e2, e3, e4, e5, e6, e7, e8, e9, hcr⟩ := F.is
  have exs : Ext h₀ s.heap := fun b o e => sG b o (base b o e)
  have hbindTo := hb s fd exs e2 e7 e8
  have binds_kind : ∀ x v, binds.lookup x = some v → scope.names.lookup x = some .local ∨ scope.names.lookup x = some .cell := fun x v e => by
    have := List.all_eq_true.mp hkind (x, v) (mem_of_lookup e)
    rcases Bool.or_eq_true_iff.mp this with q | q
    · exact .inl (by simpa using q)
    · exact .inr (by simpa using q)
  refine wpAny_call (codeAny_call_function hroom (exs _ _ hget) hdata (by rw [e4]; exact F.co) (by rw [e4]; exact F.gen) e3 (by rw [e1]; exact hcr.keeps exs) (hbindTo _ _ _ _ ?_))
  rw [e1, e4, e5, e6, e9]
  refine wpAny_newFunctionEnv_cells F.kind (fun x hx => ?_) fun env he s' X => ?_
  · exact kindsX hkind _ x hx
  have he' : env = fenv name scope s.heap.objs.size f fd.code := he
  subst he'
  obtain ⟨h₁, tk₁, rfl, _⟩ := X.done
  refine ⟨hB.lim.keeps fun b o e => X.toInCall.keep b o (exs b o e), codeAny_func ?_⟩
  have hL : (fenv name scope s.heap.objs.size f fd.code).locals = s.heap.objs.size := rfl
  have keep := X.toInCall.keep
  have kof : ∀ x, (fenv name scope s.heap.objs.size f fd.code).kindOf x = scope.names.lookup x := fun _ => rfl
  have ltS : ∀ b o, s.heap.get? b = some o → b < s.heap.objs.size := fun b o e => Heap.lt_size e
  have nS : ∀ b, s.heap.objs.size ≤ b → s.heap.get? b = none := fun b hb => by
    cases z : s.heap.get? b with
    | none => rfl
    | some o => exact absurd (ltS b o z) (Nat.not_lt.mpr hb)
  have offOf : ∀ b, s.heap.objs.size ≤ b → K b = none ∧ G b = none := fun b hb => by
    constructor
    · cases z : K b with
      | none => rfl
      | some o => have := sK b o z; rw [nS b hb] at this; cases this
    · cases z : G b with
      | none => rfl
      | some o => have := sG b o z; rw [nS b hb] at this; cases this
  have rd : ∀ x v, binds.lookup x = some v → Reads (fenv name scope s.heap.objs.size f fd.code) h₁ x v := fun x v e => by
    rcases binds_kind x v e with k | k
    · exact .inl ⟨k, _, X.toInCall.ns, bindL_at nd e k⟩
    · have hs := cellsFrom_some scope.names (s.heap.objs.size + 1) [] (.inl k)
      obtain ⟨c, hc⟩ := Option.isSome_iff_exists.mp hs
      refine .inr ⟨k, c, hc, ?_⟩
      have := X.cell x c hc
      rw [bindC_at nd e k] at this
      exact this
  have R : Rep h₀ K G (fenv name scope s.heap.objs.size f fd.code) loc h₁ := by
    refine ⟨base, fun b o e => keep b o (sK b o e), fun b o e => keep b o (sG b o e), fun x p e hp => ?_, ?_⟩
    · obtain ⟨v, e1, e2⟩ := hv x p e hp
      exact ⟨v, rd x v e1, e2⟩
    · let ad : Pv → Option Addr := fun q => match q with
        | .frame => some s.heap.objs.size
        | .cell x => if scope.names.lookup x = some .cell then (cellsFrom (s.heap.objs.size + 1) scope.names []).lookup x else none
        | .own x => if (∃ oo xs, loc.lookup x = some (.own oo xs)) ∧ x = xo then some a₀ else none
      have hcell : ∀ x c, ad (.cell x) = some c → (cellsFrom (s.heap.objs.size + 1) scope.names []).lookup x = some c := fun x c e => by
        simp only [ad] at e
        split at e
        · exact e
        · cases e
      have hownA : ∀ x a, ad (.own x) = some a → a = a₀ ∧ x = xo ∧ ∃ oo xs, loc.lookup x = some (.own oo xs) := fun x a e => by
        simp only [ad] at e
        split at e
        · rename_i q; cases e; exact ⟨rfl, q.2, q.1⟩
        · cases e
      have ltA : ∀ x a, ad (.own x) = some a → a < s.heap.objs.size := fun x a e => by
        obtain ⟨rfl, _, oo, xs, q⟩ := hownA x a e
        obtain ⟨_, _, n, us, _, hh, _⟩ := ho x oo xs q
        exact ltS _ _ hh
      have gtC : ∀ x c, ad (.cell x) = some c → s.heap.objs.size < c := fun x c e => X.above x c (mem_of_lookup (hcell x c e))
      refine ⟨ad, rfl, ⟨_, X.toInCall.ns⟩, fun x hx => ?_, fun x oo xs e => ?_, fun p q a ep eq => ?_, fun p a e => ?_, fun p a e => ?_⟩
      · have hs := cellsFrom_some scope.names (s.heap.objs.size + 1) [] (.inl hx)
        obtain ⟨c, hc⟩ := Option.isSome_iff_exists.mp hs
        refine ⟨c, _, hc, ?_, X.cell x c hc⟩
        simp only [ad]
        exact (if_pos hx).trans hc
      · obtain ⟨rfl, qb, n, us, q1, q2, q3, _⟩ := ho x oo xs e
        exact ⟨a₀, n, us, if_pos ⟨⟨oo, xs, e⟩, rfl⟩, rd x _ q1, keep _ _ q2, q3, qb⟩
      · cases p with
        | frame =>
          cases q with
          | frame => rfl
          | cell y => cases ep; exact absurd (gtC y _ eq) (Nat.lt_irrefl _)
          | own y => cases ep; exact absurd (ltA y _ eq) (Nat.lt_irrefl _)
        | cell x =>
          cases q with
          | frame => cases eq; exact absurd (gtC x _ ep) (Nat.lt_irrefl _)
          | cell y => rw [name_of_addr X.apart (mem_of_lookup (hcell x a ep)) (mem_of_lookup (hcell y a eq))]
          | own y => exact absurd (Nat.lt_trans (gtC x _ ep) (ltA y _ eq)) (Nat.lt_irrefl _)
        | own x =>
          cases q with
          | frame => cases eq; exact absurd (ltA x _ ep) (Nat.lt_irrefl _)
          | cell y => exact absurd (Nat.lt_trans (gtC y _ eq) (ltA x _ ep)) (Nat.lt_irrefl _)
          | own y => rw [(hownA x a ep).2.1, (hownA y a eq).2.1]
      · cases p with
        | frame => cases e; exact offOf _ (Nat.le_refl _)
        | cell x => exact offOf a (Nat.le_of_lt (gtC x a e))
        | own x =>
          obtain ⟨rfl, _, oo, xs, q⟩ := hownA x a e
          obtain ⟨_, _, n, us, _, _, _, z1, z2⟩ := ho x oo xs q
          exact ⟨z1, z2⟩
      · cases p with
        | frame => cases e; obtain ⟨o, _, _, q, _⟩ := X.toInCall.ns; exact ⟨o, q⟩
        | cell x => obtain ⟨o, q, _⟩ := X.cell x a (hcell x a e); exact ⟨o, q⟩
        | own x =>
          obtain ⟨rfl, _, oo, xs, q⟩ := hownA x a e
          obtain ⟨_, _, n, us, _, hh, _⟩ := ho x oo xs q
          exact ⟨_, keep _ _ hh⟩
  refine wp_no (hbody s.heap.objs.size fd.code K G _ _ R fun G' h' tk fl R' k hf => ?_)
  have := hf.out
  exact g G' h' tk (flowV fl) _ _ R' k this
end
end Mine
end
section
open PySem PySem.W PyProof.Rows PySem.Spec PySem.Calls
set_option maxRecDepth 100000
set_option maxHeartbeats 1000000
namespace Mine
section
variable {prog : Program} {w : World} {h₀ : Heap} {mg mb : Str → Option Value} {A : Around} {env : Env} {loc : Loc}

inductive KwR (G : Reg) : List (Str × PV) → List (Str × Value) → Prop
  | nil : KwR G [] []
  | cons {x : Str} {p : PV} {v : Value} {l : List (Str × PV)} {b : List (Str × Value)} (h : VR G p v) (r : KwR G l b) : KwR G ((x, p) :: l) ((x, v) :: b)
theorem KwR.mono {G G' : Reg} (k : RSub G G') : ∀ {l : List (Str × PV)} {b : List (Str × Value)}, KwR G l b → KwR G' l b
  | _, _, .nil => .nil
  | _, _, .cons h r => .cons (VR.mono k h) (KwR.mono k r)

/-- a call of a def that changes nothing: what it gives back -/
def Calls (prog : Program) (w : World) (h₀ : Heap) (A : Around) (f : Addr) (ps : List PV) (kw : List (Str × PV)) (r : PV) : Prop :=
  ∀ G s vs kvs (Q : Value → Shared → Prop), (∀ b o, h₀.get? b = some o → G b = some o) → Sub G s.heap → VRs G ps vs → KwR G kw kvs →
    (∀ G' h' tk v, Post G s.heap G' h' → VR G' r v → Q v { s with heap := h', toks := tk }) → wpAny (model prog w) A (call (.ref f) vs kvs) Q NoE s

/-- how the arguments of a call lie in the new frame -/
def BindsP (h₀ : Heap) (params : Arguments) (dV kV : Value) (scope : Scope) (ps : List PV) (kw : List (Str × PV)) (loc : Loc) : Prop :=
  ∀ G vs kvs, (∀ b o, h₀.get? b = some o → G b = some o) → VRs G ps vs → KwR G kw kvs →
    ∃ binds, Binds h₀ params dV kV vs kvs binds ∧ (binds.map (·.1)).Nodup ∧ (binds.all fun y => scope.names.lookup y.1 == some .local || scope.names.lookup y.1 == some .cell) = true ∧
      ∀ x p, loc.lookup x = some p → ∃ v, binds.lookup x = some v ∧ VR G p v

theorem Calls.intro {f : Addr} {name : Str} {params : Arguments} {body : List Stmt} {scope : Scope} {dV kV : Value} (F : FnAt h₀ f name params body scope dV kV) (hB : Base h₀ mg mb) {ps : List PV} {kw : List (Str × PV)} {l l' : Loc} {r : PR}
    (hroom : A.depth < recursionLimit) (hb : BindsP h₀ params dV kV scope ps kw l) (hbody : ∀ L cd, Exs prog w h₀ (A.deeper (fenv name scope L f cd)) (fenv name scope L f cd) l body r l') : Calls prog w h₀ A f ps kw (retOf r) := by
  intro G s vs kvs Q base S hv hk g
  obtain ⟨binds, b1, b2, b3, b4⟩ := hb G vs kvs base hv hk
  refine F.enter (K := fun b => s.heap.get? b) hB hroom base (fun b o e => e) S b1 b2 b3 (fun x p e _ => b4 x p e) ("" : Str) 0 (fun x oo xs e => ?_) hbody fun G' h' tk v L cd R k hv' => ?_
  · obtain ⟨v, _, z⟩ := b4 x _ e; cases z
  · refine g G' h' tk v ⟨k.1, fun b o e => R.subK b o e, R.sub, fun b o e => ?_⟩ hv'
    exact k.2 b o e

theorem frz_all {G : Reg} {h : Heap} (S : Sub G h) : ∀ {ps : List PV} {vs : List Value}, VRos G h ps vs → VRs (fun b => h.get? b) (ps.map PV.frz) vs
  | _, _, .nil => .nil
  | p :: _, _, .cons a r => by
    refine .cons ?_ (frz_all S r)
    have kk : RSub G (fun b => h.get? b) := fun b o e => S b o e
    cases p with
    | own oo xs =>
      obtain ⟨a', n, vs', rfl, ho, hv, _⟩ := a
      exact .list ho (VRs.mono kk hv)
    | none => exact VR.mono kk a
    | bool b => exact VR.mono kk a
    | int b => exact VR.mono kk a
    | str b => exact VR.mono kk a
    | bytes b => exact VR.mono kk a
    | val b => exact VR.mono kk a
    | list b => exact VR.mono kk a

def IsFn (h₀ : Heap) (f : Addr) : Prop := ∃ o fd, h₀.get? f = some o ∧ o.data = .func fd
theorem FnAt.isFn {f : Addr} {name : Str} {params : Arguments} {body : List Stmt} {scope : Scope} {dV kV : Value} (F : FnAt h₀ f name params body scope dV kV) : IsFn h₀ f := by
  obtain ⟨o, fd, a, b, _⟩ := F.is; exact ⟨o, fd, a, b⟩

theorem Ev.callF {fx e : Expr} {rest : List Expr} {pos : Pos} {f : Addr} {ps : List PV} {r : PV} (hf : Ev prog w h₀ A env loc fx (.val (.ref f))) (hfn : IsFn h₀ f) (ha : EvArgs prog w h₀ A env loc (e :: rest) ps) (hp : allPure ps = true) (hC : Calls prog w h₀ A f ps [] r)
    (hc : eval (.Call fx (e :: rest) [] pos) env = (do callWith pos (← eval fx env) [] (backTo pos (starEach (e :: rest) env)) (backToKw pos (keywordEach [] env))) := by rfl)
    (hst : starEach (e :: rest) env = (false, eval e env) :: starEach rest env := by rfl) :
    Ev prog w h₀ A env loc (.Call fx (e :: rest) [] pos) r := by
  intro G s Q R g
  obtain ⟨o, fd, hget, hd⟩ := hfn
  refine Call_ (hf G s _ R fun G₁ h₁ t₁ v k₁ hv => ?_) hc
  cases hv
  refine callWith_def_at (h' := h₀) hget hd (ha G₁ _ pos _ (R.post k₁) fun G₂ h₂ t₂ vs k₂ hvs => ⟨((R.post k₁).post k₂).ext _ _ hget, ?_⟩) hst
  refine hC G₂ { s with heap := h₂, toks := t₂ } vs [] Q ((R.post k₁).post k₂).base k₂.2.2.1 (hvs.vrs hp) .nil fun G' h' tk v k hv => ?_
  exact g G' h' tk v ((k₁.trans k₂).trans k) (VRo.of hv)
/-- own lists may be handed on where a scalar comes back -/
theorem Ev.callFo {fx e : Expr} {rest : List Expr} {pos : Pos} {f : Addr} {ps : List PV} {r : PV} (hf : Ev prog w h₀ A env loc fx (.val (.ref f))) (hfn : IsFn h₀ f) (ha : EvArgs prog w h₀ A env loc (e :: rest) ps) (hr : r.flat = true) (hC : Calls prog w h₀ A f (ps.map PV.frz) [] r)
    (hc : eval (.Call fx (e :: rest) [] pos) env = (do callWith pos (← eval fx env) [] (backTo pos (starEach (e :: rest) env)) (backToKw pos (keywordEach [] env))) := by rfl)
    (hst : starEach (e :: rest) env = (false, eval e env) :: starEach rest env := by rfl) :
    Ev prog w h₀ A env loc (.Call fx (e :: rest) [] pos) r := by
  intro G s Q R g
  obtain ⟨o, fd, hget, hd⟩ := hfn
  refine Call_ (hf G s _ R fun G₁ h₁ t₁ v k₁ hv => ?_) hc
  cases hv
  refine callWith_def_at (h' := h₀) hget hd (ha G₁ _ pos _ (R.post k₁) fun G₂ h₂ t₂ vs k₂ hvs => ⟨((R.post k₁).post k₂).ext _ _ hget, ?_⟩) hst
  have kk := k₁.trans k₂
  refine hC (fun b => h₂.get? b) { s with heap := h₂, toks := t₂ } vs [] Q (fun b o e => ((R.post k₁).post k₂).ext _ _ e) (fun b o e => e) (frz_all kk.2.2.1 hvs) .nil fun G' h' tk v k hv => ?_
  exact g G₂ h' tk v (kk.trans ⟨RSub.refl _, k.2.1, fun b o e => k.2.1 b o (kk.2.2.1 b o e), fun _ _ e => .inl e⟩) (VRo.of (hv.flat hr))
/-- with one keyword -/
theorem Ev.callK {x : Str} {np : Pos} {e ke : Expr} {rest : List Expr} {k : Str} {kp pos : Pos} {f : Addr} {ps : List PV} {q r : PV} (hf : Ev prog w h₀ A env loc (.Name x np) (.val (.ref f))) (hfn : IsFn h₀ f) (ha : EvArgs prog w h₀ A env loc (e :: rest) ps) (hk : Ev prog w h₀ A env loc ke q) (hq : q.pure = true)
    (hr : r.flat = true) (hC : Calls prog w h₀ A f (ps.map PV.frz) [(k, q)] r)
    (hst : starEach (e :: rest) env = (false, eval e env) :: starEach rest env := by rfl) :
    Ev prog w h₀ A env loc (.Call (.Name x np) (e :: rest) [⟨some k, ke, kp⟩] pos) r := by
  intro G s Q R g
  obtain ⟨o, fd, hget, hd⟩ := hfn
  refine wpAny_Call_Name_kw (hf G s _ R fun G₁ h₁ t₁ v k₁ hv => ?_)
  cases hv
  refine callWith_def_kw (o := o) hd ?_
  have hb : backTo pos (starEach (e :: rest) env) = (false, eval e env) :: backTo pos (starEach rest env) := by rw [hst]; rfl
  rw [hb]
  refine evalArgs_kw (by rfl) ?_
  rw [← hb]
  refine ha G₁ _ pos _ (R.post k₁) fun G₂ h₂ t₂ vs k₂ hvs => ?_
  show wpAny (model prog w) A (evalAll [(do let v ← eval ke env; standAt pos; pure v)]) _ NoE _
  refine wpAny_evalAll_cons (wpAny_bind (hk G₂ _ _ ((R.post k₁).post k₂) fun G₃ h₃ t₃ u k₃ hu => ?_))
  refine wpAny_bind (wpAny_standAt (wpAny_pure (wpAny_evalAll_nil ?_)))
  have kk := (k₁.trans k₂).trans k₃
  refine ⟨(((R.post k₁).post k₂).post k₃).ext _ _ hget, ?_⟩
  refine hC (fun b => h₃.get? b) { s with heap := h₃, toks := t₃ } vs [(k, u)] Q (fun b o e => (((R.post k₁).post k₂).post k₃).ext _ _ e) (fun b o e => e) (frz_all k₃.2.2.1 (hvs.mono k₃.1 k₃.2.1))
    (.cons (VR.mono (fun b o e => k₃.2.2.1 b o e) (hu.vr hq)) .nil) fun G' h' tk v k' hv => ?_
  exact g G₃ h' tk v (kk.trans ⟨RSub.refl _, k'.2.1, fun b o e => k'.2.1 b o (kk.2.2.1 b o e), fun _ _ e => .inl e⟩) (VRo.of (hv.flat hr))

-- own lists
theorem Rep.setOwn {K G : Reg} {h h' : Heap} {x : Str} {oo : Option Addr} {xs xs' : List PV} (R : Rep h₀ K G env loc h) (hl : loc.lookup x = some (.own oo xs))
    (H : ∀ a n vs, h.get? a = some (listOf (List.toArray vs) n) → VRs G xs vs → Reads env h x (.ref a) → Heap.ExtBut a h h' ∧ ∃ n' vs', h'.get? a = some (listOf (List.toArray vs') n') ∧ VRs G xs' vs') : Rep h₀ K G env ((x, .own oo xs') :: loc) h' := by
  obtain ⟨ad, P⟩ := R.priv
  obtain ⟨a, n, vs, e1, e2, e3, e4, e5⟩ := P.own x oo xs hl
  obtain ⟨bt, n', vs', q1, q2⟩ := H a n vs e3 e4 e2
  have look : ∀ {y q}, ((x, PV.own oo xs') :: loc).lookup y = some q → (y = x ∧ q = .own oo xs') ∨ (y ≠ x ∧ loc.lookup y = some q) := by
    intro y q e
    rw [List.lookup_cons] at e
    by_cases hy : (y == x) = true
    · rw [hy] at e; cases e; exact .inl ⟨beq_iff_eq.mp hy, rfl⟩
    · have hy' : (y == x) = false := by simpa using hy
      rw [hy'] at e; exact .inr ⟨fun z => hy (by simp [z]), e⟩
  have nL : env.locals ≠ a := fun q => by have := P.inj _ _ _ P.frame (q ▸ e1); cases this
  have nC : ∀ y c, env.kindOf y = some .cell → env.cells.lookup y = some c → c ≠ a := fun y c k e q => by
    obtain ⟨c', _, z1, z2, _⟩ := P.cell y k
    rw [e] at z1; cases z1
    have := P.inj _ _ _ (q ▸ z2) e1; cases this
  have rd : ∀ y v, Reads env h y v → Reads env h' y v := fun y v r => r.but bt nL fun c k e => nC y c k e
  refine ⟨R.base, fun b o e => bt b o (fun q => by rw [q, (P.off _ _ e1).1] at e; cases e) (R.subK b o e), fun b o e => bt b o (fun q => by rw [q, (P.off _ _ e1).2] at e; cases e) (R.sub b o e), fun y q e hq => ?_, ad, P.frame, ?_, fun y hy => ?_, fun y o ys e => ?_, P.inj, P.off, fun q b e => ?_⟩
  · rcases look e with ⟨rfl, rfl⟩ | ⟨ne, e⟩
    · cases hq
    · obtain ⟨v, r, vr⟩ := R.vars y q e hq; exact ⟨v, rd y v r, vr⟩
  · obtain ⟨m, hm⟩ := P.ns; exact ⟨m, hm.at' fun o e => bt _ o nL e⟩
  · obtain ⟨c, v₀, z1, z2, o, ho, hd⟩ := P.cell y hy
    exact ⟨c, v₀, z1, z2, o, bt _ o (nC y c hy z1) ho, hd⟩
  · rcases look e with ⟨rfl, e9⟩ | ⟨ne, e⟩
    · cases e9; exact ⟨a, n', vs', e1, rd _ _ e2, q1, q2, e5⟩
    · obtain ⟨b, m, us, z1, z2, z3, z4, z5⟩ := P.own y o ys e
      exact ⟨b, m, us, z1, rd y _ z2, bt _ _ (fun q => by have := P.inj _ _ _ (q ▸ z1) e1; cases this; exact ne rfl) z3, z4, z5⟩
  · by_cases hb : b = a
    · subst hb; exact ⟨_, q1⟩
    · obtain ⟨o, ho⟩ := P.there q b e; exact ⟨o, bt b o hb ho⟩

theorem Rep.push {K G : Reg} {h : Heap} {o : Obj} (R : Rep h₀ K G env loc h) (hf : o.isFreed = false) : Rep h₀ (Reg.put K h.objs.size o) G env loc (h.push o) := by
  obtain ⟨ad, P⟩ := R.priv
  have e := ext_push h o
  have ne : ∀ p a, ad p = some a → a ≠ h.objs.size := fun p a z q => by obtain ⟨o', ho'⟩ := P.there p a z; rw [q, get_size_none] at ho'; cases ho'
  refine ⟨R.base, fun b q z => ?_, fun b q z => e b q (R.sub b q z), fun x p z hp => ?_, ad, P.frame, ?_, ?_, ?_, P.inj, fun p a z => ⟨?_, (P.off p a z).2⟩, fun p a z => ?_⟩
  · by_cases hb : b = h.objs.size
    · subst hb; simp [Reg.put] at z; subst z; exact Heap.get?_push_size _ hf
    · simp [Reg.put, hb] at z; exact e b q (R.subK b q z)
  · obtain ⟨v, r, vr⟩ := R.vars x p z hp; exact ⟨v, r.ext e, vr⟩
  · obtain ⟨m, hm⟩ := P.ns; exact ⟨m, hm.keeps e⟩
  · intro x hx
    obtain ⟨c, v₀, z1, z2, z3⟩ := P.cell x hx
    exact ⟨c, v₀, z1, z2, z3.keeps e⟩
  · intro x oo xs z
    obtain ⟨a, n, vs, z1, z2, z3, z4, z5⟩ := P.own x oo xs z
    exact ⟨a, n, vs, z1, z2.ext e, e _ _ z3, z4, z5⟩
  · simp [Reg.put, ne p a z]; exact (P.off p a z).1
  · obtain ⟨o', ho'⟩ := P.there p a z; exact ⟨o', e _ _ ho'⟩
open Classical in
theorem Rep.claim {K G : Reg} {h : Heap} {x : Str} {a : Addr} {n : Nat} {vs : List Value} {xs : List PV} (R : Rep h₀ (Reg.put K a (listOf vs.toArray n)) G env ((x, .val (.ref a)) :: loc) h) (hK : K a = none) (hG : G a = none) (hv : VRs G xs vs) :
    Rep h₀ K G env ((x, .own none xs) :: loc) h := by
  obtain ⟨ad, P⟩ := R.priv
  have ne : ∀ p b, ad p = some b → b ≠ a := fun p b z q => by have := (P.off p b z).1; rw [q] at this; simp [Reg.put] at this
  have ho : h.get? a = some (listOf vs.toArray n) := R.subK a _ (by simp [Reg.put])
  have rx : Reads env h x (.ref a) := by
    obtain ⟨v, r, vr⟩ := R.vars x (.val (.ref a)) (by rw [List.lookup_cons]; simp) rfl
    cases vr; exact r
  have look : ∀ {y q}, ((x, PV.own none xs) :: loc).lookup y = some q → (y = x ∧ q = .own none xs) ∨ (y ≠ x ∧ loc.lookup y = some q) := by
    intro y q e
    rw [List.lookup_cons] at e
    by_cases hy : (y == x) = true
    · rw [hy] at e; cases e; exact .inl ⟨beq_iff_eq.mp hy, rfl⟩
    · have hy' : (y == x) = false := by simpa using hy
      rw [hy'] at e; exact .inr ⟨fun z => hy (by simp [z]), e⟩
  have up : ∀ {y q}, y ≠ x → loc.lookup y = some q → ((x, PV.val (.ref a)) :: loc).lookup y = some q := by
    intro y q ne e
    rw [List.lookup_cons]
    have hy' : (y == x) = false := by simpa using ne
    rw [hy']; exact e
  let ad' : Pv → Option Addr := fun p => if p = .own x then some a else ad p
  have h1 : ad' (.own x) = some a := if_pos rfl
  have h2 : ∀ p, p ≠ .own x → ad' p = ad p := fun p q => if_neg q
  refine ⟨R.base, fun b q z => R.subK b q (sub_put hK b q z), R.sub, fun y q e hq => ?_, ad', (h2 _ (by intro z; cases z)).trans P.frame, P.ns, fun y hy => ?_, fun y o ys e => ?_, fun p q b ep eq => ?_, fun p b e => ?_, fun p b e => ?_⟩
  · rcases look e with ⟨rfl, rfl⟩ | ⟨ne, e⟩
    · cases hq
    · exact R.vars y q (up ne e) hq
  · obtain ⟨c, v₀, z1, z2, z3⟩ := P.cell y hy
    exact ⟨c, v₀, z1, (h2 _ (by intro z; cases z)).trans z2, z3⟩
  · rcases look e with ⟨rfl, e9⟩ | ⟨ny, e⟩
    · cases e9; exact ⟨a, n, vs, h1, rx, ho, hv, fun b z => by cases z⟩
    · obtain ⟨b, m, us, z1, z2, z3, z4, z5⟩ := P.own y o ys (up ny e)
      exact ⟨b, m, us, (h2 _ (by intro z; cases z; exact ny rfl)).trans z1, z2, z3, z4, z5⟩
  · by_cases hp : p = .own x
    · by_cases hq : q = .own x
      · rw [hp, hq]
      · rw [hp, h1] at ep; cases ep
        rw [h2 q hq] at eq
        exact absurd rfl (ne q _ eq)
    · by_cases hq : q = .own x
      · rw [hq, h1] at eq; cases eq
        rw [h2 p hp] at ep
        exact absurd rfl (ne p _ ep)
      · rw [h2 p hp] at ep; rw [h2 q hq] at eq
        exact P.inj p q b ep eq
  · by_cases hp : p = .own x
    · rw [hp, h1] at e; cases e; exact ⟨hK, hG⟩
    · rw [h2 p hp] at e
      refine ⟨?_, (P.off p b e).2⟩
      have := (P.off p b e).1
      simp [Reg.put, ne p b e] at this; exact this
  · by_cases hp : p = .own x
    · rw [hp, h1] at e; cases e; exact ⟨_, ho⟩
    · rw [h2 p hp] at e; exact P.there p b e

theorem Ex.assignOwn {x : Str} {pos pos' lp : Pos} {elts : List Expr} {ps : List PV} (ha : EvArgs prog w h₀ A env loc elts ps) (hE : EnvOk env) (hp : allPure ps = true) (hz : ps.length ≤ sizeLine) (hk : env.kindOf x = some .local ∨ env.kindOf x = some .cell)
    (hsw : swapsWith (.List elts lp) (some (.Name x pos')) pos.line env = Pure.pure false := by rfl) : Ex prog w h₀ A env loc (.Assign [.Name x pos'] (.List elts lp) pos) .next ((x, .own none ps) :: loc) := by
  intro K G s Q R g
  refine wpAny_Assign_Name (wpAny_List_spliced (ha G s lp _ R.toE fun G₁ h₁ t₁ vs k₁ hvs => ?_)) hsw
  have hv := hvs.vrs hp
  refine ⟨by rw [hv.length]; exact hz, ?_⟩
  have R₁ := R.post k₁
  have R₂ := R₁.push (o := listOf vs.toArray 0) rfl
  have hK : K h₁.objs.size = none := by
    cases z : K h₁.objs.size with
    | none => rfl
    | some o => have := R₁.subK _ _ z; rw [get_size_none] at this; cases this
  have hG : G₁ h₁.objs.size = none := by
    cases z : G₁ h₁.objs.size with
    | none => rfl
    | some o => have := R₁.sub _ _ z; rw [get_size_none] at this; cases this
  refine R₂.storeP (s := { s with heap := h₁.push (listOf vs.toArray 0), toks := t₁ }) hE hk rfl (VR.val _) fun h' tk R₃ => ?_
  exact g G₁ h' tk .next (R₃.claim hK hG hv) (PostS.of R.subK k₁) trivial

theorem meth_list {s : Shared} {l : Addr} {n : Nat} {its : Array Value} {name : Str} {id : String} {pl : Sem Bool} {Q : Value × List Value → Shared → Prop} (slot : Slot "list" name id) (hty : typeOf (.builtin id) = pure (.type "method_descriptor")) (ho : s.heap.get? l = some (listOf its n))
    (h : Q (.builtin id, [.ref l]) s) : wpAny (model prog w) A (getMethod (.ref l) name pl) Q NoE s :=
  getMethod_list_of slot hty (isList_of ho) ⟨_, ho, rfl⟩ h

theorem Reads.same {h : Heap} {x : Str} {v u : Value} (a : Reads env h x v) (b : Reads env h x u) : v = u := by
  rcases a with ⟨k, m, hn, hm⟩ | ⟨k, c, hc, o, ho, hd⟩
  · rcases b with ⟨k', m', hn', hm'⟩ | ⟨k', _⟩
    · have := Heap.Ns.agree hn hn' x
      rw [hm, hm'] at this; exact Option.some.inj this
    · rw [k] at k'; cases k'
  · rcases b with ⟨k', _⟩ | ⟨k', c', hc', o', ho', hd'⟩
    · rw [k] at k'; cases k'
    · rw [hc] at hc'; cases hc'
      rw [ho] at ho'; cases ho'
      rw [hd] at hd'; cases hd'; rfl
theorem Rep.ownAt {K G : Reg} {h : Heap} {x : Str} {oo : Option Addr} {xs : List PV} (R : Rep h₀ K G env loc h) (hl : loc.lookup x = some (.own oo xs)) :
    ∃ a n vs, Reads env h x (.ref a) ∧ h.get? a = some (listOf (List.toArray vs) n) ∧ VRs G xs vs ∧ ∀ b, oo = some b → a = b := by
  obtain ⟨ad, P⟩ := R.priv
  obtain ⟨a, n, vs, _, e2, e3, e4, e5⟩ := P.own x oo xs hl
  exact ⟨a, n, vs, e2, e3, e4, e5⟩
theorem Rep.setOwnAt {K G : Reg} {h h' : Heap} {x : Str} {oo : Option Addr} {xs xs' : List PV} {a : Addr} {n' : Nat} {vs' : List Value} (R : Rep h₀ K G env loc h) (hl : loc.lookup x = some (.own oo xs)) (hr : Reads env h x (.ref a)) (he : Heap.ExtBut a h h')
    (ho : h'.get? a = some (listOf vs'.toArray n')) (hv : VRs G xs' vs') : Rep h₀ K G env ((x, .own oo xs') :: loc) h' :=
  R.setOwn hl fun a' n vs _ _ q => by
    have := hr.same q
    cases this
    exact ⟨he, n', vs', ho, hv⟩
theorem name_reads {x : Str} {np : Pos} {v : Value} {s : Shared} {Q : Value → Shared → Prop} (hE : EnvOk env) (r : Reads env s.heap x v) (h : Q v s) (hd : (x == ("__debug__" : Str)) = false := by decide) : wpAny (model prog w) A (eval (.Name x np) env) Q NoE s := by
  refine wpAny_Name ?_ hd
  rcases r with ⟨k, m, hn, hm⟩ | ⟨k, c, hc, hv⟩
  · exact wpAny_loadName_local hE.kind k hn hm h
  · exact wpAny_loadName_cell hE.kind k hc hv h

theorem Ex.append {x : Str} {e : Expr} {np ap cp pos : Pos} {oo : Option Addr} {xs : List PV} {p : PV} {pl : Sem Bool} (hl : loc.lookup x = some (.own oo xs)) (he : Ev prog w h₀ A env loc e p) (hp : p.pure = true) (hE : EnvOk env) (hz : xs.length ≤ sizeLine)
    (hd : (x == ("__debug__" : Str)) = false := by decide)
    (hc : eval (.Call (.Attribute (.Name x np) "append" ap) [e] [] cp) env = (do
          let ov ← eval (.Name x np) env
          standAt ap.atName
          let (f, first) ← holding [ov] (getMethod ov "append" pl)
          callWith cp f first (backTo cp (starEach [e] env)) []) := by rfl)
    (hst : starEach [e] env = (false, eval e env) :: starEach [] env := by rfl)
    (hsw : swapsWith (.Call (.Attribute (.Name x np) "append" ap) [e] [] cp) none pos.line env = Pure.pure false := by rfl) :
    Ex prog w h₀ A env loc (.Expr (.Call (.Attribute (.Name x np) "append" ap) [e] [] cp) pos) .next ((x, .own oo (xs ++ [p])) :: loc) := by
  intro K G s Q R g
  obtain ⟨a, n, vs, hr, ho, hvs, _⟩ := R.ownAt hl
  refine wpAny_Expr_any ?_ hE.quiet hsw
  refine MethodCall_ (pl := pl) (name_reads hE hr ?_ hd) hc
  refine meth_list PySem.F.slot_list_append PySem.F.type_list_append ho ?_
  refine PyProof.Rows.callWith_method1 (EvArgs.cons (hst := hst) he EvArgs.nil G s cp _ R.toE fun G₂ h₂ t₂ us k₂ hus => ?_) hst (by rfl)
  cases hus with
  | @cons _ u _ _ hu hr' =>
    cases hr'
    refine wpAny_list_append_plain ⟨n, k₂.2.1 _ _ ho⟩ (fun h' hpl hs => ?_) (by rw [List.size_toArray, hvs.length]; exact hz)
    obtain ⟨n', ho'⟩ := hpl
    have e : vs.toArray.push u = (vs ++ [u]).toArray := by simp
    rw [e] at ho'
    exact g G₂ h' t₂ .next ((R.post k₂).setOwnAt hl (hr.ext k₂.2.1) (fun b o ne z => (hs.2 b ne).trans z) ho' ((VRs.mono k₂.1 hvs).append (.cons (hu.vr hp) .nil))) (PostS.of R.subK k₂) trivial

theorem upd_list {h : Heap} {a : Addr} {its its' : Array Value} {n : Nat} (ho : h.get? a = some (listOf its n)) (f : Array Value → Array Value) (he : f its = its') (hs : its'.size ≠ its.size) : (h.update a (Obj.mapSeq f)).get? a = some (listOf its' (n + 1)) := by
  have q := PySem.IsL.update ho f
  rw [he, if_neg (by simpa using hs)] at q
  exact q
theorem Ex.pop {x : Str} {np ap cp pos : Pos} {oo : Option Addr} {xs : List PV} {p : PV} {pl : Sem Bool} (hl : loc.lookup x = some (.own oo (xs ++ [p]))) (hE : EnvOk env) (hz : xs.length < sizeLine)
    (hd : (x == ("__debug__" : Str)) = false := by decide)
    (hc : eval (.Call (.Attribute (.Name x np) "pop" ap) [] [] cp) env = (do
          let ov ← eval (.Name x np) env
          standAt ap.atName
          let (f, first) ← holding [ov] (getMethod ov "pop" pl)
          callWith cp f first (backTo cp (starEach [] env)) []) := by rfl)
    (hsw : swapsWith (.Call (.Attribute (.Name x np) "pop" ap) [] [] cp) none pos.line env = Pure.pure false := by rfl) :
    Ex prog w h₀ A env loc (.Expr (.Call (.Attribute (.Name x np) "pop" ap) [] [] cp) pos) .next ((x, .own oo xs) :: loc) := by
  intro K G s Q R g
  obtain ⟨a, n, vs, hr, ho, hvs, _⟩ := R.ownAt hl
  obtain ⟨us, u, rfl, hus⟩ : ∃ us u, vs = us ++ [u] ∧ VRs G xs us := by
    have h1 := hvs.take xs.length
    rw [List.take_left] at h1
    obtain ⟨u, e1, _⟩ := hvs.get (i := xs.length) (p := p) (by simp)
    have hlen := hvs.length
    rw [List.length_append] at hlen
    refine ⟨vs.take xs.length, u, ?_, h1⟩
    have h3 : vs.drop xs.length = [u] := by
      rw [List.drop_eq_getElem_cons (by rw [hlen]; simp)]
      have : vs[xs.length]'(by rw [hlen]; simp) = u := by
        have := List.getElem?_eq_getElem (l := vs) (i := xs.length) (by rw [hlen]; simp)
        rw [e1] at this; exact (Option.some.inj this).symm
      rw [this, List.drop_eq_nil_of_le (by rw [hlen]; simp)]
    rw [← h3, List.take_append_drop]
  refine wpAny_Expr_any ?_ hE.quiet hsw
  refine MethodCall_ (pl := pl) (name_reads hE hr ?_ hd) hc
  refine meth_list PySem.F.slot_list_pop PySem.F.type_list_pop ho ?_
  refine callWith_method0 ?_
  have hk : (us ++ [u]).toArray.size - 1 = us.length := by rw [List.size_toArray, List.length_append]; rfl
  have hy : (us ++ [u]).toArray[(us ++ [u]).toArray.size - 1]? = some u := by rw [hk]; simp
  refine call_meets PySem.F.slot_list_pop ⟨_, ho, rfl⟩ PySem.F.entry_list_pop (PySem.F.args_list_pop_1 _) (PySem.MeetsSeq.list_pop_last a _ n u hy (by rw [List.size_toArray, List.length_append, hus.length]; exact hz)) ⟨ho, ?_⟩
  refine g G _ s.toks .next (R.setOwnAt (a := a) hl hr (fun b o ne z => (Heap.get?_update_ne _ _ _ _ ne).trans z) (n' := n + 1) (vs' := us) (upd_list ho _ ?_ ?_) hus) (PostS.refl K G) trivial
  · show (us ++ [u]).toArray.eraseIdxIfInBounds ((us ++ [u]).toArray.size - 1) = us.toArray
    rw [hk, kl_erase, List.append_nil]
  · rw [List.size_toArray, List.size_toArray, List.length_append]
    simp

/-- the place of list.insert -/
def insAt {α : Type} (l : List α) (k : Nat) (y : α) : List α := l.take k ++ y :: l.drop k
theorem VRs.insAt {G : Reg} {xs : List PV} {vs : List Value} {p : PV} {v : Value} (h : VRs G xs vs) (hp : VR G p v) (k : Nat) : VRs G (insAt xs k p) (insAt vs k v) := (h.take k).append (.cons hp (h.drop k))
theorem Ex.insert {x : Str} {e1 e2 : Expr} {np ap cp pos : Pos} {oo : Option Addr} {xs : List PV} {i : Int} {p : PV} {pl : Sem Bool} (hl : loc.lookup x = some (.own oo xs)) (h1 : Ev prog w h₀ A env loc e1 (.int i)) (h2 : Ev prog w h₀ A env loc e2 p) (hp : p.pure = true) (hE : EnvOk env) (hz : xs.length ≤ sizeLine)
    (i0 : 0 ≤ i) (i1 : i ≤ xs.length) (hd : (x == ("__debug__" : Str)) = false := by decide)
    (hc : eval (.Call (.Attribute (.Name x np) "insert" ap) [e1, e2] [] cp) env = (do
          let ov ← eval (.Name x np) env
          standAt ap.atName
          let (f, first) ← holding [ov] (getMethod ov "insert" pl)
          callWith cp f first (backTo cp (starEach [e1, e2] env)) []) := by rfl)
    (hst : starEach [e1, e2] env = (false, eval e1 env) :: starEach [e2] env := by rfl) (hst2 : starEach [e2] env = (false, eval e2 env) :: starEach [] env := by rfl) (hns : (backTo cp (starEach [e2] env)).any (·.1) = false := by rfl)
    (hsw : swapsWith (.Call (.Attribute (.Name x np) "insert" ap) [e1, e2] [] cp) none pos.line env = Pure.pure false := by rfl) :
    Ex prog w h₀ A env loc (.Expr (.Call (.Attribute (.Name x np) "insert" ap) [e1, e2] [] cp) pos) .next ((x, .own oo (insAt xs i.toNat p)) :: loc) := by
  intro K G s Q R g
  obtain ⟨a, n, vs, hr, ho, hvs, _⟩ := R.ownAt hl
  refine wpAny_Expr_any ?_ hE.quiet hsw
  refine MethodCall_ (pl := pl) (name_reads hE hr ?_ hd) hc
  refine meth_list PySem.F.slot_list_insert PySem.F.type_list_insert ho ?_
  refine PyProof.Rows.callWith_method1 (EvArgs.cons (hst := hst) h1 (EvArgs.cons (hst := hst2) h2 EvArgs.nil) G s cp _ R.toE fun G₂ h₂ t₂ us k₂ hus => ?_) hst hns
  cases hus with
  | cons hi hr1 =>
    cases hr1 with
    | @cons _ u _ _ hu hr2 =>
      cases hr2
      cases hi
      rename_i ti
      have ho₂ := k₂.2.1 _ _ ho
      have hlen := hvs.length
      have hz' : ¬ (decide (i < -2 ^ 63) || decide (i ≥ 2 ^ 63)) = true := by
        have := sizeLine_eq
        simp; omega
      have hfit : Builtin.List.listFitsIndex i = true := by
        have := sizeLine_eq
        unfold Builtin.List.listFitsIndex
        simp; omega
      refine call_meets (s := { s with heap := h₂, toks := t₂ }) PySem.F.slot_list_insert ⟨_, ho₂, rfl⟩ PySem.F.entry_list_insert (PySem.F.args_list_insert_3 _ _ _) (PySem.AutoSeq1.list_insert_list_int_val_1 a _ n i ti u (by simp [hfit]) (by rw [List.size_toArray, hlen]; exact hz)) ⟨ho₂, ?_⟩
      refine g G₂ _ t₂ .next ((R.post k₂).setOwnAt (a := a) hl (hr.ext k₂.2.1) (fun b o ne z => (Heap.get?_update_ne _ _ _ _ ne).trans z) (n' := n + 1) (vs' := insAt vs i.toNat u) (upd_list ho₂ _ ?_ ?_) ((VRs.mono k₂.1 hvs).insAt (hu.vr hp) _)) (PostS.of R.subK k₂) trivial
      · dsimp only
        rw [if_neg (by omega), List.size_toArray, hlen, Nat.min_eq_left (by omega)]
        unfold insAt
        simp
        exact List.take_of_length_le (by rw [List.length_drop]; omega)
      · unfold insAt
        simp
        omega
end
end Mine
end
section
open PySem PySem.W PyProof.Rows PySem.Spec PySem.Calls
set_option maxRecDepth 100000
set_option maxHeartbeats 1000000
namespace Mine
def fdOf (i : Nat) : Arguments × List Stmt × Scope := match PySem.Challenge.pw_wu0036_01.main.body[i]? with
  | some (.FunctionDef _ args body _ _ _ scope _ _ _) => (args, body, scope)
  | _ => (⟨[], [], none, [], [], none, []⟩, [], default)
abbrev fp (i : Nat) : Arguments := (fdOf i).1
abbrev fb (i : Nat) : List Stmt := (fdOf i).2.1
abbrev fs (i : Nat) : Scope := (fdOf i).2.2

theorem BindsP.pos1 {h₀ : Heap} {params : Arguments} {scope : Scope} {x : Str} {p : PV} (hp : ∀ (fd : FuncData) (v : Value), fd.params = params → fd.defaults = .none → fd.kwdefaults = .none → bindArgs fd ⟨[v], []⟩ = pure [(x, v)])
    (hs : (scope.names.lookup x == some .local || scope.names.lookup x == some .cell) = true) : BindsP h₀ params .none .none scope [p] [] [(x, p)] := by
  intro G vs kvs base hv hk
  cases hv with
  | @cons _ v _ _ h1 r =>
    cases r; cases hk
    refine ⟨[(x, v)], fun s fd _ e1 e2 e3 => BindsTo.of_eq (hp fd v e1 e2 e3), by simp, by simpa using hs, fun y q e => ?_⟩
    rw [List.lookup_cons] at e ⊢
    cases hy : (y == x) with
    | true => rw [hy] at e; cases e; exact ⟨v, rfl, h1⟩
    | false => rw [hy] at e; cases e
theorem BindsP.pos2 {h₀ : Heap} {params : Arguments} {scope : Scope} {x y : Str} {p q : PV} (hp : ∀ (fd : FuncData) (v u : Value), fd.params = params → fd.defaults = .none → fd.kwdefaults = .none → bindArgs fd ⟨[v, u], []⟩ = pure [(x, v), (y, u)]) (hxy : x ≠ y)
    (hs : (scope.names.lookup x == some .local || scope.names.lookup x == some .cell) = true) (hs2 : (scope.names.lookup y == some .local || scope.names.lookup y == some .cell) = true) : BindsP h₀ params .none .none scope [p, q] [] [(x, p), (y, q)] := by
  intro G vs kvs base hv hk
  cases hv with
  | @cons _ v _ _ h1 r =>
    cases r with
    | @cons _ u _ _ h2 r =>
      cases r; cases hk
      refine ⟨[(x, v), (y, u)], fun s fd _ e1 e2 e3 => BindsTo.of_eq (hp fd v u e1 e2 e3), by simp [hxy], by simp only [List.all_cons, List.all_nil, Bool.and_true, Bool.and_eq_true]; exact ⟨hs, hs2⟩, fun z q' e => ?_⟩
      rw [List.lookup_cons] at e ⊢
      cases hz : (z == x) with
      | true => rw [hz] at e; cases e; exact ⟨v, rfl, h1⟩
      | false =>
        rw [hz] at e
        simp only at e ⊢
        rw [List.lookup_cons] at e ⊢
        cases hz2 : (z == y) with
        | true => rw [hz2] at e; cases e; exact ⟨u, rfl, h2⟩
        | false => rw [hz2] at e; cases e

section
variable {prog : Program} {w : World} {h₀ : Heap} {mg mb : Str → Option Value} {A : Around}

abbrev FnIs (h₀ : Heap) (f : Addr) (n : String) (i : Nat) (dV kV : Value) : Prop := FnAt h₀ f (Str.ofString n) (fp i) (fb i) (fs i) dV kV

theorem strxfrm_spec {f : Addr} (F : FnIs h₀ f "_strxfrm" 13 .none .none) (hB : Base h₀ mg mb) (hroom : A.depth < recursionLimit) (x : Str) : Calls prog w h₀ A f [.str x] [] (.str x) := by
  refine Calls.intro F hB hroom (l := [("s", .str x)]) (l' := [("s", .str x)]) (r := .ret (.str x)) (BindsP.pos1 ?_ (by rfl)) (fun L cd => ?_)
  · rintro ⟨nm, qn, ps, bd, sc, gl, cl, df, kd, doc, pm, an, cd, ct, bi⟩ v h1 h2 h3
    simp only at h1 h2 h3
    subst h1 h2 h3
    rfl
  · refine Exs.stop (Ex.ret (Ev.local (fenvOk F.kind) (by rfl)) rfl)
end
end Mine
end
section
open PySem PySem.W PyProof.Rows PySem.Spec PySem.Calls
set_option maxRecDepth 100000
set_option maxHeartbeats 2000000
namespace Mine
section
variable {prog : Program} {w : World} {h₀ : Heap} {mg mb : Str → Option Value} {A : Around}

/-- -1, 0, 1 -/
def collZ (a b : Str) : Int := b2i (decide (b.cps.toList < a.cps.toList)) - b2i (decide (a.cps.toList < b.cps.toList))
theorem strcoll_spec {f : Addr} (F : FnIs h₀ f "_strcoll" 12 .none .none) (hB : Base h₀ mg mb) (hroom : A.depth < recursionLimit) (a b : Str) : Calls prog w h₀ A f [.str a, .str b] [] (.int (collZ a b)) := by
  refine Calls.intro F hB hroom (l := [("a", .str a), ("b", .str b)]) (l' := [("a", .str a), ("b", .str b)]) (r := .ret (.int (collZ a b))) (BindsP.pos2 ?_ (by decide) (by rfl) (by rfl)) (fun L cd => ?_)
  · rintro ⟨nm, qn, ps, bd, sc, gl, cl, df, kd, doc, pm, an, cd, ct, bi⟩ v u h1 h2 h3
    simp only at h1 h2 h3
    subst h1 h2 h3
    rfl
  · have hE := fenvOk (name := Str.ofString "_strcoll") (L := L) (f := f) (cd := cd) F.kind
    refine Exs.stop (Ex.ret (Ev.bin (Ev.cmp (Ev.local hE (by rfl)) (Ev.local hE (by rfl)) OpC.gt_str) (Ev.cmp (Ev.local hE (by rfl)) (Ev.local hE (by rfl)) OpC.lt_str) OpB.sub_bool) rfl)
end
end Mine
end
section
open PySem PySem.W PyProof.Rows PySem.Spec PySem.Calls
set_option maxRecDepth 100000
set_option maxHeartbeats 2000000
namespace Mine
/-- bisection upon the places lo .. hi -/
def bisN (lt : Nat → Bool) : Nat → Nat → Nat → Nat
  | 0, lo, _ => lo
  | n + 1, lo, hi => if lo < hi then (if lt ((lo + hi) / 2) then bisN lt n lo ((lo + hi) / 2) else bisN lt n ((lo + hi) / 2 + 1) hi) else lo
theorem bisN_le (lt : Nat → Bool) : ∀ n lo hi, lo ≤ hi → bisN lt n lo hi ≤ hi
  | 0, lo, hi, h => h
  | n + 1, lo, hi, h => by
    unfold bisN
    split
    · split
      · exact Nat.le_trans (bisN_le lt n lo _ (by omega)) (by omega)
      · exact bisN_le lt n _ hi (by omega)
    · exact h
theorem bisN_congr {lt lt' : Nat → Bool} {len : Nat} (h : ∀ i, i < len → lt i = lt' i) : ∀ n lo hi, hi ≤ len → bisN lt n lo hi = bisN lt' n lo hi
  | 0, _, _, _ => rfl
  | n + 1, lo, hi, hl => by
    unfold bisN
    by_cases c : lo < hi
    · rw [if_pos c, if_pos c, h _ (by omega), bisN_congr h n lo _ (by omega), bisN_congr h n _ hi hl]
    · rw [if_neg c, if_neg c]
theorem nopy (a b : Int) (h : b.natAbs < 2 ^ 30) : Builtin.divisionGoesByPylong a b = false := by
  unfold Builtin.divisionGoesByPylong
  have : b.natAbs.log2 / 30 = 0 := by
    by_cases z : b.natAbs = 0
    · rw [z]; rfl
    · have := (Nat.log2_lt z).mpr h
      exact Nat.div_eq_of_lt this
  have h2 : ¬ ((if (b == 0) = true then 0 else b.natAbs.log2 / 30 + 1) > 300) := by
    rw [this]; split <;> omega
  simp only [h2, decide_false, Bool.false_and]
inductive BL (G : Reg) : List (Str × Value) → Loc → Prop
  | nil : BL G [] []
  | cons {x : Str} {p : PV} {v : Value} {b : List (Str × Value)} {l : Loc} (h : VR G p v) (r : BL G b l) : BL G ((x, v) :: b) ((x, p) :: l)
theorem BL.look {G : Reg} : ∀ {b : List (Str × Value)} {l : Loc}, BL G b l → ∀ x p, l.lookup x = some p → ∃ v, b.lookup x = some v ∧ VR G p v
  | _, _, .nil, _, _, e => by simp at e
  | (y, v) :: _, _, .cons h r, x, p, e => by
    rw [List.lookup_cons] at e ⊢
    cases hy : (x == y) with
    | true => rw [hy] at e; cases e; exact ⟨v, rfl, h⟩
    | false => rw [hy] at e; exact r.look x p e
/-- a tuple of defaults stands at T -/
def TupAt (h : Heap) (T : Addr) (items : Array Value) : Prop := ∃ o n, h.get? T = some o ∧ o.data = .seq items n
theorem wpAny_loadK {α : Type} {M : Model} {A : Around} {Q : α → Shared → Prop} {E : Value → Shared → Prop} {s : Shared} {a : Addr} {q : Option Value} {k : Obj → Sem α} {o : Obj} (ho : s.heap.get? a = some o) (h : wpAny M A (k o) Q E s) : wpAny M A (Sem.load a q k) Q E s :=
  wpAny_bind (m := loadPart a q) (f := k) (wpAny_loadPart ho h)
/-- the one keyword's default stands at D: None -/
def KeyAt (h : Heap) (D : Addr) : Prop := ∃ hsh t n, h.get? D = some ⟨.type "dict", none, .dict #[⟨hsh, .str "key" t, .none⟩] n, #[]⟩
section
variable {prog : Program} {w : World} {h₀ : Heap} {mg mb : Str → Option Value} {A : Around} {env : Env} {loc : Loc}
theorem OpC.lt_int_tt {a b : Int} (h : a < b) : OpC prog w A .Lt (.int a) (.int b) (.bool true) := decide_eq_true h ▸ OpC.lt_int
theorem OpC.lt_int_ff {a b : Int} (h : ¬ a < b) : OpC prog w A .Lt (.int a) (.int b) (.bool false) := decide_eq_false h ▸ OpC.lt_int
theorem OpC.lt_nat {a b : Nat} : OpC prog w A .Lt (.int (a : Int)) (.int (b : Int)) (.bool (decide (a < b))) := by
  have : decide ((a : Int) < (b : Int)) = decide (a < b) := by simp
  exact this ▸ OpC.lt_int
theorem half_int (lo hi : Nat) : ((lo : Int) + (hi : Int)).fdiv 2 = (((lo + hi) / 2 : Nat) : Int) := by
  rw [Int.fdiv_eq_ediv_of_nonneg _ (by decide)]; omega
theorem OpB.half {lo hi : Nat} : OpB prog w A .FloorDiv (.int ((lo : Int) + (hi : Int))) (.int 2) (.int (((lo + hi) / 2 : Nat) : Int)) := by
  have := OpB.fdiv_int (prog := prog) (w := w) (A := A) (a := (lo : Int) + (hi : Int)) (b := 2) (by decide) (nopy _ _ (by decide))
  rw [half_int] at this
  exact this

/-- one of the while loops of the two bisections: lo and hi as ints, the rest stands -/
theorem bis_loop {test : Expr} {body : List Stmt} {lt : Nat → Bool} {len : Nat} (St : Nat → Nat → Loc) (hlo : ∀ lo hi, (St lo hi).lookup (Str.ofString "lo") = some (.int (lo : Int)))
    (ht : ∀ lo hi, hi ≤ len → EvT prog w h₀ A env (St lo hi) test (decide (lo < hi)))
    (hb : ∀ lo hi, lo < hi → hi ≤ len → Exs prog w h₀ A env (St lo hi) body .next (if lt ((lo + hi) / 2) then St lo ((lo + hi) / 2) else St ((lo + hi) / 2 + 1) hi)) :
    ∀ n lo hi, hi - lo ≤ n → hi ≤ len → WhS prog w h₀ A env test body [] (St lo hi) .next [(Str.ofString "lo", PV.int (bisN lt n lo hi : Nat))] := by
  have stop : ∀ n lo hi, ¬ lo < hi → hi ≤ len → WhS prog w h₀ A env test body [] (St lo hi) .next [(Str.ofString "lo", PV.int (bisN lt n lo hi : Nat))] := fun n lo hi h hl => by
    have e : bisN lt n lo hi = lo := by cases n with
      | zero => rfl
      | succ n => unfold bisN; rw [if_neg h]
    rw [e]
    refine .done ?_ (Exs.nil.less (LSub.refl _) (LSub.cons (hlo lo hi) (LSub.nil _)))
    have := ht lo hi hl
    rwa [decide_eq_false h] at this
  intro n
  induction n with
  | zero => intro lo hi h hl; exact stop 0 lo hi (by omega) hl
  | succ n ih =>
    intro lo hi h hl
    by_cases hlt : lo < hi
    · have t := ht lo hi hl
      rw [decide_eq_true hlt] at t
      have b := hb lo hi hlt hl
      unfold bisN
      rw [if_pos hlt]
      by_cases c : lt ((lo + hi) / 2) = true
      · rw [if_pos c] at b ⊢
        exact .turn t b (ih _ _ (by omega) (by omega))
      · rw [if_neg c] at b ⊢
        exact .turn t b (ih _ _ (by omega) hl)
    · exact stop (n + 1) lo hi hlt hl

theorem bisect_right_key {t : Tok} {f fk : Addr} {T D : Addr} (F : FnIs h₀ f "bisect_right" 6 (.ref T) (.ref D)) (FK : IsFn h₀ fk) (hT : TupAt h₀ T #[.int 0 t, .none]) (hB : Base h₀ mg mb) (hlen : mg "len" = none) (hlenb : mb "len" = some (.builtin "len")) (hroom : A.depth < recursionLimit)
    (ys : List Str) (hz : ys.length < 100000) (x : Str) (hK : ∀ L cd y, Calls prog w h₀ (A.deeper (fenv (Str.ofString "bisect_right") (fs 6) L f cd)) fk [.str y] [] (.str y)) :
    Calls prog w h₀ A f [.list (ys.map .str), .str x, .int 0, .none] [(Str.ofString "key", .val (.ref fk))] (.int (bisN (fun i => decide (x.cps.toList < (ys.getD i (Str.ofString "")).cps.toList)) ys.length 0 ys.length : Nat)) := by
  refine Calls.intro F hB hroom (l := [(Str.ofString "a", .list (ys.map .str)), (Str.ofString "x", .str x), (Str.ofString "lo", .int 0), (Str.ofString "hi", .none), (Str.ofString "key", .val (.ref fk))]) (l' := [(Str.ofString "lo", PV.int (bisN (fun i => decide (x.cps.toList < (ys.getD i (Str.ofString "")).cps.toList)) ys.length 0 ys.length : Nat))])
    (r := .ret (.int (bisN (fun i => decide (x.cps.toList < (ys.getD i (Str.ofString "")).cps.toList)) ys.length 0 ys.length : Nat))) ?_ (fun L cd => ?_)
  · intro G vs kvs base hv hk
    cases hv with
    | @cons _ v1 _ _ h1 r =>
    cases r with
    | @cons _ v2 _ _ h2 r =>
    cases r with
    | @cons _ v3 _ _ h3 r =>
    cases r with
    | @cons _ v4 _ _ h4 r =>
    cases r
    cases hk with
    | @cons _ _ v5 _ _ h5 r =>
    cases r
    refine ⟨[(Str.ofString "a", v1), (Str.ofString "x", v2), (Str.ofString "lo", v3), (Str.ofString "hi", v4), (Str.ofString "key", v5)], fun s fd e0 e1 e2 e3 => ?_, ?_, by rfl, (BL.cons h1 (.cons h2 (.cons h3 (.cons h4 (.cons h5 .nil))))).look⟩
    · obtain ⟨o, n, ho, hs⟩ := hT
      obtain ⟨nm, qn, ps, bd, sc, gl, cl, df, kd, doc, pm, an, cd, ct, bi⟩ := fd
      simp only at e1 e2 e3
      subst e1 e2 e3
      exact BindsTo.of_defaults rfl (e0 _ _ ho) hs rfl rfl
    · have : ([Str.ofString "a", Str.ofString "x", Str.ofString "lo", Str.ofString "hi", Str.ofString "key"] : List Str).Nodup := by decide
      exact this
  · have hE := fenvOk (name := Str.ofString "bisect_right") (L := L) (f := f) (cd := cd) F.kind
    refine Exs.cons (Ex.if_ff (EvT.cmp (Ev.local hE (by rfl)) Ev.int (OpC.lt_int_ff (by decide))) Exs.nil) ?_
    refine Exs.cons (Ex.if_tt (EvT.cmp (Ev.local hE (by rfl)) Ev.none OpC.is_none_none) (Exs.cons (Ex.assign (Ev.callB (Ev.builtin hB hE hlen hlenb (by rfl)) (EvArgs.cons (Ev.local hE (by rfl)) EvArgs.nil) (OpF.len_list rfl (by simp; omega))) hE rfl (.inl (by rfl))) Exs.nil)) ?_
    refine Exs.cons (loc₁ := [(Str.ofString "lo", PV.int (bisN (fun i => decide (x.cps.toList < (ys.getD i (Str.ofString "")).cps.toList)) ys.length 0 ys.length : Nat))]) (Ex.if_ff (EvT.cmp (Ev.local hE (by rfl)) Ev.none OpC.is_ref_none) ?_) (Exs.stop (Ex.ret (Ev.local hE (by rfl)) rfl))
    have hlenm : (ys.map PV.str).length = ys.length := by simp
    refine Exs.cons ((Ex.while_ (bis_loop (len := ys.length) (lt := fun i => decide (x.cps.toList < (ys.getD i (Str.ofString "")).cps.toList))
      (fun lo hi => [(Str.ofString "lo", .int (lo : Int)), (Str.ofString "hi", .int (hi : Int)), (Str.ofString "a", .list (ys.map .str)), (Str.ofString "x", .str x), (Str.ofString "key", .val (.ref fk))])
      (fun _ _ => by rfl) ?_ ?_ ys.length 0 ys.length (by omega) (Nat.le_refl _))).less (LSub.cons (by rfl) (LSub.cons (by rw [← hlenm]; rfl) (LSub.cons (by rfl) (LSub.cons (by rfl) (LSub.cons (by rfl) (LSub.nil _)))))) (LSub.refl _)) Exs.nil
    · intro lo hi hl
      exact EvT.cmp (Ev.local hE (by rfl)) (Ev.local hE (by rfl)) OpC.lt_nat
    · intro lo hi hlt hl
      have hm : (lo + hi) / 2 < ys.length := by omega
      have hx : (ys.map PV.str)[(((lo + hi) / 2 : Nat) : Int).toNat]? = some (.str (ys.getD ((lo + hi) / 2) (Str.ofString ""))) := by
        rw [Int.toNat_natCast, List.getElem?_map, List.getElem?_eq_getElem hm, List.getD_eq_getElem?_getD, List.getElem?_eq_getElem hm]; rfl
      refine Exs.cons (Ex.assign (Ev.bin (Ev.bin (Ev.local hE (by rfl)) (Ev.local hE (by rfl)) OpB.add_int) Ev.int OpB.half) hE rfl (.inl (by rfl))) ?_
      by_cases c : decide (x.cps.toList < (ys.getD ((lo + hi) / 2) (Str.ofString "")).cps.toList) = true
      · rw [if_pos c]
        exact Exs.cons (Ex.if_tt (EvT.cmp (Ev.local hE (by rfl)) (Ev.callF (Ev.local hE (by rfl)) FK (EvArgs.cons (Ev.item_list (Ev.local hE (by rfl)) (Ev.local hE (by rfl)) rfl (by omega) (by omega) hx) EvArgs.nil) rfl (hK L cd _)) (c ▸ OpC.lt_str)) (Exs.cons (Ex.assign (Ev.local hE (by rfl)) hE rfl (.inl (by rfl))) Exs.nil))
          (Exs.nil.less (LSub.refl _) (LSub.cons (by rfl) (LSub.cons (by rfl) (LSub.cons (by rfl) (LSub.cons (by rfl) (LSub.cons (by rfl) (LSub.nil _)))))))
      · rw [if_neg c]
        rw [Bool.not_eq_true] at c
        exact Exs.cons (Ex.if_ff (EvT.cmp (Ev.local hE (by rfl)) (Ev.callF (Ev.local hE (by rfl)) FK (EvArgs.cons (Ev.item_list (Ev.local hE (by rfl)) (Ev.local hE (by rfl)) rfl (by omega) (by omega) hx) EvArgs.nil) rfl (hK L cd _)) (c ▸ OpC.lt_str)) (Exs.cons (Ex.assign (Ev.bin (Ev.local hE (by rfl)) Ev.int OpB.add_int) hE rfl (.inl (by rfl))) Exs.nil))
          (Exs.nil.less (LSub.refl _) (LSub.cons (by rfl) (LSub.cons (by rfl) (LSub.cons (by rfl) (LSub.cons (by rfl) (LSub.cons (by rfl) (LSub.nil _)))))))
end
end Mine
end
section
open PySem PySem.W PyProof.Rows PySem.Spec PySem.Calls
set_option maxRecDepth 100000
set_option maxHeartbeats 2000000
namespace Mine
def bisR (ns : List Int) (x : Int) : Nat := bisN (fun i => decide (x < ns.getD i 0)) ns.length 0 ns.length
def bisL (ns : List Int) (x : Int) : Nat := bisN (fun i => !decide (ns.getD i 0 < x)) ns.length 0 ns.length
def bisS (ys : List Str) (x : Str) : Nat := bisN (fun i => decide (x.cps.toList < (ys.getD i (Str.ofString "")).cps.toList)) ys.length 0 ys.length
def insS (ys : List Str) (x : Str) : List Str := insAt ys (bisS ys x) x
section
variable {prog : Program} {w : World} {h₀ : Heap} {mg mb : Str → Option Value} {A : Around} {env : Env} {loc : Loc}
theorem item_ints {ns : List Int} {i : Nat} (h : i < ns.length) : (ns.map PV.int)[((i : Nat) : Int).toNat]? = some (.int (ns.getD i 0)) := by
  rw [Int.toNat_natCast, List.getElem?_map, List.getElem?_eq_getElem h, List.getD_eq_getElem?_getD, List.getElem?_eq_getElem h]; rfl

theorem bisect_right_ints {t : Tok} {f : Addr} {T D : Addr} (F : FnIs h₀ f "bisect_right" 6 (.ref T) (.ref D)) (hT : TupAt h₀ T #[.int 0 t, .none]) (hD : KeyAt h₀ D) (hB : Base h₀ mg mb) (hlen : mg "len" = none) (hlenb : mb "len" = some (.builtin "len")) (hroom : A.depth < recursionLimit)
    (ns : List Int) (hz : ns.length < 100000) (x : Int) : Calls prog w h₀ A f [.list (ns.map .int), .int x] [] (.int (bisR ns x : Nat)) := by
  refine Calls.intro F hB hroom (l := [(Str.ofString "a", .list (ns.map .int)), (Str.ofString "x", .int x), (Str.ofString "lo", .int 0), (Str.ofString "hi", .none), (Str.ofString "key", .none)]) (l' := [(Str.ofString "lo", PV.int (bisR ns x : Nat))])
    (r := .ret (.int (bisR ns x : Nat))) ?_ (fun L cd => ?_)
  · intro G vs kvs base hv hk
    cases hv with
    | @cons _ v1 _ _ h1 r =>
    cases r with
    | @cons _ v2 _ _ h2 r =>
    cases r
    cases hk
    refine ⟨[(Str.ofString "a", v1), (Str.ofString "x", v2), (Str.ofString "lo", .int 0 t), (Str.ofString "hi", .none), (Str.ofString "key", .none)], fun s fd e0 e1 e2 e3 => ?_, ?_, by rfl, (BL.cons h1 (.cons h2 (.cons (.int _ _) (.cons .none (.cons .none .nil))))).look⟩
    · obtain ⟨o, n, ho, hs⟩ := hT
      obtain ⟨hsh, t2, n2, hk⟩ := hD
      obtain ⟨nm, qn, ps, bd, sc, gl, cl, df, kd, doc, pm, an, cd, ct, bi⟩ := fd
      simp only at e1 e2 e3
      subst e1 e2 e3
      intro M A E Q hq
      refine wpAny_bind (m := seqItems? (Value.ref T)) (wpAny_seqItems (e0 _ _ ho) hs ?_)
      refine wpAny_loadK (a := D) (q := some (.str "key" 0)) (e0 _ _ hk) ?_
      exact wpAny_pure hq
    · have : ([Str.ofString "a", Str.ofString "x", Str.ofString "lo", Str.ofString "hi", Str.ofString "key"] : List Str).Nodup := by decide
      exact this
  · have hE := fenvOk (name := Str.ofString "bisect_right") (L := L) (f := f) (cd := cd) F.kind
    refine Exs.cons (Ex.if_ff (EvT.cmp (Ev.local hE (by rfl)) Ev.int (OpC.lt_int_ff (by decide))) Exs.nil) ?_
    refine Exs.cons (Ex.if_tt (EvT.cmp (Ev.local hE (by rfl)) Ev.none OpC.is_none_none) (Exs.cons (Ex.assign (Ev.callB (Ev.builtin hB hE hlen hlenb (by rfl)) (EvArgs.cons (Ev.local hE (by rfl)) EvArgs.nil) (OpF.len_list rfl (by simp; omega))) hE rfl (.inl (by rfl))) Exs.nil)) ?_
    refine Exs.cons (loc₁ := [(Str.ofString "lo", PV.int (bisR ns x : Nat))]) (Ex.if_tt (EvT.cmp (Ev.local hE (by rfl)) Ev.none OpC.is_none_none) ?_) (Exs.stop (Ex.ret (Ev.local hE (by rfl)) rfl))
    have hlenm : (ns.map PV.int).length = ns.length := by simp
    refine Exs.cons ((Ex.while_ (bis_loop (len := ns.length) (lt := fun i => decide (x < ns.getD i 0))
      (fun lo hi => [(Str.ofString "lo", .int (lo : Int)), (Str.ofString "hi", .int (hi : Int)), (Str.ofString "a", .list (ns.map .int)), (Str.ofString "x", .int x)])
      (fun _ _ => by rfl) ?_ ?_ ns.length 0 ns.length (by omega) (Nat.le_refl _))).less (LSub.cons (by rfl) (LSub.cons (by rw [← hlenm]; rfl) (LSub.cons (by rfl) (LSub.cons (by rfl) (LSub.nil _))))) (LSub.refl _)) Exs.nil
    · intro lo hi hl
      exact EvT.cmp (Ev.local hE (by rfl)) (Ev.local hE (by rfl)) OpC.lt_nat
    · intro lo hi hlt hl
      have hm : (lo + hi) / 2 < ns.length := by omega
      refine Exs.cons (Ex.assign (Ev.bin (Ev.bin (Ev.local hE (by rfl)) (Ev.local hE (by rfl)) OpB.add_int) Ev.int OpB.half) hE rfl (.inl (by rfl))) ?_
      by_cases c : decide (x < ns.getD ((lo + hi) / 2) 0) = true
      · rw [if_pos c]
        exact Exs.cons (Ex.if_tt (EvT.cmp (Ev.local hE (by rfl)) (Ev.item_list (Ev.local hE (by rfl)) (Ev.local hE (by rfl)) rfl (by omega) (by omega) (item_ints hm)) (c ▸ OpC.lt_int)) (Exs.cons (Ex.assign (Ev.local hE (by rfl)) hE rfl (.inl (by rfl))) Exs.nil))
          (Exs.nil.less (LSub.refl _) (LSub.cons (by rfl) (LSub.cons (by rfl) (LSub.cons (by rfl) (LSub.cons (by rfl) (LSub.nil _))))))
      · rw [if_neg c]
        rw [Bool.not_eq_true] at c
        exact Exs.cons (Ex.if_ff (EvT.cmp (Ev.local hE (by rfl)) (Ev.item_list (Ev.local hE (by rfl)) (Ev.local hE (by rfl)) rfl (by omega) (by omega) (item_ints hm)) (c ▸ OpC.lt_int)) (Exs.cons (Ex.assign (Ev.bin (Ev.local hE (by rfl)) Ev.int OpB.add_int) hE rfl (.inl (by rfl))) Exs.nil))
          (Exs.nil.less (LSub.refl _) (LSub.cons (by rfl) (LSub.cons (by rfl) (LSub.cons (by rfl) (LSub.cons (by rfl) (LSub.nil _))))))

theorem bisect_left_ints {t : Tok} {f : Addr} {T D : Addr} (F : FnIs h₀ f "bisect_left" 7 (.ref T) (.ref D)) (hT : TupAt h₀ T #[.int 0 t, .none]) (hD : KeyAt h₀ D) (hB : Base h₀ mg mb) (hlen : mg "len" = none) (hlenb : mb "len" = some (.builtin "len")) (hroom : A.depth < recursionLimit)
    (ns : List Int) (hz : ns.length < 100000) (x : Int) : Calls prog w h₀ A f [.list (ns.map .int), .int x] [] (.int (bisL ns x : Nat)) := by
  refine Calls.intro F hB hroom (l := [(Str.ofString "a", .list (ns.map .int)), (Str.ofString "x", .int x), (Str.ofString "lo", .int 0), (Str.ofString "hi", .none), (Str.ofString "key", .none)]) (l' := [(Str.ofString "lo", PV.int (bisL ns x : Nat))])
    (r := .ret (.int (bisL ns x : Nat))) ?_ (fun L cd => ?_)
  · intro G vs kvs base hv hk
    cases hv with
    | @cons _ v1 _ _ h1 r =>
    cases r with
    | @cons _ v2 _ _ h2 r =>
    cases r
    cases hk
    refine ⟨[(Str.ofString "a", v1), (Str.ofString "x", v2), (Str.ofString "lo", .int 0 t), (Str.ofString "hi", .none), (Str.ofString "key", .none)], fun s fd e0 e1 e2 e3 => ?_, ?_, by rfl, (BL.cons h1 (.cons h2 (.cons (.int _ _) (.cons .none (.cons .none .nil))))).look⟩
    · obtain ⟨o, n, ho, hs⟩ := hT
      obtain ⟨hsh, t2, n2, hk⟩ := hD
      obtain ⟨nm, qn, ps, bd, sc, gl, cl, df, kd, doc, pm, an, cd, ct, bi⟩ := fd
      simp only at e1 e2 e3
      subst e1 e2 e3
      intro M A E Q hq
      refine wpAny_bind (m := seqItems? (Value.ref T)) (wpAny_seqItems (e0 _ _ ho) hs ?_)
      refine wpAny_loadK (a := D) (q := some (.str "key" 0)) (e0 _ _ hk) ?_
      exact wpAny_pure hq
    · have : ([Str.ofString "a", Str.ofString "x", Str.ofString "lo", Str.ofString "hi", Str.ofString "key"] : List Str).Nodup := by decide
      exact this
  · have hE := fenvOk (name := Str.ofString "bisect_left") (L := L) (f := f) (cd := cd) F.kind
    refine Exs.cons (Ex.if_ff (EvT.cmp (Ev.local hE (by rfl)) Ev.int (OpC.lt_int_ff (by decide))) Exs.nil) ?_
    refine Exs.cons (Ex.if_tt (EvT.cmp (Ev.local hE (by rfl)) Ev.none OpC.is_none_none) (Exs.cons (Ex.assign (Ev.callB (Ev.builtin hB hE hlen hlenb (by rfl)) (EvArgs.cons (Ev.local hE (by rfl)) EvArgs.nil) (OpF.len_list rfl (by simp; omega))) hE rfl (.inl (by rfl))) Exs.nil)) ?_
    refine Exs.cons (loc₁ := [(Str.ofString "lo", PV.int (bisL ns x : Nat))]) (Ex.if_tt (EvT.cmp (Ev.local hE (by rfl)) Ev.none OpC.is_none_none) ?_) (Exs.stop (Ex.ret (Ev.local hE (by rfl)) rfl))
    have hlenm : (ns.map PV.int).length = ns.length := by simp
    refine Exs.cons ((Ex.while_ (bis_loop (len := ns.length) (lt := fun i => !decide (ns.getD i 0 < x))
      (fun lo hi => [(Str.ofString "lo", .int (lo : Int)), (Str.ofString "hi", .int (hi : Int)), (Str.ofString "a", .list (ns.map .int)), (Str.ofString "x", .int x)])
      (fun _ _ => by rfl) ?_ ?_ ns.length 0 ns.length (by omega) (Nat.le_refl _))).less (LSub.cons (by rfl) (LSub.cons (by rw [← hlenm]; rfl) (LSub.cons (by rfl) (LSub.cons (by rfl) (LSub.nil _))))) (LSub.refl _)) Exs.nil
    · intro lo hi hl
      exact EvT.cmp (Ev.local hE (by rfl)) (Ev.local hE (by rfl)) OpC.lt_nat
    · intro lo hi hlt hl
      have hm : (lo + hi) / 2 < ns.length := by omega
      refine Exs.cons (Ex.assign (Ev.bin (Ev.bin (Ev.local hE (by rfl)) (Ev.local hE (by rfl)) OpB.add_int) Ev.int OpB.half) hE rfl (.inl (by rfl))) ?_
      by_cases c : decide (ns.getD ((lo + hi) / 2) 0 < x) = true
      · rw [if_neg (by rw [c]; decide)]
        exact Exs.cons (Ex.if_tt (EvT.cmp (Ev.item_list (Ev.local hE (by rfl)) (Ev.local hE (by rfl)) rfl (by omega) (by omega) (item_ints hm)) (Ev.local hE (by rfl)) (c ▸ OpC.lt_int)) (Exs.cons (Ex.assign (Ev.bin (Ev.local hE (by rfl)) Ev.int OpB.add_int) hE rfl (.inl (by rfl))) Exs.nil))
          (Exs.nil.less (LSub.refl _) (LSub.cons (by rfl) (LSub.cons (by rfl) (LSub.cons (by rfl) (LSub.cons (by rfl) (LSub.nil _))))))
      · rw [Bool.not_eq_true] at c
        rw [if_pos (by rw [c]; decide)]
        exact Exs.cons (Ex.if_ff (EvT.cmp (Ev.item_list (Ev.local hE (by rfl)) (Ev.local hE (by rfl)) rfl (by omega) (by omega) (item_ints hm)) (Ev.local hE (by rfl)) (c ▸ OpC.lt_int)) (Exs.cons (Ex.assign (Ev.local hE (by rfl)) hE rfl (.inl (by rfl))) Exs.nil))
          (Exs.nil.less (LSub.refl _) (LSub.cons (by rfl) (LSub.cons (by rfl) (LSub.cons (by rfl) (LSub.cons (by rfl) (LSub.nil _))))))
end
end Mine
end
section
open PySem PySem.W PyProof.Rows PySem.Spec PySem.Calls
set_option maxRecDepth 100000
set_option maxHeartbeats 2000000
namespace Mine
theorem VRs.flat {G G' : Reg} : ∀ {ps : List PV} {vs : List Value}, VRs G ps vs → (∀ p ∈ ps, p.flat = true) → VRs G' ps vs
  | _, _, .nil, _ => .nil
  | _, _, .cons a r, h => .cons (a.flat (h _ (.head _))) (r.flat fun p hp => h p (.tail _ hp))
section
variable {prog : Program} {w : World} {h₀ : Heap} {mg mb : Str → Option Value} {A : Around} {env : Env} {loc : Loc}
/-- a call of a def that changes the list of its first argument -/
def CallsOwn (prog : Program) (w : World) (h₀ : Heap) (A : Around) (f : Addr) (xs ps : List PV) (kw : List (Str × PV)) (xs' : List PV) : Prop :=
  ∀ G s a n us vs kvs (Q : Value → Shared → Prop), (∀ b o, h₀.get? b = some o → G b = some o) → Sub G s.heap → G a = none → s.heap.get? a = some (listOf (List.toArray us) n) → VRs G xs us → VRs G ps vs → KwR G kw kvs →
    (∀ h' tk v n' us', Heap.ExtBut a s.heap h' → h'.get? a = some (listOf (List.toArray us') n') → VRs noReg xs' us' → Q v { s with heap := h', toks := tk }) → wpAny (model prog w) A (call (.ref f) (.ref a :: vs) kvs) Q NoE s

theorem Ex.callOwnK {fn x : Str} {np xp : Pos} {rest : List Expr} {k : Str} {ke : Expr} {kp cp pos : Pos} {f : Addr} {oo : Option Addr} {xs xs' ps : List PV} {q : PV} (hf : Ev prog w h₀ A env loc (.Name fn np) (.val (.ref f))) (hfn : IsFn h₀ f)
    (hl : loc.lookup x = some (.own oo xs)) (ha : EvArgs prog w h₀ A env loc rest ps) (hp : allPure ps = true) (hk : Ev prog w h₀ A env loc ke q) (hq : q.pure = true) (hE : EnvOk env) (hfl : ∀ p ∈ xs', p.flat = true) (hC : CallsOwn prog w h₀ A f xs ps [(k, q)] xs')
    (hd : (x == ("__debug__" : Str)) = false := by decide)
    (hst : starEach (.Name x xp :: rest) env = (false, eval (.Name x xp) env) :: starEach rest env := by rfl)
    (hsw : swapsWith (.Call (.Name fn np) (.Name x xp :: rest) [⟨some k, ke, kp⟩] cp) none pos.line env = Pure.pure false := by rfl) :
    Ex prog w h₀ A env loc (.Expr (.Call (.Name fn np) (.Name x xp :: rest) [⟨some k, ke, kp⟩] cp) pos) .next ((x, .own oo xs') :: loc) := by
  intro K G s Q R g
  obtain ⟨o, fd, hget, hdat⟩ := hfn
  refine wpAny_Expr_any ?_ hE.quiet hsw
  refine wpAny_Call_Name_kw (hf G s _ R.toE fun G₁ h₁ t₁ v k₁ hv => ?_)
  cases hv
  refine callWith_def_kw (o := o) hdat ?_
  have hb : backTo cp (starEach (.Name x xp :: rest) env) = (false, eval (.Name x xp) env) :: backTo cp (starEach rest env) := by rw [hst]; rfl
  rw [hb]
  refine evalArgs_kw (by rfl) ?_
  rw [← hb]
  have R₁ := R.post k₁
  obtain ⟨ad, P₁⟩ := id R₁.priv
  obtain ⟨a, n, us, e1, hr, ho, hus, _⟩ := P₁.own x oo xs hl
  have hGa := (P₁.off _ _ e1).2
  refine wpAny_items_cons (name_reads hE hr ?_ hd) hst
  refine ha G₁ _ cp _ R₁.toE fun G₂ h₂ t₂ vs k₂ hvs => ?_
  show wpAny (model prog w) A (evalAll [(do let v ← eval ke env; standAt cp; pure v)]) _ NoE _
  refine wpAny_evalAll_cons (wpAny_bind (hk G₂ _ _ (R₁.post k₂).toE fun G₃ h₃ t₃ u k₃ hu => ?_))
  refine wpAny_bind (wpAny_standAt (wpAny_pure (wpAny_evalAll_nil ?_)))
  have R₃ := (R₁.post k₂).post k₃
  have kk := k₂.trans k₃
  refine ⟨R₃.toE.ext _ _ hget, ?_⟩
  have hG3 : G₃ a = none := by
    cases z : G₃ a with
    | none => rfl
    | some o' =>
      rcases kk.2.2.2 a o' z with y | y
      · rw [hGa] at y; cases y
      · rw [ho] at y; cases y
  refine hC G₃ { s with heap := h₃, toks := t₃ } a n us vs [(k, u)] _ R₃.base k₃.2.2.1 hG3 (kk.2.1 _ _ ho) (VRs.mono kk.1 hus) ((hvs.mono k₃.1 k₃.2.1).vrs hp) (.cons (hu.vr hq) .nil) fun h' tk v n' us' he ho' hv' => ?_
  exact g G₃ h' tk .next (R₃.setOwnAt hl (hr.ext kk.2.1) he ho' (VRs.mono (noReg_sub _) hv')) (PostS.of R.subK (k₁.trans kk)) trivial

theorem CallsOwn.intro {f : Addr} {name : Str} {params : Arguments} {body : List Stmt} {scope : Scope} {dV kV : Value} (F : FnAt h₀ f name params body scope dV kV) (hB : Base h₀ mg mb) {xs xs' ps : List PV} {kw : List (Str × PV)} {x : Str} {l : Loc} {l' : Addr → Loc}
    (hroom : A.depth < recursionLimit) (hfl : ∀ p ∈ xs', p.flat = true)
    (hb : ∀ G a vs kvs, (∀ b o, h₀.get? b = some o → G b = some o) → VRs G ps vs → KwR G kw kvs →
      ∃ binds, Binds h₀ params dV kV (.ref a :: vs) kvs binds ∧ (binds.map (·.1)).Nodup ∧ (binds.all fun y => scope.names.lookup y.1 == some .local || scope.names.lookup y.1 == some .cell) = true ∧
        binds.lookup x = some (.ref a) ∧ ∀ y p, l.lookup y = some p → ∃ v, binds.lookup y = some v ∧ VR G p v)
    (hbody : ∀ a L cd, Exs prog w h₀ (A.deeper (fenv name scope L f cd)) (fenv name scope L f cd) ((x, .own (some a) xs) :: l) body .next (l' a)) (hl' : ∀ a, (l' a).lookup x = some (.own (some a) xs')) : CallsOwn prog w h₀ A f xs ps kw xs' := by
  intro G s a n us vs kvs Q base S hGa ho hus hv hk g
  obtain ⟨binds, b1, b2, b3, b5, b4⟩ := hb G a vs kvs base hv hk
  have look : ∀ {y q}, ((x, PV.own (some a) xs) :: l).lookup y = some q → (y = x ∧ q = .own (some a) xs) ∨ (y ≠ x ∧ l.lookup y = some q) := by
    intro y q e
    rw [List.lookup_cons] at e
    by_cases hy : (y == x) = true
    · rw [hy] at e; cases e; exact .inl ⟨beq_iff_eq.mp hy, rfl⟩
    · have hy' : (y == x) = false := by simpa using hy
      rw [hy'] at e; exact .inr ⟨fun z => hy (by simp [z]), e⟩
  refine F.enter (K := fun b => if b = a then none else s.heap.get? b) hB hroom base (fun b o e => ?_) S b1 b2 b3 (fun y p e hp => ?_) x a (fun y oo ys e => ?_) (hbody a) fun G' h' tk v L cd R k hv' => ?_
  · simp only at e
    split at e
    · cases e
    · exact e
  · rcases look e with ⟨rfl, rfl⟩ | ⟨_, e⟩
    · cases hp
    · exact b4 y p e
  · rcases look e with ⟨rfl, e9⟩ | ⟨_, e⟩
    · cases e9; exact ⟨rfl, fun b z => by cases z; rfl, n, us, b5, ho, hus, if_pos rfl, hGa⟩
    · obtain ⟨v, _, z⟩ := b4 y _ e; cases z
  · obtain ⟨a', n', us', _, e2, e3, e4⟩ := R.ownAt (hl' a)
    have := e4 a rfl
    subst this
    refine g h' tk v n' us' (fun b o ne e => R.subK b o ?_) e2 (e3.flat hfl)
    simp only [if_neg ne]; exact e

theorem insort_spec {t t' : Tok} {f fb fk : Addr} {T D T' D' : Addr} (F : FnIs h₀ f "insort_right" 5 (.ref T) (.ref D)) (FB : FnIs h₀ fb "bisect_right" 6 (.ref T') (.ref D')) (FK : FnIs h₀ fk "_strxfrm" 13 .none .none) (hT : TupAt h₀ T #[.int 0 t, .none]) (hT' : TupAt h₀ T' #[.int 0 t', .none]) (hB : Base h₀ mg mb)
    (hfb : mg "bisect_right" = some (.ref fb)) (hlen : mg "len" = none) (hlenb : mb "len" = some (.builtin "len")) (hroom : A.depth + 3 < recursionLimit) (ys : List Str) (hz : ys.length < 100000) (x : Str) :
    CallsOwn prog w h₀ A f (ys.map .str) [.str x] [(Str.ofString "key", .val (.ref fk))] ((insS ys x).map .str) := by
  refine CallsOwn.intro F hB (x := Str.ofString "a") (l := [(Str.ofString "x", .str x), (Str.ofString "lo", .int 0), (Str.ofString "hi", .none), (Str.ofString "key", .val (.ref fk))])
    (l' := fun a => [(Str.ofString "a", .own (some a) ((insS ys x).map .str))]) (by omega) ?_ ?_ (fun a L cd => ?_) (fun a => by rfl)
  · intro p hp
    obtain ⟨y, _, rfl⟩ := List.mem_map.mp hp; rfl
  · intro G a vs kvs base hv hk
    cases hv with
    | @cons _ v2 _ _ h2 r =>
    cases r
    cases hk with
    | @cons _ _ v5 _ _ h5 r =>
    cases r
    refine ⟨[(Str.ofString "a", .ref a), (Str.ofString "x", v2), (Str.ofString "lo", .int 0 t), (Str.ofString "hi", .none), (Str.ofString "key", v5)], fun s fd e0 e1 e2 e3 => ?_, ?_, by rfl, by rfl, fun y p e => ?_⟩
    · obtain ⟨o, n, ho, hs⟩ := hT
      obtain ⟨nm, qn, ps, bd, sc, gl, cl, df, kd, doc, pm, an, cd, ct, bi⟩ := fd
      simp only at e1 e2 e3
      subst e1 e2 e3
      exact BindsTo.of_defaults rfl (e0 _ _ ho) hs rfl rfl
    · have : ([Str.ofString "a", Str.ofString "x", Str.ofString "lo", Str.ofString "hi", Str.ofString "key"] : List Str).Nodup := by decide
      exact this
    · have := (BL.cons (x := Str.ofString "a") (VR.val (G := G) (.ref a)) (.cons (x := Str.ofString "x") h2 (.cons (x := Str.ofString "lo") (.int 0 t) (.cons (x := Str.ofString "hi") .none (.cons (x := Str.ofString "key") h5 .nil))))).look y p
      refine this ?_
      rw [List.lookup_cons]
      cases hy : (y == Str.ofString "a") with
      | false => exact e
      | true =>
        rw [beq_iff_eq.mp hy] at e
        have e' : (none : Option PV) = some p := e
        cases e'
  · have hE := fenvOk (name := Str.ofString "insort_right") (L := L) (f := f) (cd := cd) F.kind
    have hd : (A.deeper (fenv (Str.ofString "insort_right") (fs 5) L f cd)).depth = A.depth + 1 := rfl
    have hf : (ys.map PV.str).length = ys.length := by simp
    have hle : bisS ys x ≤ ys.length := bisN_le _ _ _ _ (Nat.zero_le _)
    have eI : (insAt (ys.map PV.str) ((bisS ys x : Nat) : Int).toNat (.str x)) = (insS ys x).map .str := by
      unfold insS insAt
      rw [Int.toNat_natCast]
      simp
    refine Exs.cons (loc₁ := [(Str.ofString "lo", .int (bisS ys x : Nat)), (Str.ofString "a", .own (some a) (ys.map .str)), (Str.ofString "x", .str x)]) (Ex.if_ff (EvT.cmp (Ev.local hE (by rfl)) Ev.none OpC.is_ref_none) ?_) ?_
    · refine (Exs.cons (Ex.assign (Ev.callK (Ev.global hB hE hfb (by rfl)) FB.isFn (EvArgs.cons (Ev.local hE (by rfl)) (EvArgs.cons (Ev.callF (Ev.local hE (by rfl)) FK.isFn (EvArgs.cons (Ev.local hE (by rfl)) EvArgs.nil) rfl (strxfrm_spec FK hB (by rw [hd]; omega) x)) (EvArgs.cons (Ev.local hE (by rfl)) (EvArgs.cons (Ev.local hE (by rfl)) EvArgs.nil))))
        (Ev.local hE (by rfl)) rfl rfl (bisect_right_key FB FK.isFn hT' hB hlen hlenb (by rw [hd]; omega) ys hz x fun L' cd' y => strxfrm_spec FK hB (by show A.depth + 1 + 1 < _; omega) y)) hE rfl (.inl (by rfl))) Exs.nil).less (LSub.refl _) (LSub.cons (by rfl) (LSub.cons (by rfl) (LSub.cons (by rfl) (LSub.nil _))))
    · refine (Exs.cons (Ex.insert (by rfl) (Ev.local hE (by rfl)) (Ev.local hE (by rfl)) rfl hE (by rw [hf]; have := sizeLine_eq; omega) (by omega) (by rw [hf]; omega)) Exs.nil).less (LSub.refl _) (LSub.cons (by rw [eI]; rfl) (LSub.nil _))
end
end Mine
end
section
open PySem PySem.W PyProof.Rows PySem.Spec PySem.Calls
set_option maxRecDepth 100000
set_option maxHeartbeats 2000000
namespace Mine
namespace Rx
open Builtin Builtin.Re
theorem slot_sub : Slot "re.Pattern" "sub" "re.Pattern.sub" :=
  .of (owner := "re.Pattern") (n := "sub") (by rw [typeLookup_type, builtinLookup_eq_fast]; kernel_rfl) (by decide +kernel) (by decide +kernel) (by decide +kernel)
    (by first | exact .inl (by decide +kernel) | exact .inr (by decide +kernel)) (by rw [isSubtype_type]; kernel_rfl)
theorem type_sub : typeOf (.builtin "re.Pattern.sub") = pure (.type "method_descriptor") := by show builtinType _ = _; rw [builtinType_eq_fast]; kernel_rfl
theorem plain_pat : PlainAttrs "re.Pattern" :=
  ⟨⟨"object.__getattribute__", by rw [typeLookup_type, builtinLookup_eq_fast]; kernel_rfl, by decide +kernel⟩, by rw [typeLookup_type, builtinLookup_eq_fast]; kernel_rfl⟩
theorem entry_sub : entryFor table "re.Pattern.sub" = some Builtin.«re.Pattern.sub» := by first | exact entryFor_of_tree (by kernel_rfl) | exact entryFor_of_fast (by kernel_rfl)
theorem entry_loop : entryFor table "re.Pattern.sub.loop" = some Builtin.«re.Pattern.sub.loop» := by first | exact entryFor_of_tree (by kernel_rfl) | exact entryFor_of_fast (by kernel_rfl)
theorem plain_loop : plainId "re.Pattern.sub.loop" = true := by decide +kernel
theorem args_sub (a b c : Value) : argsOk "re.Pattern.sub" ⟨[a, b, c], []⟩ := by unfold argsOk; kernel_rfl
theorem entry_join : entryFor table "bytes.join" = some Builtin.«bytes.join» := by first | exact entryFor_of_tree (by kernel_rfl) | exact entryFor_of_fast (by kernel_rfl)
theorem slot_join : Slot "bytes" "join" "bytes.join" :=
  .of (owner := "bytes") (n := "join") (by rw [typeLookup_type, builtinLookup_eq_fast]; kernel_rfl) (by decide +kernel) (by decide +kernel) (by decide +kernel)
    (by first | exact .inl (by decide +kernel) | exact .inr (by decide +kernel)) (by rw [isSubtype_type]; kernel_rfl)
theorem args_join (a b : Value) : argsOk "bytes.join" ⟨[a, b], []⟩ := by unfold argsOk; kernel_rfl
theorem entry_count : entryFor table "bytes.count" = some Builtin.«bytes.count» := by first | exact entryFor_of_tree (by kernel_rfl) | exact entryFor_of_fast (by kernel_rfl)
theorem slot_count : Slot "bytes" "count" "bytes.count" :=
  .of (owner := "bytes") (n := "count") (by rw [typeLookup_type, builtinLookup_eq_fast]; kernel_rfl) (by decide +kernel) (by decide +kernel) (by decide +kernel)
    (by first | exact .inl (by decide +kernel) | exact .inr (by decide +kernel)) (by rw [isSubtype_type]; kernel_rfl)
theorem type_count : typeOf (.builtin "bytes.count") = pure (.type "method_descriptor") := by show builtinType _ = _; rw [builtinType_eq_fast]; kernel_rfl
theorem args_count (a b : Value) : argsOk "bytes.count" ⟨[a, b], []⟩ := by unfold argsOk; kernel_rfl
theorem plain_bytes : PlainAttrs "bytes" :=
  ⟨⟨"bytes.__getattribute__", by rw [typeLookup_type, builtinLookup_eq_fast]; kernel_rfl, by decide +kernel⟩, by rw [typeLookup_type, builtinLookup_eq_fast]; kernel_rfl⟩
theorem no_call : typeLookup (.type "bytes") "__call__" = pure none := by rw [typeLookup_type, builtinLookup_eq_fast]; kernel_rfl
theorem named_sub (a b : Value) : reNamed "re.Pattern.sub" "sub" ["repl", "string", "count"] 2 [a, b] [] = pure [some a, some b, none] := by kernel_rfl
theorem asStr_bytes (b : Array UInt8) (t : Tok) : asStr? (.bytes b t) = pure none := by kernel_rfl

def driveP : Nat → Sre.M → Option Sre.M
  | 0, _ => none
  | n + 1, m => let m := m.runFor reTurnSteps; if m.outcome.isSome then some m else driveP n m
def runP (n : Nat) (m : Sre.M) : Option (Option Sre.M) := match driveP n m with
  | some m' => (match m'.outcome with
    | some .matched => some (some m')
    | some .failed => some none
    | _ => none)
  | none => none
section
variable {M : Model} {A : Around} {E : Value → Shared → Prop} {s : Shared}
theorem wpAny_drive : ∀ {n : Nat} {m m' : Sre.M} {k : Nat} {Q : Sre.M → Shared → Prop}, driveP n m = some m' → n ≤ k → Q m' s → wpAny M A (reDrive k m) Q E s
  | 0, _, _, _, _, h, _, _ => by cases h
  | n + 1, m, m', 0, Q, h, hk, _ => absurd hk (by omega)
  | n + 1, m, m', k + 1, Q, h, hk, hQ => by
    unfold driveP at h
    unfold reDrive
    by_cases c : (m.runFor reTurnSteps).outcome.isSome = true
    · simp only [c, if_true] at h ⊢
      cases h
      exact wpAny_pure hQ
    · simp only [c, if_false] at h ⊢
      exact wpAny_bind (wpAny_rule (wpAny_drive h (by omega) hQ))
theorem wpAny_rules {f : Nat → PUnit → Sem (ForInStep PUnit)} (hf : ∀ i (Q : ForInStep PUnit → Shared → Prop), Q (.yield ⟨⟩) s → wpAny M A (f i ⟨⟩) Q E s) : ∀ (l : List Nat) {Q : PUnit → Shared → Prop}, Q ⟨⟩ s → wpAny M A (forIn l PUnit.unit f) Q E s
  | [], Q, h => by rw [List.forIn_nil]; exact wpAny_pure h
  | i :: r, Q, h => by
    rw [List.forIn_cons]
    exact wpAny_bind (hf i _ (wpAny_rules hf r h))
theorem wpAny_runToEnd {n : Nat} {m : Sre.M} {r : Option Sre.M} {Q : Option Sre.M → Shared → Prop} (h : runP n m = some r) (hn : n ≤ 2 ^ 64) (hQ : Q r s) : wpAny M A (reRunToEnd m) Q E s := by
  unfold runP at h
  cases hd : driveP n m with
  | none => rw [hd] at h; cases h
  | some m' =>
    rw [hd] at h
    dsimp only at h
    unfold reRunToEnd
    refine wpAny_bind (wpAny_drive hd hn ?_)
    have key : wpAny M A (match m'.outcome with
      | some .matched => pure (some m')
      | some .failed => pure none
      | some (.stuck why) => unsupported s!"_sre:{why}"
      | none => unsupported "internal:sre:no-outcome") Q E s := by
      cases ho : m'.outcome with
      | none => rw [ho] at h; cases h
      | some o =>
        rw [ho] at h
        cases o with
        | matched => cases h; exact wpAny_pure hQ
        | failed => cases h; exact wpAny_pure hQ
        | stuck w => cases h
    refine wpAny_bind (wpAny_rules (fun i Q hq => ?_) _ key)
    refine wpAny_ite ?_
    split
    · exact wpAny_bind (wpAny_rule (wpAny_pure hq))
    · exact wpAny_pure hq
end
end Rx
end Mine
end
section
open PySem
set_option maxRecDepth 100000
set_option maxHeartbeats 2000000
namespace Mine
namespace Rx
open PySem.Sre
def codeN : Array Nat := #[14, 8, 1, 2, 4294967295, 1, 1, 34, 0, 16, 34, 28, 22, 0, 4294967295, 7, 11, 13, 7, 21, 16, 34, 16, 92, 0, 15, 8, 6, 16, 92, 2, 15, 2, 0, 1, 16, 34, 1]

/-- the machine upon our code: no marks, nothing asked of the whole text -/
def St (text : Array Nat) (lim s pc pos handed : Nat) (om : Bool) (loops : Array Loop) (inner : Option Nat) (frames : List Sre.Frame) (weight : Nat) (ans : Option Bool) (sn : Seen) (oc : Option Sre.Outcome) : M :=
  { code := codeN, text, lim, start := s, lastStart := lim, pc, pos, handed, outermost := om, marks := #[], loops, inner, frames, weight, answer := ans, seen := sn, outcome := oc }
def kK : Sre.Kept := { lastmark := -1, lastindex := -1, whole := true, marks := #[] }
def fS (s : Nat) (first : Bool) : Sre.Frame := { wait := .nextStart, pc := 9, pos := s, outermost := first }
def fP (p : Nat) (om : Bool) (n : Nat) : Sre.Frame := { wait := .possMore, pc := 11, pos := p, outermost := om, count := (n : Int), kept := kK }
def fB (pc p : Nat) : Sre.Frame := { wait := .nextBranch, pc, pos := p, outermost := false, kept := kK }
def l0 : Array Loop := #[{ pc := 0, outer := none }]
variable {text : Array Nat} {lim s p h : Nat} {om first : Bool} {loops : Array Loop} {inner : Option Nat} {frames : List Sre.Frame} {wt : Nat} {sn : Seen} {n : Nat}

-- the pieces of the code
theorem j25 : (St text lim s 25 p h om loops inner frames wt none sn none).step = St text lim s 34 p h om loops inner frames wt none (sn.add 15) none := rfl
theorem j31 : (St text lim s 31 p h om loops inner frames wt none sn none).step = St text lim s 34 p h om loops inner frames wt none (sn.add 15) none := rfl
theorem ok34 : (St text lim s 34 p h false loops inner frames wt none sn none).step = St text lim s 34 p p false loops inner frames wt (some true) (sn.add 1) none := rfl
theorem br15 : (St text lim s 15 p h false loops (some 0) frames 2 none sn none).step = St text lim s 17 p p false loops (some 0) (fB 16 p :: frames) 3 none (sn.add 7) none := rfl
theorem nb_yes {pc₀ p₀ : Nat} : (St text lim s 34 p h false loops inner (fB pc₀ p₀ :: frames) 3 (some true) sn none).step = St text lim s pc₀ p₀ h false loops inner frames 2 (some true) sn none := rfl
theorem nb_no16 {pc p₀ : Nat} : (St text lim s pc p h false loops inner (fB 16 p₀ :: frames) 3 (some false) sn none).step = St text lim s 28 p₀ p₀ false loops inner (fB 27 p₀ :: frames) 3 none sn none := rfl
theorem nb_no27 {pc p₀ : Nat} : (St text lim s pc p h false loops inner (fB 27 p₀ :: frames) 3 (some false) sn none).step = St text lim s 27 p₀ h false loops inner frames 2 (some false) sn none := rfl

-- a sign is read
theorem acc17 (c : Nat) (sn : Seen) : accepts codeN 17 c sn = if c == 34 then .ok (false, ((sn.add 21).add 16)) else if c == 92 then .ok (false, (((sn.add 21).add 16).add 16)) else .ok (true, ((((sn.add 21).add 16).add 16).add 0)) := rfl
theorem in17 (hp : p < lim) : (St text lim s 17 p h om loops inner frames wt none sn none).step = match accepts codeN 17 (text.getD p 0) (sn.add 13) with
    | .error why => (St text lim s 17 p h om loops inner frames wt none (sn.add 13) none).stick why
    | .ok (false, sn') => St text lim s 17 p h om loops inner frames wt (some false) sn' none
    | .ok (true, sn') => St text lim s 25 (p + 1) h om loops inner frames wt none sn' none := by
  show (if p ≥ lim then _ else _) = _
  rw [if_neg (by omega)]
  rfl
theorem in17_ok (hp : p < lim) (h1 : text.getD p 0 ≠ 34) (h2 : text.getD p 0 ≠ 92) : ∃ sn', (St text lim s 17 p h om loops inner frames wt none sn none).step = St text lim s 25 (p + 1) h om loops inner frames wt none sn' none := by
  refine ⟨(((((sn.add 13).add 21).add 16).add 16).add 0), ?_⟩
  rw [in17 hp, acc17, if_neg (by simpa using h1), if_neg (by simpa using h2)]
theorem in17_no (hp : p < lim) (h1 : text.getD p 0 = 34 ∨ text.getD p 0 = 92) : ∃ sn', (St text lim s 17 p h om loops inner frames wt none sn none).step = St text lim s 17 p h om loops inner frames wt (some false) sn' none := by
  rcases h1 with h1 | h1
  · refine ⟨(((sn.add 13).add 21).add 16), ?_⟩
    rw [in17 hp, acc17, if_pos (by simpa using h1)]
  · refine ⟨((((sn.add 13).add 21).add 16).add 16), ?_⟩
    rw [in17 hp, acc17, if_neg (by simp [h1]), if_pos (by simpa using h1)]
def litOf (text : Array Nat) (lim s pc c p h : Nat) (om : Bool) (loops : Array Loop) (inner : Option Nat) (frames : List Sre.Frame) (wt : Nat) (sn : Seen) : M :=
  if p ≥ lim then St text lim s pc p h om loops inner frames wt (some false) sn none else
  if text.getD p 0 == c then St text lim s (pc + 2) (p + 1) h om loops inner frames wt none sn none else St text lim s pc p h om loops inner frames wt (some false) sn none
theorem lit_of {pc c : Nat} (h1 : (St text lim s pc p h om loops inner frames wt none sn none).step = (if p ≥ lim then St text lim s pc p h om loops inner frames wt (some false) (sn.add 16) none else match Except.ok (text.getD p 0 == c, sn.add 16) with
    | .error why => (St text lim s pc p h om loops inner frames wt none (sn.add 16) none).stick why
    | .ok (false, sn') => St text lim s pc p h om loops inner frames wt (some false) sn' none
    | .ok (true, sn') => St text lim s (pc + 2) (p + 1) h om loops inner frames wt none sn' none)) : (St text lim s pc p h om loops inner frames wt none sn none).step = litOf text lim s pc c p h om loops inner frames wt (sn.add 16) := by
  rw [h1]
  unfold litOf
  by_cases hp : p ≥ lim
  · rw [if_pos hp, if_pos hp]
  · rw [if_neg hp, if_neg hp]
    cases text.getD p 0 == c <;> rfl
theorem lit9 : (St text lim s 9 p h om loops inner frames wt none sn none).step = litOf text lim s 9 34 p h om loops inner frames wt (sn.add 16) := lit_of rfl
theorem lit28 : (St text lim s 28 p h om loops inner frames wt none sn none).step = litOf text lim s 28 92 p h om loops inner frames wt (sn.add 16) := lit_of rfl
theorem lit35 : (St text lim s 35 p h om loops inner frames wt none sn none).step = litOf text lim s 35 34 p h om loops inner frames wt (sn.add 16) := lit_of rfl
theorem lit_yes {pc c : Nat} (hp : p < lim) (hc : text.getD p 0 = c) : litOf text lim s pc c p h om loops inner frames wt sn = St text lim s (pc + 2) (p + 1) h om loops inner frames wt none sn none := by
  unfold litOf; rw [if_neg (by omega), if_pos (by simpa using hc)]
theorem lit_no {pc c : Nat} (hp : p < lim) (hc : text.getD p 0 ≠ c) : litOf text lim s pc c p h om loops inner frames wt sn = St text lim s pc p h om loops inner frames wt (some false) sn none := by
  unfold litOf; rw [if_neg (by omega), if_neg (by simpa using hc)]
theorem lit_end {pc c : Nat} (hp : lim ≤ p) : litOf text lim s pc c p h om loops inner frames wt sn = St text lim s pc p h om loops inner frames wt (some false) sn none := by
  unfold litOf; rw [if_pos hp]
theorem any30 (hp : p < lim) (hc : text.getD p 0 ≠ 10) : (St text lim s 30 p h om loops inner frames wt none sn none).step = St text lim s 31 (p + 1) h om loops inner frames wt none (sn.add 2) none := by
  have e : (St text lim s 30 p h om loops inner frames wt none sn none).step = (if p ≥ lim then St text lim s 30 p h om loops inner frames wt (some false) (sn.add 2) none else match Except.ok (text.getD p 0 != 10, sn.add 2) with
    | .error why => (St text lim s 30 p h om loops inner frames wt none (sn.add 2) none).stick why
    | .ok (false, sn') => St text lim s 30 p h om loops inner frames wt (some false) sn' none
    | .ok (true, sn') => St text lim s 31 (p + 1) h om loops inner frames wt none sn' none) := rfl
  rw [e, if_neg (by omega), show (text.getD p 0 != 10) = true by simpa using hc]
-- the loop that keeps what it took
theorem poss {count : Nat} {began : Option Nat} {pc : Nat} (hpc : pc = 11) (hb : began ≠ some h) : (St text lim s pc p h om l0 (some 0) frames 1 none sn none).possessive 0 (count : Int) began = St text lim s 15 h h false l0 (some 0) (fP h om count :: frames) 2 none sn none := by
  subst hpc
  have e : (St text lim s 11 p h om l0 (some 0) frames 1 none sn none).possessive 0 (count : Int) began = (if (count : Int) < ((0 : Nat) : Int) then (St text lim s 11 p h om l0 (some 0) frames 1 none sn none).attempt { (St text lim s 11 p h om l0 (some 0) frames 1 none sn none).frame .possBelow with loop := 0, count } 15 h false
    else if ((decide ((count : Int) < ((4294967295 : Nat) : Int)) || (4294967295 == maxRepeat)) && began != some h) = true then St text lim s 15 h h false l0 (some 0) (fP h om count :: frames) 2 none sn none
    else { (St text lim s 11 p h om l0 (some 0) frames 1 none sn none) with inner := none, loops := #[], pc := 35, pos := h }) := rfl
  rw [e, if_neg (by omega), if_pos]
  have : (began != some h) = true := by simpa using hb
  rw [this, show (4294967295 == maxRepeat) = true from rfl, Bool.or_true, Bool.and_true]
theorem poss_end {count : Nat} {pc : Nat} (hpc : pc = 11) : (St text lim s pc p h om l0 (some 0) frames 1 none sn none).possessive 0 (count : Int) (some h) = St text lim s 35 h h om #[] none frames 1 none sn none := by
  subst hpc
  have e : (St text lim s 11 p h om l0 (some 0) frames 1 none sn none).possessive 0 (count : Int) (some h) = (if (count : Int) < ((0 : Nat) : Int) then (St text lim s 11 p h om l0 (some 0) frames 1 none sn none).attempt { (St text lim s 11 p h om l0 (some 0) frames 1 none sn none).frame .possBelow with loop := 0, count } 15 h false
    else if ((decide ((count : Int) < ((4294967295 : Nat) : Int)) || (4294967295 == maxRepeat)) && some h != some h) = true then St text lim s 15 h h false l0 (some 0) (fP h om count :: frames) 2 none sn none
    else St text lim s 35 h h om #[] none frames 1 none sn none) := rfl
  rw [e, if_neg (by omega), if_neg]
  simp

-- many steps
def it : Nat → M → M
  | 0, m => m
  | k + 1, m => it k m.step
theorem it_add : ∀ (a b : Nat) (m : M), it (a + b) m = it b (it a m)
  | 0, b, m => by rw [Nat.zero_add]; rfl
  | a + 1, b, m => by rw [show a + 1 + b = (a + b) + 1 by omega]; exact it_add a b m.step
theorem step_done {m : M} (h : m.outcome.isSome = true) : m.step = m := by
  unfold M.step; rw [if_pos h]
theorem it_done {m : M} (h : m.outcome.isSome = true) : ∀ k, it k m = m
  | 0 => rfl
  | k + 1 => by show it k m.step = m; rw [step_done h]; exact it_done h k
theorem runFor_it : ∀ (k : Nat) (m : M), m.runFor k = it k m
  | 0, m => rfl
  | k + 1, m => by
    unfold M.runFor
    by_cases c : m.outcome.isSome = true
    · rw [if_pos c, it_done c]
    · rw [if_neg c]; exact runFor_it k m.step
theorem drive_it : ∀ (n k : Nat) (m m' : M), it k m = m' → m'.outcome.isSome = true → k ≤ 4 * n → 0 < n → driveP n m = some m'
  | 0, _, _, _, _, _, _, h => absurd h (by omega)
  | n + 1, k, m, m', hk, ho, hn, _ => by
    unfold driveP
    rw [runFor_it]
    show (if (it 4 m).outcome.isSome = true then some (it 4 m) else driveP n (it 4 m)) = some m'
    by_cases c : (it 4 m).outcome.isSome = true
    · rw [if_pos c]
      congr 1
      rcases Nat.lt_or_ge k 4 with q | q
      · rw [show 4 = k + (4 - k) by omega, it_add, hk, it_done ho]
      · rw [show k = 4 + (k - 4) by omega, it_add, it_done c] at hk
        exact hk
    · rw [if_neg c]
      have q : 4 < k := by
        rcases Nat.lt_or_ge 4 k with q | q
        · exact q
        · exfalso; apply c
          rw [show 4 = k + (4 - k) by omega, it_add, hk, it_done ho]; exact ho
      rw [show k = 4 + (k - 4) by omega, it_add] at hk
      exact drive_it n (k - 4) _ m' hk ho (by omega) (by omega)
def Rn (b : Nat) (m m' : M) : Prop := ∃ k, k ≤ b ∧ it k m = m'
theorem Rn.refl (m : M) : Rn 0 m m := ⟨0, Nat.le_refl _, rfl⟩
theorem Rn.one {m m' : M} (h : m.step = m') : Rn 1 m m' := ⟨1, Nat.le_refl _, h⟩
theorem Rn.trans {a b : Nat} {m m' m'' : M} (x : Rn a m m') (y : Rn b m' m'') : Rn (a + b) m m'' := by
  obtain ⟨i, hi, e⟩ := x
  obtain ⟨j, hj, f⟩ := y
  exact ⟨i + j, by omega, by rw [it_add, e, f]⟩
theorem Rn.step {b : Nat} {m m' m'' : M} (x : m.step = m') (y : Rn b m' m'') : Rn (b + 1) m m'' := by
  rw [Nat.add_comm]; exact (Rn.one x).trans y

/-- a start is tried -/
def stA (text : Array Nat) (lim s : Nat) (first : Bool) (sn : Seen) : M := St text lim s 9 s s first #[] none [fS s first] 1 none sn none
/-- within the quotation -/
def stL (text : Array Nat) (lim s : Nat) (first : Bool) (p n : Nat) (sn : Seen) : M := St text lim s 15 p p false l0 (some 0) [fP p first n, fS s first] 2 none sn none

theorem ns_no (hs : s < lim) {pc : Nat} : (St text lim s pc p h om #[] none [fS s first] 1 (some false) sn none).step = stA text lim (s + 1) false sn := by
  have e : (St text lim s pc p h om #[] none [fS s first] 1 (some false) sn none).step = (if (false = true) then St text lim s 9 s h first #[] none [] 0 (some true) sn none else if s < lim then stA text lim (s + 1) false sn else St text lim s 9 s h first #[] none [] 0 (some false) sn none) := rfl
  rw [e, if_neg (by decide), if_pos hs]
theorem ns_end (hs : ¬ s < lim) {pc : Nat} : (St text lim s pc p h om #[] none [fS s first] 1 (some false) sn none).step = St text lim s 9 s h first #[] none [] 0 (some false) sn none := by
  have e : (St text lim s pc p h om #[] none [fS s first] 1 (some false) sn none).step = (if (false = true) then St text lim s 9 s h first #[] none [] 0 (some true) sn none else if s < lim then stA text lim (s + 1) false sn else St text lim s 9 s h first #[] none [] 0 (some false) sn none) := rfl
  rw [e, if_neg (by decide), if_neg hs]
theorem ns_yes {pc : Nat} : (St text lim s pc p h om #[] none [fS s first] 1 (some true) sn none).step = St text lim s 9 s h first #[] none [] 0 (some true) sn none := rfl
theorem A0 (hs : s < lim) (hc : text.getD s 0 ≠ 34) : ∃ sn', Rn 2 (stA text lim s first sn) (stA text lim (s + 1) false sn') :=
  ⟨_, Rn.step (lit9.trans (lit_no hs hc)) (Rn.one (ns_no hs))⟩
theorem A1 (hs : lim ≤ s) : ∃ m', Rn 3 (stA text lim s first sn) m' ∧ m'.outcome = some .failed :=
  ⟨_, Rn.step (lit9.trans (lit_end hs)) (Rn.step (ns_end (by omega)) (Rn.one rfl)), rfl⟩
theorem A2 (hs : s < lim) (hc : text.getD s 0 = 34) : ∃ sn', Rn 2 (stA text lim s first sn) (stL text lim s first (s + 1) 0 sn') := by
  refine ⟨(sn.add 16).add 28, Rn.step (lit9.trans (lit_yes hs hc)) (Rn.one ?_)⟩
  have e : (St text lim s (9 + 2) (s + 1) s first #[] none [fS s first] 1 none (sn.add 16) none).step = (St text lim s (9 + 2) (s + 1) (s + 1) first l0 (some 0) [fS s first] 1 none ((sn.add 16).add 28) none).possessive 0 ((0 : Nat) : Int) none := rfl
  rw [e]
  exact poss rfl (by simp)
theorem pm_yes {q pc : Nat} (hq : q ≠ p) : (St text lim s pc p q false l0 (some 0) [fP p first n, fS s first] 2 (some true) sn none).step = stL text lim s first q (n + 1) sn := by
  unfold M.step
  rw [if_neg (by show ¬ (false = true); decide)]
  dsimp only [St]
  unfold M.resume
  dsimp only [fP]
  rw [if_pos rfl]
  exact poss (p := p) (count := n + 1) (pc := 11) (sn := sn) (frames := [fS s first]) (text := text) (lim := lim) (om := first) rfl (fun z => hq (Option.some.inj z).symm)
theorem pm_no {pc : Nat} : (St text lim s pc p h false l0 (some 0) [fP p first n, fS s first] 2 (some false) sn none).step = St text lim s 35 p p first #[] none [fS s first] 1 none sn none := by
  unfold M.step
  rw [if_neg (by show ¬ (false = true); decide)]
  dsimp only [St]
  unfold M.resume
  dsimp only [fP]
  rw [if_neg (by decide)]
  exact poss_end (p := p) (count := n) (pc := 11) (sn := sn) (frames := [fS s first]) (text := text) (lim := lim) (om := first) rfl
theorem L1 (hp : p < lim) (h1 : text.getD p 0 ≠ 34) (h2 : text.getD p 0 ≠ 92) : ∃ sn', Rn 6 (stL text lim s first p n sn) (stL text lim s first (p + 1) (n + 1) sn') := by
  obtain ⟨sn', e⟩ := in17_ok (text := text) (lim := lim) (s := s) (h := p) (om := false) (loops := l0) (inner := some 0) (frames := [fB 16 p, fP p first n, fS s first]) (wt := 3) (sn := sn.add 7) hp h1 h2
  exact ⟨_, Rn.step br15 (Rn.step e (Rn.step j25 (Rn.step ok34 (Rn.step nb_yes (Rn.one (pm_yes (by omega)))))))⟩
theorem L2 (hp : p + 1 < lim) (h1 : text.getD p 0 = 92) (h2 : text.getD (p + 1) 0 ≠ 10) : ∃ sn', Rn 9 (stL text lim s first p n sn) (stL text lim s first (p + 2) (n + 1) sn') := by
  obtain ⟨sn', e⟩ := in17_no (text := text) (lim := lim) (s := s) (h := p) (om := false) (loops := l0) (inner := some 0) (frames := [fB 16 p, fP p first n, fS s first]) (wt := 3) (sn := sn.add 7) (by omega) (.inr h1)
  apply Exists.intro
  refine Rn.step br15 ?_
  refine Rn.step e ?_
  refine Rn.step nb_no16 ?_
  refine Rn.step (lit28.trans (lit_yes (by omega) h1)) ?_
  refine Rn.step (any30 hp h2) ?_
  refine Rn.step j31 ?_
  refine Rn.step ok34 ?_
  refine Rn.step nb_yes ?_
  exact Rn.one (pm_yes (by omega))
theorem L3 (hp : p < lim) (h1 : text.getD p 0 = 34) : ∃ m', Rn 10 (stL text lim s first p n sn) m' ∧ m'.outcome = some .matched ∧ m'.start = s ∧ m'.handed = p + 1 := by
  obtain ⟨sn', e⟩ := in17_no (text := text) (lim := lim) (s := s) (h := p) (om := false) (loops := l0) (inner := some 0) (frames := [fB 16 p, fP p first n, fS s first]) (wt := 3) (sn := sn.add 7) hp (.inl h1)
  have ok37 : ∀ sn, (St text lim s 37 (p + 1) p first #[] none [fS s first] 1 none sn none).step = St text lim s 37 (p + 1) (p + 1) first #[] none [fS s first] 1 (some true) (sn.add 1) none := fun sn => by cases first <;> rfl
  refine ⟨St text lim s 9 s (p + 1) first #[] none [] 0 (some true) (((sn'.add 16).add 16).add 1) (some .matched), ?_, rfl, rfl, rfl⟩
  · refine Rn.step br15 ?_
    refine Rn.step e ?_
    refine Rn.step nb_no16 ?_
    refine Rn.step (lit28.trans (lit_no hp (by omega))) ?_
    refine Rn.step nb_no27 ?_
    refine Rn.step pm_no ?_
    refine Rn.step (lit35.trans (lit_yes hp h1)) ?_
    refine Rn.step (ok37 _) ?_
    refine Rn.step ns_yes ?_
    exact Rn.one rfl
end Rx
end Mine
end
section
open PySem
set_option maxRecDepth 100000
set_option maxHeartbeats 2000000
namespace Mine
namespace Rx
open PySem.Sre
inductive Body : List Nat → Prop
  | nil : Body []
  | one {c : Nat} {r : List Nat} : c ≠ 34 → c ≠ 92 → Body r → Body (c :: r)
  | two {c : Nat} {r : List Nat} : c ≠ 10 → Body r → Body (92 :: c :: r)
inductive Toks : List Nat → List Nat → Prop
  | nil : Toks [] []
  | pl {c : Nat} {r o : List Nat} : c ≠ 34 → Toks r o → Toks (c :: r) (c :: o)
  | q {b r o : List Nat} : Body b → Toks r o → Toks (34 :: (b ++ 34 :: r)) o
theorem getD_at {pre r : List Nat} {c : Nat} : (pre ++ c :: r).toArray.getD pre.length 0 = c := by simp
theorem body_run {r : List Nat} {s : Nat} {first : Bool} {lim : Nat} : ∀ {b : List Nat}, Body b → ∀ (pre : List Nat) (n : Nat) (sn : Seen), lim = (pre ++ (b ++ 34 :: r)).length →
    ∃ m' k, Rn k (stL (pre ++ (b ++ 34 :: r)).toArray lim s first pre.length n sn) m' ∧ k ≤ 9 * b.length + 10 ∧ m'.outcome = some .matched ∧ m'.start = s ∧ m'.handed = pre.length + b.length + 1
  | _, .nil, pre, n, sn, hl => by
    have hlen : pre.length < lim := by rw [hl]; simp
    obtain ⟨m', h1, h2, h3, h4⟩ := L3 (text := (pre ++ ([] ++ 34 :: r)).toArray) (s := s) (first := first) (n := n) (sn := sn) hlen (by simp)
    exact ⟨m', 10, h1, by simp, h2, h3, by simpa using h4⟩
  | _, .one (c := c) (r := b) h1 h2 hb, pre, n, sn, hl => by
    have hlen : pre.length < lim := by rw [hl]; simp
    have hc : (pre ++ (c :: b ++ 34 :: r)).toArray.getD pre.length 0 = c := getD_at
    obtain ⟨sn', R⟩ := L1 (text := (pre ++ (c :: b ++ 34 :: r)).toArray) (s := s) (first := first) (n := n) (sn := sn) hlen (by rw [hc]; exact h1) (by rw [hc]; exact h2)
    have e : pre ++ (c :: b ++ 34 :: r) = (pre ++ [c]) ++ (b ++ 34 :: r) := by simp
    obtain ⟨m', k, R2, hk, q1, q2, q3⟩ := body_run (r := r) (s := s) (first := first) (lim := lim) hb (pre ++ [c]) (n + 1) sn' (by rw [hl, e])
    rw [← e, show (pre ++ [c]).length = pre.length + 1 by simp] at R2
    exact ⟨m', 6 + k, R.trans R2, by simp <;> omega, q1, q2, by rw [q3]; simp <;> omega⟩
  | _, .two (c := c) (r := b) h1 hb, pre, n, sn, hl => by
    have hlen : pre.length + 1 < lim := by rw [hl]; simp <;> omega
    have e : pre ++ (92 :: c :: b ++ 34 :: r) = (pre ++ [92]) ++ (c :: (b ++ 34 :: r)) := by simp
    have hc : (pre ++ (92 :: c :: b ++ 34 :: r)).toArray.getD pre.length 0 = 92 := getD_at
    have hc2 : (pre ++ (92 :: c :: b ++ 34 :: r)).toArray.getD (pre.length + 1) 0 = c := by
      rw [e, show pre.length + 1 = (pre ++ [92]).length by simp]; exact getD_at
    obtain ⟨sn', R⟩ := L2 (text := (pre ++ (92 :: c :: b ++ 34 :: r)).toArray) (s := s) (first := first) (n := n) (sn := sn) hlen hc (by rw [hc2]; exact h1)
    have e2 : pre ++ (92 :: c :: b ++ 34 :: r) = (pre ++ [92, c]) ++ (b ++ 34 :: r) := by simp
    obtain ⟨m', k, R2, hk, q1, q2, q3⟩ := body_run (r := r) (s := s) (first := first) (lim := lim) hb (pre ++ [92, c]) (n + 1) sn' (by rw [hl, e2])
    rw [← e2, show (pre ++ [92, c]).length = pre.length + 2 by simp] at R2
    exact ⟨m', 9 + k, R.trans R2, by simp <;> omega, q1, q2, by rw [q3]; simp <;> omega⟩
theorem scan : ∀ {suf out : List Nat}, Toks suf out → ∀ (pre : List Nat) (lim : Nat) (first : Bool) (sn : Seen), lim = (pre ++ suf).length →
    ∃ m' k, Rn k (stA (pre ++ suf).toArray lim pre.length first sn) m' ∧ k ≤ 9 * suf.length + 12 ∧
      ((m'.outcome = some .failed ∧ out = suf) ∨ (m'.outcome = some .matched ∧ ∃ o1 b r o2, suf = o1 ++ 34 :: (b ++ 34 :: r) ∧ out = o1 ++ o2 ∧ Toks r o2 ∧ m'.start = pre.length + o1.length ∧ m'.handed = pre.length + o1.length + b.length + 2))
  | _, _, .nil, pre, lim, first, sn, hl => by
    obtain ⟨m', R, h⟩ := A1 (text := (pre ++ []).toArray) (lim := lim) (s := pre.length) (first := first) (sn := sn) (by rw [hl]; simp)
    exact ⟨m', 3, R, by omega, .inl ⟨h, rfl⟩⟩
  | _, _, .pl (c := c) (r := r) (o := o) hc hr, pre, lim, first, sn, hl => by
    have hlen : pre.length < lim := by rw [hl]; simp
    obtain ⟨sn', R⟩ := A0 (text := (pre ++ c :: r).toArray) (first := first) (sn := sn) hlen (by rw [getD_at]; exact hc)
    have e : pre ++ c :: r = (pre ++ [c]) ++ r := by simp
    obtain ⟨m', k, R2, hk, h⟩ := scan hr (pre ++ [c]) lim false sn' (by rw [hl, e])
    rw [← e, show (pre ++ [c]).length = pre.length + 1 by simp] at R2
    refine ⟨m', 2 + k, R.trans R2, by simp <;> omega, ?_⟩
    rcases h with ⟨h, ho⟩ | ⟨h, o1, b, r', o2, e1, e2, ht, e3, e4⟩
    · exact .inl ⟨h, by rw [ho]⟩
    · exact .inr ⟨h, c :: o1, b, r', o2, by rw [e1]; rfl, by rw [e2]; rfl, ht, by rw [e3]; simp <;> omega, by rw [e4]; simp <;> omega⟩
  | _, _, .q (b := b) (r := r) (o := o) hb hr, pre, lim, first, sn, hl => by
    have hlen : pre.length < lim := by rw [hl]; simp
    obtain ⟨sn', R⟩ := A2 (text := (pre ++ 34 :: (b ++ 34 :: r)).toArray) (first := first) (sn := sn) hlen getD_at
    have e : pre ++ 34 :: (b ++ 34 :: r) = (pre ++ [34]) ++ (b ++ 34 :: r) := by simp
    obtain ⟨m', k, R2, hk, q1, q2, q3⟩ := body_run (r := r) (s := pre.length) (first := first) (lim := lim) hb (pre ++ [34]) 0 sn' (by rw [hl, e])
    rw [← e, show (pre ++ [(34 : Nat)]).length = pre.length + 1 by simp] at R2
    exact ⟨m', 2 + k, R.trans R2, by simp <;> omega, .inr ⟨q1, [], b, r, o, rfl, rfl, hr, by rw [q2]; simp, by rw [q3]; simp <;> omega⟩⟩

/-- what a search from st finds -/
def Find (text : List Nat) (st : Nat) (r : Option (Nat × Nat)) : Prop :=
  ∃ n m', n ≤ 2 ^ 64 ∧ driveP n (forSearch codeN text.toArray 0 st text.toArray.size false) = some m' ∧ (match r with
    | none => m'.outcome = some .failed
    | some (a, b) => m'.outcome = some .matched ∧ m'.start = a ∧ m'.handed = b)
theorem forSearch_lo {text : Array Nat} {st lim : Nat} (h : lim < st + 2) : ∃ m', driveP 1 (forSearch codeN text 0 st lim false) = some m' ∧ m'.outcome = some .failed := by
  have e : forSearch codeN text 0 st lim false = (if (decide (st > lim) || decide (lim - st < 2)) = true then { code := codeN, text, lim, start := st, pc := 9, pos := st, handed := st, marks := #[], mustAdvance := false, seen := ({} : Seen).add 14, answer := some false } else stA text lim st true (({} : Seen).add 14)) := rfl
  rw [e, if_pos]
  · exact ⟨_, drive_it 1 1 _ _ rfl rfl (by omega) (by omega), rfl⟩
  · (simp <;> omega)
theorem forSearch_hi {text : Array Nat} {st lim : Nat} (h : st + 2 ≤ lim) : forSearch codeN text 0 st lim false = stA text lim st true (({} : Seen).add 14) := by
  have e : forSearch codeN text 0 st lim false = (if (decide (st > lim) || decide (lim - st < 2)) = true then { code := codeN, text, lim, start := st, pc := 9, pos := st, handed := st, marks := #[], mustAdvance := false, seen := ({} : Seen).add 14, answer := some false } else stA text lim st true (({} : Seen).add 14)) := rfl
  rw [e, if_neg]
  (simp <;> omega)
/-- the pieces that sub lays together -/
inductive SubR (text : List Nat) : Nat → List (List Nat) → Prop
  | stop {st : Nat} : Find text st none → SubR text st (if st < text.length then [text.drop st] else [])
  | turn {st a b : Nat} {ps : List (List Nat)} : Find text st (some (a, b)) → st ≤ a → a < b → b ≤ text.length → SubR text b ps → SubR text st ((if st < a then [(text.drop st).take (a - st)] else []) ++ [[]] ++ ps)
theorem sub_of : ∀ (n : Nat) {suf out : List Nat}, suf.length ≤ n → Toks suf out → ∀ pre : List Nat, (pre ++ suf).length < 100000 → ∃ ps, SubR (pre ++ suf) pre.length ps ∧ ps.flatten = out ∧ ps.length ≤ 2 * suf.length + 1
  | 0, suf, out, hn, ht, pre, hz => by
    have : suf = [] := List.length_eq_zero_iff.mp (by omega)
    subst this
    cases ht
    obtain ⟨m', h1, h2⟩ := forSearch_lo (text := (pre ++ []).toArray) (st := pre.length) (lim := (pre ++ []).toArray.size) (by simp)
    refine ⟨_, .stop ⟨1, m', by decide, h1, h2⟩, ?_, ?_⟩
    · rw [if_neg (by simp)]; rfl
    · rw [if_neg (by simp)]; simp
  | n + 1, suf, out, hn, ht, pre, hz => by
    by_cases hs : suf.length < 2
    · obtain ⟨m', h1, h2⟩ := forSearch_lo (text := (pre ++ suf).toArray) (st := pre.length) (lim := (pre ++ suf).toArray.size) (by simp <;> omega)
      refine ⟨_, .stop ⟨1, m', by decide, h1, h2⟩, ?_, ?_⟩
      · cases ht with
        | nil => rw [if_neg (by simp)]; rfl
        | @pl c r o hc hr =>
          have : r = [] := List.length_eq_zero_iff.mp (by simp at hs; omega)
          subst this
          cases hr
          rw [if_pos (by simp)]; simp
        | @q b r o hb hr => exfalso; simp at hs; omega
      · split <;> simp
    · obtain ⟨m', k, R, hk, h⟩ := scan ht pre (pre ++ suf).toArray.size true (({} : Seen).add 14) (by simp)
      have hf : forSearch codeN (pre ++ suf).toArray 0 pre.length (pre ++ suf).toArray.size false = stA (pre ++ suf).toArray (pre ++ suf).toArray.size pre.length true (({} : Seen).add 14) := forSearch_hi (by simp <;> omega)
      obtain ⟨k', hk', e'⟩ := R
      rw [List.length_append] at hz
      rcases h with ⟨h, ho⟩ | ⟨h, o1, b, r, o2, e1, e2, ht2, e3, e4⟩
      · refine ⟨_, .stop ⟨1000000, m', by decide, by rw [hf]; exact drive_it 1000000 k' _ _ e' (by rw [h]; rfl) (by omega) (by omega), h⟩, ?_, ?_⟩
        · rw [if_pos (by rw [List.length_append]; omega), ho]; simp
        · split <;> simp
      · have hd := drive_it 1000000 k' _ _ e' (by rw [h]; rfl) (by omega) (by omega)
        rw [← hf] at hd
        have hl : suf.length = o1.length + b.length + 2 + r.length := by rw [e1]; simp <;> omega
        have es : pre ++ suf = (pre ++ o1 ++ [34] ++ b ++ [34]) ++ r := by rw [e1]; simp
        obtain ⟨ps, hp1, hp2, hp3⟩ := sub_of n (suf := r) (out := o2) (by omega) ht2 (pre ++ o1 ++ [34] ++ b ++ [34]) (by rw [← es, List.length_append]; omega)
        rw [← es] at hp1
        have hb : (pre ++ o1 ++ [34] ++ b ++ [34]).length = pre.length + o1.length + b.length + 2 := by simp <;> omega
        rw [hb] at hp1
        refine ⟨_, .turn (a := pre.length + o1.length) (b := pre.length + o1.length + b.length + 2) ⟨1000000, m', by decide, hd, h, e3, e4⟩ (by omega) (by omega) (by rw [List.length_append]; omega) hp1, ?_, ?_⟩
        · rw [List.flatten_append, List.flatten_append, hp2, e2]
          by_cases c : pre.length < pre.length + o1.length
          · rw [if_pos c, e1]
            simp
          · have : o1 = [] := List.length_eq_zero_iff.mp (by omega)
            subst this
            rw [if_neg c]; simp
        · split <;> simp <;> omega
end Rx
end Mine
end
section
open PySem PySem.W PyProof.Rows PySem.Spec PySem.Calls
set_option maxRecDepth 100000
set_option maxHeartbeats 2000000
namespace Mine
namespace Rx
open Builtin Builtin.Re
def byt (l : List Nat) : Array UInt8 := (l.map Nat.toUInt8).toArray
inductive BAre : List Value → List (List Nat) → Prop
  | nil : BAre [] []
  | cons {b : Array UInt8} {p : List Nat} {vs : List Value} {ps : List (List Nat)} (e : b = byt p) (t : Tok) (r : BAre vs ps) : BAre (.bytes b t :: vs) (p :: ps)
theorem BAre.append : ∀ {vs us : List Value} {ps qs : List (List Nat)}, BAre vs ps → BAre us qs → BAre (vs ++ us) (ps ++ qs)
  | _, _, _, _, .nil, h => h
  | _, _, _, _, .cons e t r, h => .cons e t (r.append h)
theorem BAre.length : ∀ {vs : List Value} {ps : List (List Nat)}, BAre vs ps → vs.length = ps.length
  | _, _, .nil => rfl
  | _, _, .cons _ _ r => congrArg (· + 1) r.length
theorem BAre.at : ∀ {vs : List Value} {ps : List (List Nat)} {i : Nat} {p : List Nat}, BAre vs ps → ps[i]? = some p → ∃ t, vs[i]? = some (.bytes (byt p) t)
  | _, _, 0, _, .cons e t _, h => by simp at h; subst h; subst e; exact ⟨t, rfl⟩
  | _, _, i + 1, _, .cons _ _ r, h => by simpa using r.at (by simpa using h)
section
variable {prog : Program} {w : World} {A : Around} {E : Value → Shared → Prop} {s : Shared}
theorem take_eq (id : String) (b : Array UInt8) (t : Tok) (f : Int) : Bytes.takeBufferQuiet? id (.bytes b t) f = pure (some (b, none)) := by
  have h : Bytes.takeBuffer? id (.bytes b t) f = pure (some (b, none)) := by
    unfold Bytes.takeBuffer?
    rw [KBy.special_eq KBy.look_buffer, KBy.own_buffer]
    have : ∀ full, Bytes.buffer? id (.bytes b t) full = pure (some b) := fun full => by
      unfold Bytes.buffer?
      rw [KBy.special_eq KBy.look_buffer, KBy.own_buffer, KBy.own_release]
      kernel_rfl
    rw [this]
    kernel_rfl
  unfold Bytes.takeBufferQuiet?
  rw [h]; rfl
theorem letGo_ok : ∀ {taken : List (Value × Option Value)} {keep : List Value} {M : Model} {Q : Unit → Shared → Prop}, (∀ y ∈ taken, y.2 = none) → Q () s → wpAny M A (Bytes.joinLetGo taken keep) Q E s
  | [], _, _, _, _, h => wpAny_pure h
  | (x, w') :: r, keep, M, Q, hn, h => by
    have : w' = none := hn _ (.head _)
    subst this
    unfold Bytes.joinLetGo
    exact wpAny_bind (wpAny_letGo (letGo_ok (fun y hy => hn y (.tail _ hy)) h))
theorem range_loop {β : Type} {M : Model} {f : Nat → β → Sem (ForInStep β)} {n : Nat} (I : Nat → β → Prop) (hf : ∀ i b (Q : ForInStep β → Shared → Prop), i < n → I i b → (∀ b', I (i + 1) b' → Q (.yield b') s) → wpAny M A (f i b) Q E s) {b₀ : β} (h0 : I 0 b₀) {Q : β → Shared → Prop} (hQ : ∀ b, I n b → Q b s) :
    wpAny M A (forIn [:n] b₀ f) Q E s := by
  rw [Std.Legacy.Range.forIn_eq_forIn_range']
  have key : ∀ (k i : Nat) (b : β), i + k = n → I i b → wpAny M A (forIn (List.range' i k 1) b f) Q E s := by
    intro k
    induction k with
    | zero =>
      intro i b hi hb
      rw [List.range'_zero, List.forIn_nil]
      have e : i = n := by omega
      subst e
      exact wpAny_pure (hQ b hb)
    | succ k ih =>
      intro i b hi hb
      rw [List.range'_succ, List.forIn_cons]
      exact wpAny_bind (hf i b _ (by omega) hb fun b' hb' => ih (i + 1) b' (by omega) hb')
  have := key n 0 b₀ (by omega) h0
  have e : ([:n] : Std.Legacy.Range).size = n := by simp [Std.Legacy.Range.size]
  show wpAny M A (forIn (List.range' 0 ([:n] : Std.Legacy.Range).size 1) b₀ f) Q E s
  rw [e]
  exact this
theorem foldl_sizes : ∀ (l : List (Array UInt8)) (k : Nat), l.foldl (fun x y => x + y.size) k = k + (l.map (·.size)).sum
  | [], k => by simp
  | a :: r, k => by simp [foldl_sizes r]; omega
theorem joined_nil (l : List (Array UInt8)) : Bytes.joined #[] l = (l.map (·.toList)).flatten.toArray := by
  unfold Bytes.joined
  have : ∀ (l : List (Array UInt8)) (k : Nat) (acc : Array UInt8), (l.zipIdx k).foldl (fun out (x : Array UInt8 × Nat) => (if x.2 > 0 then out ++ #[] else out) ++ x.1) acc = acc ++ (l.map (·.toList)).flatten.toArray := by
    intro l
    induction l with
    | nil => intro k acc; simp
    | cons a r ih =>
      intro k acc
      rw [List.zipIdx_cons, List.foldl_cons, ih]
      apply Array.toList_inj.mp
      simp
  rw [this]; simp
theorem getD_of {it : Array Value} {vv : List Value} {i : Nat} {x : Value} (e : it.toList = vv) (h : vv[i]? = some x) : it.getD i Value.none = x := by
  obtain ⟨l⟩ := it
  subst e
  simp at h
  simp [Array.getD_eq_getD_getElem?, h]
theorem join_call {l : Addr} {n : Nat} {vs : List Value} {ps : List (List Nat)} {t : Tok} {Q : Value → Shared → Prop} (hl : s.heap.get? l = some (listOf vs.toArray n)) (hb : BAre vs ps) (hz : ps.flatten.length ≤ 16777216)
    (h : ∀ k t', Q (.bytes (byt ps.flatten) t') { s with toks := k }) : wpAny (model prog w) A (call (.builtin "bytes.join") [.bytes #[] t, .ref l]) Q E s := by
  refine wpAny_call (codeAny_call_builtin slot_join.plain entry_join (slot_join.check _ _ _ _ _ _ _ _ (typeIs_bytes _ _ _) (args_join _ _) ?_))
  unfold Builtin.«bytes.join» Bytes.joinM
  refine wpAny_bind (wpAny_of_eq (a := (Value.bytes #[] t, Value.ref l)) rfl ?_)
  have hL : s.heap.IsList l vs.toArray := ⟨_, hl, rfl, n, rfl⟩
  have hlen := hb.length
  refine wpAny_bind ?_
  show wpAny _ _ (Bytes.joinItems (.ref l)) _ _ s
  unfold Bytes.joinItems
  refine wpAny_bind (wpAny_typeOf hL.typeIs ?_)
  refine wpAny_ite ?_
  rw [if_pos (by decide)]
  refine wpAny_pure ?_
  refine wpAny_bind (wpAny_seqItems hl rfl ?_)
  dsimp only
  refine wpAny_ite ?_
  rw [if_pos (by decide)]
  have hpos : vs.toArray.toList = vs := rfl
  have hsz0 : vs.toArray.size = vs.length := rfl
  rcases vs with _ | ⟨v, _ | ⟨v2, r⟩⟩
  · refine wpAny_bind (range_loop (fun i (b : Array (Array UInt8) × List (Value × Option Value)) => b.1.toList = (ps.take i).map byt ∧ (∀ y ∈ b.2, y.2 = none) ∧ (b.2.any fun x => x.1.onHeap) = false) ?_ (by refine ⟨rfl, ?_, rfl⟩; intro y hy; cases hy) ?_)
    · rintro i ⟨parts, taken⟩ Q' hi ⟨i1, i2, i3⟩ hq
      simp only at i1 i2 i3
      have hi' : i < ps.length := by rw [hsz0, hlen] at hi; exact hi
      obtain ⟨t', hx⟩ := hb.at (List.getElem?_eq_getElem hi')
      refine wpAny_bind (wpAny_seqItems hl rfl ?_)
      dsimp only
      refine wpAny_ite ?_
      rw [if_neg (by rw [i3]; decide), getD_of hpos hx]
      refine wpAny_bind (wpAny_holding (wpAny_of_eq (take_eq _ _ _ _) ?_))
      dsimp only
      refine wpAny_bind (wpAny_seqItems hl rfl ?_)
      dsimp only
      refine wpAny_ite ?_
      rw [if_neg (by simp)]
      refine wpAny_pure (hq _ ⟨?_, ?_, ?_⟩)
      · show (parts.push (byt ps[i])).toList = (ps.take (i + 1)).map byt
        rw [Array.toList_push, i1, List.take_add_one, List.getElem?_eq_getElem hi', List.map_append]
        rfl
      · intro y hy
        rcases List.mem_append.mp hy with hy | hy
        · exact i2 y hy
        · rw [List.mem_singleton.mp hy]
      · rw [List.any_append, i3]; rfl
    · rintro ⟨parts, taken⟩ ⟨i1, i2, i3⟩
      simp only at i1 i2 i3
      have hs := hsz0.trans hlen
      rw [hs, List.take_of_length_le (Nat.le_refl _)] at i1
      dsimp only
      have hj : Bytes.joined #[] parts.toList = byt ps.flatten := by
        rw [joined_nil, i1]
        unfold byt
        simp [List.map_flatten, Function.comp_def]
      have hsz : (parts.toList.map (·.size)).sum = ps.flatten.length := by
        rw [i1]
        simp [byt, Function.comp_def, List.length_flatten]
      refine wpAny_bind (wpAny_of_eq (a := (#[] : Array UInt8)) rfl ?_)
      refine wpAny_ite ?_
      rw [if_neg]
      · refine wpAny_bind ?_
        show wpAny _ _ (mkBytes _) _ _ s
        rw [hj]
        refine wpAny_mkBytes ?_ (by rw [sizeLine_eq]; show (byt ps.flatten).size ≤ _; unfold byt; rw [List.size_toArray, List.length_map]; exact hz)
        refine wpAny_bind (wpAny_holding (wpAny_point ?_))
        exact wpAny_bind (letGo_ok i2 (wpAny_pure (h _ _)))
      · rw [← Array.foldl_toList, foldl_sizes, hsz]
        rw [KBy.tooLong_not (by simpa using hz)]
        decide
  · cases hb with
    | @cons b p _ _ e t' r =>
    cases r
    refine wpAny_bind (wpAny_typeOf (typeIs_bytes _ _ _) ?_)
    refine wpAny_ite ?_
    rw [if_pos (by decide)]
    refine wpAny_bind (wpAny_rule (wpAny_pure ?_))
    subst e
    have := h s.toks t'
    rw [List.flatten_singleton] at this
    exact this
  · refine wpAny_bind (range_loop (fun i (b : Array (Array UInt8) × List (Value × Option Value)) => b.1.toList = (ps.take i).map byt ∧ (∀ y ∈ b.2, y.2 = none) ∧ (b.2.any fun x => x.1.onHeap) = false) ?_ (by refine ⟨rfl, ?_, rfl⟩; intro y hy; cases hy) ?_)
    · rintro i ⟨parts, taken⟩ Q' hi ⟨i1, i2, i3⟩ hq
      simp only at i1 i2 i3
      have hi' : i < ps.length := by rw [hsz0, hlen] at hi; exact hi
      obtain ⟨t', hx⟩ := hb.at (List.getElem?_eq_getElem hi')
      refine wpAny_bind (wpAny_seqItems hl rfl ?_)
      dsimp only
      refine wpAny_ite ?_
      rw [if_neg (by rw [i3]; decide), getD_of hpos hx]
      refine wpAny_bind (wpAny_holding (wpAny_of_eq (take_eq _ _ _ _) ?_))
      dsimp only
      refine wpAny_bind (wpAny_seqItems hl rfl ?_)
      dsimp only
      refine wpAny_ite ?_
      rw [if_neg (by simp)]
      refine wpAny_pure (hq _ ⟨?_, ?_, ?_⟩)
      · show (parts.push (byt ps[i])).toList = (ps.take (i + 1)).map byt
        rw [Array.toList_push, i1, List.take_add_one, List.getElem?_eq_getElem hi', List.map_append]
        rfl
      · intro y hy
        rcases List.mem_append.mp hy with hy | hy
        · exact i2 y hy
        · rw [List.mem_singleton.mp hy]
      · rw [List.any_append, i3]; rfl
    · rintro ⟨parts, taken⟩ ⟨i1, i2, i3⟩
      simp only at i1 i2 i3
      have hs := hsz0.trans hlen
      rw [hs, List.take_of_length_le (Nat.le_refl _)] at i1
      dsimp only
      have hj : Bytes.joined #[] parts.toList = byt ps.flatten := by
        rw [joined_nil, i1]
        unfold byt
        simp [List.map_flatten, Function.comp_def]
      have hsz : (parts.toList.map (·.size)).sum = ps.flatten.length := by
        rw [i1]
        simp [byt, Function.comp_def, List.length_flatten]
      refine wpAny_bind (wpAny_of_eq (a := (#[] : Array UInt8)) rfl ?_)
      refine wpAny_ite ?_
      rw [if_neg]
      · refine wpAny_bind ?_
        show wpAny _ _ (mkBytes _) _ _ s
        rw [hj]
        refine wpAny_mkBytes ?_ (by rw [sizeLine_eq]; show (byt ps.flatten).size ≤ _; unfold byt; rw [List.size_toArray, List.length_map]; exact hz)
        refine wpAny_bind (wpAny_holding (wpAny_point ?_))
        exact wpAny_bind (letGo_ok i2 (wpAny_pure (h _ _)))
      · rw [← Array.foldl_toList, foldl_sizes, hsz]
        rw [KBy.tooLong_not (by simpa using hz)]
        decide

theorem bound_none : Bytes.bound? none = pure none := rfl
theorem count_call {b c : Array UInt8} {t u : Tok} {Q : Value → Shared → Prop} (hc : c.isEmpty = false) (h : ∀ k t', Q (.int ((Bytes.occurrences b c 0 b.size).length : Nat) t') { s with toks := k }) : wpAny (model prog w) A (call (.builtin "bytes.count") [.bytes b t, .bytes c u]) Q E s := by
  refine wpAny_call (codeAny_call_builtin slot_count.plain entry_count (slot_count.check _ _ _ _ _ _ _ _ (typeIs_bytes _ _ _) (args_count _ _) ?_))
  unfold Builtin.«bytes.count» Bytes.countM Bytes.searchArgs
  refine wpAny_bind (wpAny_bind (wpAny_of_eq (a := (Value.bytes b t, [Value.bytes c u])) (by kernel_rfl) ?_))
  refine wpAny_bind (wpAny_of_eq (a := (none : Option Int)) rfl ?_)
  refine wpAny_bind (wpAny_of_eq (a := (none : Option Int)) rfl ?_)
  dsimp only [List.headD_cons]
  refine wpAny_bind (wpAny_of_eq KBy.buffer_eq ?_)
  dsimp only
  refine wpAny_bind (wpAny_pure ?_)
  refine wpAny_bind (wpAny_of_eq (a := b) rfl ?_)
  refine wpAny_pure ?_
  have hw : Bytes.window b.size none none = (0, (b.size : Int)) := by
    unfold Bytes.window
    simp only [Option.getD_none, Int.lt_irrefl, if_false]
    rw [if_neg (by omega), Int.min_self]
  rw [hw]
  dsimp only
  by_cases q : ((b.size : Int) - 0 < (c.size : Int))
  · rw [if_pos q]
    have e : (Bytes.occurrences b c 0 b.size).length = 0 := by
      unfold Bytes.occurrences
      rw [show b.size + 1 - (0 + c.size) = 0 by omega]
      rfl
    rw [e] at h
    exact wpAny_bind (wpAny_mkInt (wpAny_pure (h _ _)))
  · rw [if_neg q]
    refine wpAny_ite ?_
    rw [if_neg (by rw [hc]; decide)]
    exact wpAny_bind (wpAny_mkInt (wpAny_pure (h _ _)))

/-- the pattern stands in the heap -/
structure PatAt (h : Heap) (P C : Addr) : Prop where
  pat : ∃ o fs, h.get? P = some o ∧ o.data = .fields fs ∧ fs.getD 6 .none = .int 1 0 ∧ fs.getD 5 .none = .ref C ∧ fs.getD 2 .none = .int 0 0 ∧ o.cls = .type "re.Pattern" ∧ o.dict = none
  code : ∃ o its n, h.get? C = some o ∧ o.data = .seq its n ∧ (its.map reRawOf).map (·.toNat) = codeN
theorem PatAt.keeps {h h' : Heap} {P C : Addr} (k : ∀ b o, h.get? b = some o → b = P ∨ b = C → h'.get? b = some o) (x : PatAt h P C) : PatAt h' P C := by
  obtain ⟨⟨o, fs, a, r⟩, ⟨o', its, n, a', r'⟩⟩ := x
  exact ⟨⟨o, fs, k _ _ a (.inl rfl), r⟩, ⟨o', its, n, k _ _ a' (.inr rfl), r'⟩⟩
def natsB (b : Array UInt8) : List Nat := b.toList.map (·.toNat)
def target (P : Addr) (str : Value) (b : Array UInt8) : ReTarget := { pattern := .ref P, string := str, code := codeN, text := b.map (·.toNat), kind := 1, groups := 0, pos := 0, lim := b.size }
theorem whole_target {P C : Addr} {b : Array UInt8} {t : Tok} {Q : ReTarget → Shared → Prop} (hp : PatAt s.heap P C) (h : Q (target P (.bytes b t) b) s) : wpAny (model prog w) A (reWholeTarget (.ref P) (.bytes b t)) Q E s := by
  obtain ⟨⟨o, fs, ho, hd, h6, h5, h2, _⟩, ⟨o', its, n, ho', hd', hc⟩⟩ := hp
  unfold reWholeTarget
  refine wpAny_bind (wpAny_fieldsOf ho hd ?_)
  unfold reTextOf
  refine wpAny_bind (wpAny_bind (wpAny_of_eq (asStr_bytes b t) ?_))
  refine wpAny_bind (wpAny_of_eq KBy.quiet_eq (wpAny_pure ?_))
  dsimp only
  rw [h6]
  refine wpAny_ite ?_
  rw [if_neg (by decide)]
  refine wpAny_ite ?_
  rw [if_neg (by decide)]
  unfold reNoCollectionInside
  refine wpAny_bind (wpAny_ite ?_)
  rw [if_pos (by decide)]
  refine wpAny_bind (wpAny_of_eq KBy.isInstance_eq ?_)
  refine wpAny_ite ?_
  rw [if_neg (by decide)]
  refine wpAny_pure ?_
  unfold reRawItems
  rw [h5]
  refine wpAny_bind (wpAny_bind (wpAny_seqItems ho' hd' (wpAny_pure (wpAny_pure ?_))))
  have e : (ReTarget.mk (.ref P) (.bytes b t) (Array.map (fun x => x.toNat) (Array.map reRawOf ((some its).getD #[]))) (Array.map (fun x => x.toNat) b) 1 (reRawNat (fs.getD 2 Value.none)) 0 (Array.map (fun x : UInt8 => x.toNat) b).size) = target P (.bytes b t) b := by
    rw [show (some its).getD #[] = its from rfl, hc, h2, Array.size_map]
    rfl
  rw [e]
  exact h
theorem text_of (b : Array UInt8) : b.map (·.toNat) = (natsB b).toArray := by
  obtain ⟨l⟩ := b; simp [natsB]
theorem slice_val {b : Array UInt8} {st k : Nat} : ((b.map (·.toNat)).extract st k).map (·.toUInt8) = byt (((natsB b).drop st).take (k - st)) := by
  obtain ⟨l⟩ := b
  simp [natsB, byt, List.extract_eq_take_drop]
theorem lit_ok {u : Tok} : reLiteralCannotBeTurned (.bytes b u) = pure () := by
  unfold reLiteralCannotBeTurned
  rw [asStr_bytes, KBy.isInstance_eq]; rfl
theorem next_none {P : Addr} {v : Value} {b : Array UInt8} {st : Nat} {M : Model} {Q : Option Sre.M → Shared → Prop} (hf : Find (natsB b) st none) (h : Q none s) : wpAny M A (reNextFound (target P v b) st false) Q E s := by
  obtain ⟨n, m', hn, hd, ho⟩ := hf
  unfold reNextFound
  refine wpAny_runToEnd (n := n) (r := none) ?_ hn h
  have e : (target P v b).text = (natsB b).toArray := text_of b
  have e2 : (target P v b).lim = (natsB b).toArray.size := by rw [← e]; simp [target]
  unfold runP
  rw [e, e2, show (target P v b).code = codeN from rfl, show (target P v b).groups = 0 from rfl, hd]
  simp only [ho]
theorem next_some {P : Addr} {v : Value} {b : Array UInt8} {st a c : Nat} {M : Model} {Q : Option Sre.M → Shared → Prop} (hf : Find (natsB b) st (some (a, c))) (h : ∀ m : Sre.M, m.start = a → m.handed = c → Q (some m) s) : wpAny M A (reNextFound (target P v b) st false) Q E s := by
  obtain ⟨n, m', hn, hd, ho, h1, h2⟩ := hf
  unfold reNextFound
  refine wpAny_runToEnd (n := n) (r := some m') ?_ hn (h m' h1 h2)
  have e : (target P v b).text = (natsB b).toArray := text_of b
  have e2 : (target P v b).lim = (natsB b).toArray.size := by rw [← e]; simp [target]
  unfold runP
  rw [e, e2, show (target P v b).code = codeN from rfl, show (target P v b).groups = 0 from rfl, hd]
  simp only [ho]
theorem upd_push {h : Heap} {D : Addr} {vs : List Value} {n : Nat} {x : Value} (ho : h.get? D = some (listOf vs.toArray n)) : (h.update D (Obj.mapSeq (·.push x))).get? D = some (listOf (vs ++ [x]).toArray (n + 1)) := by
  have q := PySem.IsL.update ho (·.push x)
  rw [if_neg (by simp)] at q
  rw [q]
  have : vs.toArray.push x = (vs ++ [x]).toArray := by simp
  rw [this]
theorem push_at {M : Model} {D : Addr} {vs : List Value} {n : Nat} {x : Value} {Q : Unit → Shared → Prop} (ho : s.heap.get? D = some (listOf vs.toArray n)) (hz : vs.length ≤ 1000000)
    (h : ∀ h', h'.get? D = some (listOf (vs ++ [x]).toArray (n + 1)) → (∀ y o, y ≠ D → s.heap.get? y = some o → h'.get? y = some o) → Q () { s with heap := h' }) : wpAny M A (updateSeq D (·.push x)) Q E s := by
  refine wpAny_updateSeq ho rfl (h _ (upd_push ho) fun y o ne e => (Heap.get?_update_ne _ _ _ _ ne).trans e) ?_ ?_
  · rw [sizeLine_eq]; simp; omega
  · rw [sizeLine_eq]; simp; omega
theorem slice_at {M : Model} {b : Array UInt8} {st k : Nat} {Q : Value → Shared → Prop} {P : Addr} {v : Value} (hz : b.size ≤ 100000) (h : ∀ tk t', Q (.bytes (byt (((natsB b).drop st).take (k - st))) t') { s with toks := tk }) : wpAny M A (reSlice (target P v b).text (target P v b).kind st k) Q E s := by
  show wpAny M A (mkBytes (((b.map (·.toNat)).extract st k).map (·.toUInt8))) Q E s
  rw [slice_val]
  refine wpAny_mkBytes (h _ _) ?_
  rw [sizeLine_eq]
  have : (natsB b).length = b.size := by simp [natsB]
  unfold byt
  rw [List.size_toArray, List.length_map, List.length_take, List.length_drop]
  omega
theorem loop_run {P C : Addr} {b : Array UInt8} {t u : Tok} {D : Addr} (hz : b.size ≤ 100000) {st : Nat} {ps : List (List Nat)} (hr : SubR (natsB b) st ps) :
    ∀ (s : Shared) (R : Result → Shared → Prop) (vs : List Value) (acc : List (List Nat)) (n : Nat) (cnt : Int), st ≤ b.size → PatAt s.heap P C → D ≠ P → D ≠ C → s.heap.get? D = some (listOf vs.toArray n) → BAre vs acc → acc.length + ps.length ≤ 1000000 → (acc ++ ps).flatten.length ≤ 16777216 →
      (∀ h' k t', (∀ x o, x ≠ D → s.heap.get? x = some o → h'.get? x = some o) → R (.ok (.ret (.bytes (byt (acc ++ ps).flatten) t'))) { s with heap := h', toks := k }) →
      codeAny (model prog w) A (.builtin "re.Pattern.sub.loop" ⟨[.ref P, .bytes b t, .bytes #[] u, rawInt 0, rawInt 0, rawInt cnt, rawInt st, rawInt st, .bool false, .ref D, .bool false], []⟩) R s := by
  have hnl : (natsB b).length = b.size := by simp [natsB]
  induction hr with
  | @stop st hf =>
    intro s R vs acc n cnt hst hp hDP hDC hD hb hl hfl hR
    refine codeAny_builtin entry_loop ?_
    rw [Around.under_plainId plain_loop]
    unfold Builtin.«re.Pattern.sub.loop»
    dsimp only [rawInt]
    refine wpAny_bind (whole_target hp ?_)
    refine wpAny_ite ?_
    rw [if_pos (by decide)]
    refine wpAny_bind (wpAny_of_eq lit_ok ?_)
    refine wpAny_bind (wpAny_ite ?_)
    rw [if_neg (by simp), Int.toNat_natCast]
    refine next_none hf ?_
    dsimp only
    -- the rest, the pieces laid together
    have rest : ∀ (s₁ : Shared) (vs₁ : List Value) (acc₁ : List (List Nat)) (n₁ : Nat), s₁.heap.get? D = some (listOf vs₁.toArray n₁) → BAre vs₁ acc₁ → acc₁.flatten.length ≤ 16777216 →
        (∀ k t', R (.ok (.ret (.bytes (byt acc₁.flatten) t'))) { s₁ with toks := k }) →
        wpAny (model prog w) A.in1 (do
          let joiner ← reSlice (target P (.bytes b t) b).text (target P (.bytes b t) b).kind 0 0
          let text ← if ((← seqItems? (.ref D)).getD #[]).isEmpty then pure joiner
            else call (.builtin (if (target P (.bytes b t) b).kind == 0 then "str.join" else "bytes.join")) [joiner, .ref D]
          if false = true then ret (← holding [text] do newTuple [text, ← mkInt cnt]) else ret text) (fun fin s' => match fin with | .done f => R (.ok f) s' | .again c' => c'.quiet = true ∧ codeAny (model prog w) A c' R s') (fun e s' => R (.error e) s') s₁ := by
      intro s₁ vs₁ acc₁ n₁ hD₁ hb₁ hfl₁ hR₁
      refine wpAny_bind (slice_at hz fun tk t' => ?_)
      refine wpAny_bind (wpAny_seqItems hD₁ rfl ?_)
      refine wpAny_ite ?_
      by_cases q : ((some vs₁.toArray).getD #[]).isEmpty = true
      · rw [if_pos q]
        refine wpAny_bind (wpAny_pure (wpAny_ite ?_))
        rw [if_neg (by decide)]
        have hv : vs₁ = [] := by simpa using q
        subst hv
        cases hb₁
        refine wpAny_pure ?_
        have := hR₁ tk t'
        simpa [byt] using this
      · rw [if_neg q]
        refine wpAny_bind ?_
        show wpAny _ _ (call (.builtin "bytes.join") [_, .ref D]) _ _ _
        have ej : byt (((natsB b).drop 0).take (0 - 0)) = #[] := by simp [byt]
        rw [ej]
        refine join_call (s := { s₁ with toks := tk }) hD₁ hb₁ hfl₁ fun k t'' => wpAny_ite ?_
        rw [if_neg (by decide)]
        exact wpAny_pure (hR₁ k t'')
    refine wpAny_ite ?_
    rw [hnl] at hl hfl hR
    show if st < b.size then _ else _
    by_cases q : st < b.size
    · rw [if_pos q] at hl hfl hR ⊢
      refine wpAny_bind (slice_at hz fun tk t' => ?_)
      have et : ((natsB b).drop st).take (b.size - st) = (natsB b).drop st := List.take_of_length_le (by rw [List.length_drop, hnl]; omega)
      rw [show (target P (.bytes b t) b).lim = b.size from rfl, et]
      refine wpAny_bind (push_at (s := { s with toks := tk }) hD (by rw [hb.length]; simp at hl; omega) fun h' hD' hk => ?_)
      exact rest _ _ (acc ++ [(natsB b).drop st]) (n + 1) hD' (hb.append (.cons rfl t' .nil)) hfl fun k t'' => hR h' k t'' hk
    · rw [if_neg q] at hl hfl hR ⊢
      rw [List.append_nil] at hfl hR
      exact rest s vs acc n hD hb hfl fun k t' => hR s.heap k t' fun x o _ e => e
  | @turn st a c ps hf h1 h2 h3 hr ih =>
    intro s R vs acc n cnt hst hp hDP hDC hD hb hl hfl hR
    refine codeAny_builtin entry_loop ?_
    rw [Around.under_plainId plain_loop]
    unfold Builtin.«re.Pattern.sub.loop»
    dsimp only [rawInt]
    refine wpAny_bind (whole_target hp ?_)
    refine wpAny_ite ?_
    rw [if_pos (by decide)]
    refine wpAny_bind (wpAny_of_eq lit_ok ?_)
    refine wpAny_bind (wpAny_ite ?_)
    rw [if_neg (by simp), Int.toNat_natCast]
    refine next_some hf fun m hm1 hm2 => ?_
    dsimp only
    have hne : (m.handed == m.start) = false := by rw [hm1, hm2]; simp; omega
    have rest : ∀ (s₁ : Shared) (vs₁ : List Value) (acc₁ : List (List Nat)) (n₁ : Nat), PatAt s₁.heap P C → s₁.heap.get? D = some (listOf vs₁.toArray n₁) → BAre vs₁ acc₁ → acc₁.length + 1 + ps.length ≤ 1000000 → (acc₁ ++ ps).flatten.length ≤ 16777216 →
        (∀ h' k t', (∀ x o, x ≠ D → s₁.heap.get? x = some o → h'.get? x = some o) → R (.ok (.ret (.bytes (byt (acc₁ ++ ps).flatten) t'))) { s₁ with heap := h', toks := k }) →
        wpAny (model prog w) A.in1 (do
          updateSeq D fun x => x.push (.bytes #[] u)
          again (.builtin "re.Pattern.sub.loop" ⟨[.ref P, .bytes b t, .bytes #[] u, .int 0 0, .int 0 0, .int (cnt + 1) 0, .int (m.handed : Nat) 0, .int (m.handed : Nat) 0, .bool (m.handed == m.start), .ref D, .bool false], []⟩)) (fun fin s' => match fin with | .done f => R (.ok f) s' | .again c' => c'.quiet = true ∧ codeAny (model prog w) A c' R s') (fun e s' => R (.error e) s') s₁ := by
      intro s₁ vs₁ acc₁ n₁ hp₁ hD₁ hb₁ hl₁ hfl₁ hR₁
      have e : (acc₁ ++ [[]] ++ ps).flatten = (acc₁ ++ ps).flatten := by simp
      refine wpAny_bind (push_at hD₁ (by rw [hb₁.length]; omega) fun h' hD' hk => wpAny_pure ⟨plainId_quiet plain_loop _, ?_⟩)
      rw [hne, hm2]
      refine ih { s₁ with heap := h' } R _ (acc₁ ++ [[]]) (n₁ + 1) (cnt + 1) (by omega) (hp₁.keeps fun x o ho hx => hk x o (by rcases hx with rfl | rfl; exact Ne.symm hDP; exact Ne.symm hDC) ho) hDP hDC hD' (hb₁.append (BAre.cons (p := []) rfl u .nil)) (by simp; omega) (by rw [e]; exact hfl₁) ?_
      intro h'' k t' hk'
      rw [e]
      exact hR₁ h'' k t' fun x o ne ho => hk' x o ne (hk x o ne ho)
    rw [hm1] at *
    refine wpAny_ite ?_
    by_cases q : st < a
    · rw [if_pos q] at hl hfl hR ⊢
      refine wpAny_bind (slice_at hz fun tk t' => ?_)
      refine wpAny_bind (push_at (s := { s with toks := tk }) hD (by rw [hb.length]; omega) fun h' hD' hk => ?_)
      refine wpAny_ite ?_
      rw [if_pos (by decide)]
      refine wpAny_bind (wpAny_pure ?_)
      refine wpAny_ite ?_
      rw [if_pos (show (Value.bytes #[] u != Value.none) = true from rfl)]
      have e : ((acc ++ [((natsB b).drop st).take (a - st)]) ++ ps).flatten = (acc ++ ([((natsB b).drop st).take (a - st)] ++ [[]] ++ ps)).flatten := by simp
      refine rest _ _ (acc ++ [((natsB b).drop st).take (a - st)]) (n + 1) (hp.keeps fun x o ho hx => hk x o (by rcases hx with rfl | rfl; exact Ne.symm hDP; exact Ne.symm hDC) ho) hD' (hb.append (.cons rfl t' .nil)) (by simp at hl ⊢; omega) (by rw [e]; exact hfl) ?_
      intro h'' k t'' hk'
      rw [e]
      exact hR h'' k t'' fun x o ne ho => hk' x o ne (hk x o ne ho)
    · rw [if_neg q] at hl hfl hR ⊢
      refine wpAny_ite ?_
      rw [if_pos (by decide)]
      refine wpAny_bind (wpAny_pure ?_)
      refine wpAny_ite ?_
      rw [if_pos (show (Value.bytes #[] u != Value.none) = true from rfl)]
      have e : (acc ++ ps).flatten = (acc ++ ([] ++ [[]] ++ ps)).flatten := by simp
      refine rest _ _ acc n hp hD hb (by simp at hl ⊢; omega) (by rw [e]; exact hfl) ?_
      rw [e]
      exact hR
end
end Rx
end Mine
end
section
open PySem PySem.W PyProof.Rows PySem.Spec PySem.Calls
set_option maxRecDepth 100000
set_option maxHeartbeats 2000000
namespace Mine
namespace Rx
open Builtin Builtin.Re
section
variable {prog : Program} {w : World} {A : Around} {E : Value → Shared → Prop} {s : Shared}
theorem sub_call {P C : Addr} {b : Array UInt8} {t u : Tok} {out : List Nat} {Q : Value → Shared → Prop} (hp : PatAt s.heap P C) (ht : Toks (natsB b) out) (hz : b.size < 100000) (ho : out.length < 100000)
    (h : ∀ h' k t', (∀ x o, s.heap.get? x = some o → h'.get? x = some o) → Q (.bytes (byt out) t') { s with heap := h', toks := k }) : wpAny (model prog w) A (call (.builtin "re.Pattern.sub") [.ref P, .bytes #[] u, .bytes b t]) Q E s := by
  have hT : s.TypeIs (.ref P) "re.Pattern" := by
    obtain ⟨⟨o, fs, a, _, _, _, _, hc, _⟩, _⟩ := hp
    exact ⟨o, a, hc⟩
  have hP : s.heap.get? s.heap.objs.size = none := by
    cases e : s.heap.get? s.heap.objs.size with
    | none => rfl
    | some o => exact absurd (Heap.lt_size e) (Nat.lt_irrefl _)
  refine wpAny_call (codeAny_call_builtin slot_sub.plain entry_sub (slot_sub.check _ _ _ _ _ _ _ _ hT (args_sub _ _ _) ?_))
  unfold Builtin.«re.Pattern.sub» reSubstitute
  dsimp only
  refine wpAny_bind (wpAny_of_eq (named_sub _ _) ?_)
  dsimp only
  refine wpAny_bind (wpAny_pure ?_)
  refine wpAny_bind (wpAny_of_eq (KBy.special_eq no_call) ?_)
  refine wpAny_ite ?_
  rw [if_neg (by decide)]
  refine wpAny_bind (wpAny_of_eq (asStr_bytes _ _) ?_)
  dsimp only
  refine wpAny_bind (wpAny_of_eq KBy.quiet_eq ?_)
  dsimp only
  refine wpAny_bind (wpAny_pure ?_)
  refine wpAny_ite ?_
  rw [if_neg (by decide)]
  refine wpAny_ite ?_
  rw [if_pos (by simp)]
  refine wpAny_bind (wpAny_pure ?_)
  refine wpAny_bind (wpAny_holding (whole_target hp ?_))
  refine wpAny_ite ?_
  rw [if_neg (by simp)]
  refine wpAny_bind (wpAny_newList ?_ (Nat.zero_le _))
  refine wpAny_pure ⟨plainId_quiet plain_loop _, ?_⟩
  obtain ⟨ps, h1, h2, h3⟩ := sub_of (natsB b).length (Nat.le_refl _) ht [] (by simpa [natsB] using hz)
  have hl : (natsB b).length = b.size := by simp [natsB]
  have hpx := hp
  obtain ⟨⟨oP, fs, a1, _⟩, ⟨oC, its, n, a2, _⟩⟩ := hpx
  refine loop_run (t := t) (u := u) (D := s.heap.objs.size) (by omega) (st := 0) (ps := ps) h1 { s with heap := s.heap.push { cls := .type "list", data := .seq [].toArray } } _ [] [] 0 0 (Nat.zero_le _) (hp.keeps fun x o hx _ => Heap.get?_push_of_some _ hx)
    (fun e => by rw [← e, hP] at a1; cases a1) (fun e => by rw [← e, hP] at a2; cases a2) (Heap.get?_push_size _ rfl) .nil (by simp; omega) (by simp only [List.nil_append]; rw [h2]; omega) fun h' k t' hk => ?_
  simp only [List.nil_append, h2]
  exact h h' k t' fun x o hx => hk x o (fun e => by rw [e, hP] at hx; cases hx) (Heap.get?_push_of_some _ hx)
theorem typeOf_pat {P C : Addr} (hp : PatAt s.heap P C) : s.TypeIs (.ref P) "re.Pattern" := by
  obtain ⟨⟨o, fs, a, _, _, _, _, hc, _⟩, _⟩ := hp
  exact ⟨o, a, hc⟩
theorem meth_sub {P C : Addr} {pl : Sem Bool} {Q : Value × List Value → Shared → Prop} (hp : PatAt s.heap P C) (h : Q (.builtin "re.Pattern.sub", [.ref P]) s) : wpAny (model prog w) A (getMethod (.ref P) "sub" pl) Q E s :=
  getMethod_builtin (typeOf_pat hp) plain_pat slot_sub type_sub (fun a e => by
    cases e
    obtain ⟨⟨o, fs, a, _, _, _, _, _, hd⟩, _⟩ := hp
    exact ⟨o, a, hd⟩) h
theorem meth_count {b : Array UInt8} {t : Tok} {pl : Sem Bool} {Q : Value × List Value → Shared → Prop} (h : Q (.builtin "bytes.count", [.bytes b t]) s) : wpAny (model prog w) A (getMethod (.bytes b t) "count" pl) Q E s :=
  getMethod_builtin (typeIs_bytes _ _ _) plain_bytes slot_count type_count (fun a e => by cases e) h
end
end Rx
end Mine
end
section
open PySem PySem.W PyProof.Rows PySem.Spec PySem.Calls
set_option maxRecDepth 100000
set_option maxHeartbeats 2000000
namespace Mine
/-- how often a sign stands in it -/
def cntB (b : Array UInt8) (c : UInt8) : Int := ((Builtin.Bytes.occurrences b #[c] 0 b.size).length : Nat)
def pdep (out : List Nat) (depth : Int) : Int := depth + cntB (Rx.byt out) 40 - cntB (Rx.byt out) 41
section
variable {prog : Program} {w : World} {h₀ : Heap} {mg mb : Str → Option Value} {A : Around} {env : Env} {loc : Loc}
theorem Ev.sub {o e1 e2 : Expr} {apos pos : Pos} {P C : Addr} {b : Array UInt8} {out : List Nat} {pl : Sem Bool} (ho : Ev prog w h₀ A env loc o (.val (.ref P))) (h1 : Ev prog w h₀ A env loc e1 (.bytes #[])) (h2 : Ev prog w h₀ A env loc e2 (.bytes b))
    (hp : Rx.PatAt h₀ P C) (ht : Rx.Toks (Rx.natsB b) out) (hz : b.size < 100000) (hzo : out.length < 100000)
    (hc : eval (.Call (.Attribute o "sub" apos) [e1, e2] [] pos) env = (do
          let ov ← eval o env
          standAt apos.atName
          let (f, first) ← holding [ov] (getMethod ov "sub" pl)
          callWith pos f first (backTo pos (starEach [e1, e2] env)) []) := by rfl)
    (hst : starEach [e1, e2] env = (false, eval e1 env) :: starEach [e2] env := by rfl) (hst2 : starEach [e2] env = (false, eval e2 env) :: starEach [] env := by rfl) (hns : (backTo pos (starEach [e2] env)).any (·.1) = false := by rfl) :
    Ev prog w h₀ A env loc (.Call (.Attribute o "sub" apos) [e1, e2] [] pos) (.bytes (Rx.byt out)) := by
  intro G s Q R g
  refine MethodCall_ (pl := pl) (ho G s _ R fun G₁ h₁ t₁ v k₁ hv => ?_) hc
  cases hv
  have kp : ∀ {h : Heap}, Ext h₀ h → Rx.PatAt h P C := fun e => hp.keeps fun x o hx _ => e x o hx
  refine Rx.meth_sub (kp (R.post k₁).ext) ?_
  refine PyProof.Rows.callWith_method1 (EvArgs.cons (hst := hst) h1 (EvArgs.cons (hst := hst2) h2 EvArgs.nil) G₁ _ pos _ (R.post k₁) fun G₂ h₂ t₂ vs k₂ hvs => ?_) hst hns
  cases hvs with
  | cons a1 r =>
  cases r with
  | cons a2 r =>
  cases r; cases a1; cases a2
  refine Rx.sub_call (kp ((R.post k₁).post k₂).ext) ht hz hzo fun h' k t' hk => ?_
  exact g G₂ h' k _ ((k₁.trans k₂).trans ⟨RSub.refl _, hk, fun x o e => hk x o (k₂.2.2.1 x o e), fun _ _ e => .inl e⟩) (VRo.of (VR.bytes _ _))
theorem isMeth_count {b : Array UInt8} : IsMeth prog w A (.bytes b) "count" "bytes.count" := by
  intro G s v pl Q S hv h
  cases hv; exact Rx.meth_count h
theorem OpF.count {b c : Array UInt8} (hc : c.isEmpty = false) : OpF prog w A (.builtin "bytes.count") [.bytes b, .bytes c] (.int ((Builtin.Bytes.occurrences b c 0 b.size).length : Nat)) := by
  intro G s vs Q S hv g
  cases hv with
  | cons a r =>
  cases r with
  | cons a2 r =>
  cases r; cases a; cases a2
  exact Rx.count_call hc fun k t' => g.here S k (VR.int _ _)

theorem paren_body {f P C : Addr} {T : Addr} (F : FnIs h₀ f "_paren_depth" 3 (.ref T) .none) (hB : Base h₀ mg mb) (hq : mg "_quoted" = some (.ref P)) (hp : Rx.PatAt h₀ P C) {b : Array UInt8} {out : List Nat} (ht : Rx.Toks (Rx.natsB b) out) (hz : b.size < 100000) (hzo : out.length < 100000) (depth : Int) (L : Addr) (cd : Value) :
    Exs prog w h₀ A (fenv (Str.ofString "_paren_depth") (fs 3) L f cd) [(Str.ofString "data", .bytes b), (Str.ofString "depth", .int depth)] (fb 3) (.ret (.int (pdep out depth))) [] := by
  have hE := fenvOk (name := Str.ofString "_paren_depth") (L := L) (f := f) (cd := cd) F.kind
  refine Exs.cons (Ex.assign (Ev.sub (Ev.global hB hE hq (by rfl)) Ev.bytes (Ev.local hE (by rfl)) hp ht hz hzo) hE rfl (.inl (by rfl))) ?_
  refine (Exs.stop (Ex.ret (Ev.bin (Ev.bin (Ev.local hE (by rfl)) (Ev.meth (Ev.local hE (by rfl)) isMeth_count (EvArgs.cons Ev.bytes EvArgs.nil) (OpF.count (by rfl))) OpB.add_int) (Ev.meth (Ev.local hE (by rfl)) isMeth_count (EvArgs.cons Ev.bytes EvArgs.nil) (OpF.count (by rfl))) OpB.sub_int) rfl)).less (LSub.refl _) (LSub.nil _)
theorem paren2 {t : Tok} {f P C : Addr} {T : Addr} (F : FnIs h₀ f "_paren_depth" 3 (.ref T) .none) (hT : TupAt h₀ T #[.int 0 t]) (hB : Base h₀ mg mb) (hq : mg "_quoted" = some (.ref P)) (hp : Rx.PatAt h₀ P C) (hroom : A.depth < recursionLimit) {b : Array UInt8} {out : List Nat} (ht : Rx.Toks (Rx.natsB b) out) (hz : b.size < 100000) (hzo : out.length < 100000) (depth : Int) :
    Calls prog w h₀ A f [.bytes b, .int depth] [] (.int (pdep out depth)) := by
  refine Calls.intro F hB hroom (l := [(Str.ofString "data", .bytes b), (Str.ofString "depth", .int depth)]) (l' := []) (r := .ret (.int (pdep out depth))) ?_ (fun L cd => paren_body F hB hq hp ht hz hzo depth L cd)
  intro G vs kvs base hv hk
  cases hv with
  | @cons _ v1 _ _ h1 r =>
  cases r with
  | @cons _ v2 _ _ h2 r =>
  cases r; cases hk
  refine ⟨[(Str.ofString "data", v1), (Str.ofString "depth", v2)], fun s fd e0 e1 e2 e3 => ?_, ?_, by rfl, (BL.cons h1 (.cons h2 .nil)).look⟩
  · obtain ⟨o, n, ho, hs⟩ := hT
    obtain ⟨nm, qn, ps, bd, sc, gl, cl, df, kd, doc, pm, an, cd, ct, bi⟩ := fd
    simp only at e1 e2 e3
    subst e1 e2 e3
    exact BindsTo.of_defaults rfl (e0 _ _ ho) hs rfl rfl
  · have : ([Str.ofString "data", Str.ofString "depth"] : List Str).Nodup := by decide
    exact this
theorem paren1 {t : Tok} {f P C : Addr} {T : Addr} (F : FnIs h₀ f "_paren_depth" 3 (.ref T) .none) (hT : TupAt h₀ T #[.int 0 t]) (hB : Base h₀ mg mb) (hq : mg "_quoted" = some (.ref P)) (hp : Rx.PatAt h₀ P C) (hroom : A.depth < recursionLimit) {b : Array UInt8} {out : List Nat} (ht : Rx.Toks (Rx.natsB b) out) (hz : b.size < 100000) (hzo : out.length < 100000) :
    Calls prog w h₀ A f [.bytes b] [] (.int (pdep out 0)) := by
  refine Calls.intro F hB hroom (l := [(Str.ofString "data", .bytes b), (Str.ofString "depth", .int 0)]) (l' := []) (r := .ret (.int (pdep out 0))) ?_ (fun L cd => paren_body F hB hq hp ht hz hzo 0 L cd)
  intro G vs kvs base hv hk
  cases hv with
  | @cons _ v1 _ _ h1 r =>
  cases r; cases hk
  refine ⟨[(Str.ofString "data", v1), (Str.ofString "depth", .int 0 t)], fun s fd e0 e1 e2 e3 => ?_, ?_, by rfl, (BL.cons h1 (.cons (.int 0 t) .nil)).look⟩
  · obtain ⟨o, n, ho, hs⟩ := hT
    obtain ⟨nm, qn, ps, bd, sc, gl, cl, df, kd, doc, pm, an, cd, ct, bi⟩ := fd
    simp only at e1 e2 e3
    subst e1 e2 e3
    exact BindsTo.of_defaults rfl (e0 _ _ ho) hs rfl rfl
  · have : ([Str.ofString "data", Str.ofString "depth"] : List Str).Nodup := by decide
    exact this
end
end Mine
end
section
open PySem PySem.W PyProof.Rows PySem.Spec PySem.Calls
set_option maxRecDepth 100000
set_option maxHeartbeats 2000000
namespace Mine
def nm10 : List Str := [Str.ofString "OPTIMIZED", Str.ofString "NEWLOCALS", Str.ofString "VARARGS", Str.ofString "VARKEYWORDS", Str.ofString "NESTED", Str.ofString "GENERATOR", Str.ofString "NOFREE", Str.ofString "COROUTINE", Str.ofString "ITERABLE_COROUTINE", Str.ofString "ASYNC_GENERATOR"]
def nmAt (i : Nat) : Str := match nm10[i]? with
  | some x => x
  | none => baseText "0x" 16 (((2 ^ i : Nat) : Int))
/-- the names that a number of flags has; none if it is not used up -/
def pfl : Nat → Nat → Int → List Str → Option (List Str)
  | 0, _, _, _ => none
  | n + 1, i, f, acc =>
    if Builtin.bitAnd f ((2 ^ i : Nat) : Int) != 0 then
      if Builtin.bitXor f ((2 ^ i : Nat) : Int) != 0 then pfl n (i + 1) (Builtin.bitXor f ((2 ^ i : Nat) : Int)) (acc ++ [nmAt i]) else some (acc ++ [nmAt i])
    else pfl n (i + 1) f acc
/-- the table of the names of flags -/
structure NamesAt (h : Heap) (D : Addr) : Prop where
  off : (D == sysModules) = false
  map : ∀ (prog : Program) (w : World), ∃ f, h.MapOf (intKind prog w) D f ∧ ∀ i : Nat, i < 32 → (∀ v, f ((2 ^ i : Nat) : Int) = some v → ∃ t, v = .str (nmAt i) t) ∧ (f ((2 ^ i : Nat) : Int) = none → nmAt i = baseText "0x" 16 ((2 ^ i : Nat) : Int))
section
variable {prog : Program} {w : World} {h₀ : Heap} {mg mb : Str → Option Value} {A : Around} {env : Env} {loc : Loc}
theorem Ev.flagName {o e1 e2 : Expr} {apos pos : Pos} {D : Addr} {i : Nat} {pl : Sem Bool} (ho : Ev prog w h₀ A env loc o (.val (.ref D))) (h1 : Ev prog w h₀ A env loc e1 (.int ((2 ^ i : Nat) : Int))) (h2 : Ev prog w h₀ A env loc e2 (.str (baseText "0x" 16 ((2 ^ i : Nat) : Int))))
    (hD : NamesAt h₀ D) (hi : i < 32)
    (hc : eval (.Call (.Attribute o "get" apos) [e1, e2] [] pos) env = (do
          let ov ← eval o env
          standAt apos.atName
          let (f, first) ← holding [ov] (getMethod ov "get" pl)
          callWith pos f first (backTo pos (starEach [e1, e2] env)) []) := by rfl)
    (hst : starEach [e1, e2] env = (false, eval e1 env) :: starEach [e2] env := by rfl) (hst2 : starEach [e2] env = (false, eval e2 env) :: starEach [] env := by rfl) (hns : (backTo pos (starEach [e2] env)).any (·.1) = false := by rfl) :
    Ev prog w h₀ A env loc (.Call (.Attribute o "get" apos) [e1, e2] [] pos) (.str (nmAt i)) := by
  intro G s Q R g
  obtain ⟨off, hm⟩ := hD
  obtain ⟨f, ⟨ob, es, ep, m1, m2, m3, m4, m5⟩, hf⟩ := hm prog w
  have keep : ∀ {s' : Shared}, Ext h₀ s'.heap → s'.heap.MapOf (intKind prog w) D f := fun e => ⟨ob, es, ep, e _ _ m1, m2, m3, m4, m5⟩
  refine MethodCall_ (pl := pl) (ho G s _ R fun G₁ h₁ t₁ v k₁ hv => ?_) hc
  cases hv
  have M₁ := keep (s' := { s with heap := h₁, toks := t₁ }) (R.post k₁).ext
  refine getMethod_builtin M₁.typeIs PySem.F.plainAttrs_dict PySem.F.slot_dict_get PySem.F.type_dict_get M₁.noDict ?_
  refine PyProof.Rows.callWith_method1 (EvArgs.cons (hst := hst) h1 (EvArgs.cons (hst := hst2) h2 EvArgs.nil) G₁ _ pos _ (R.post k₁) fun G₂ h₂ t₂ vs k₂ hvs => ?_) hst hns
  cases hvs with
  | cons a1 r =>
  cases r with
  | cons a2 r =>
  cases r; cases a1; cases a2
  rename_i t3 t4
  have M₂ := keep (s' := { s with heap := h₂, toks := t₂ }) ((R.post k₁).post k₂).ext
  refine call_meetsIn PySem.F.slot_dict_get M₂.typeIs PySem.F.entry_dict_get (PySem.F.args_dict_get_3 _ _ _) (meets_dict_get_default (intKind prog w) D (intKind_is prog w _ _) off _) ⟨f, M₂, ?_⟩
  have g' := fun t => Gives.here (Gives.post (s := s) (tk := t₂) g (k₁.trans k₂)) k₂.2.2.1 (t₂ + 1) (VR.str (nmAt i) t)
  obtain ⟨q1, q2⟩ := hf i hi
  cases e : f ((2 ^ i : Nat) : Int) with
  | some v =>
    obtain ⟨t, rfl⟩ := q1 v e
    exact g' t
  | none =>
    have := q2 e
    rw [this] at g'
    exact g' t4
theorem isMeth_join {x : Str} : IsMeth prog w A (.str x) "join" "str.join" := by
  intro G s v pl Q S hv h
  cases hv
  exact getMethod_builtin (typeIs_str _ _ _) PySem.F.plainAttrs_str PySem.F.slot_str_join PySem.F.type_str_join (fun a e => by cases e) h
theorem EvT.int_ne {e : Expr} {i : Int} {b : Bool} (he : Ev prog w h₀ A env loc e (.int i)) (hb : (i != 0) = b) (hw : isTrue e env (eval e env) = (do let v ← eval e env; standAt e.pos; holding [v] (truthy v)) := by rfl) : EvT prog w h₀ A env loc e b := hb ▸ EvT.val he OpT.int hw
theorem hex_small : ∀ i : Nat, i < 32 → (baseText "0x" 16 ((2 ^ i : Nat) : Int)).length ≤ 100 := by decide +kernel
end
end Mine
end
section
open PySem PySem.W PyProof.Rows PySem.Spec PySem.Calls
set_option maxRecDepth 100000
set_option maxHeartbeats 2000000
namespace Mine
section
variable {prog : Program} {w : World} {h₀ : Heap} {mg mb : Str → Option Value} {A : Around} {env : Env} {loc : Loc}
theorem OpB.shl1 {i : Nat} (h : i < 64) : OpB prog w A .LShift (.int 1) (.int (i : Int)) (.int ((2 ^ i : Nat) : Int)) := by
  have := OpB.shl_int (prog := prog) (w := w) (A := A) (a := 1) (n := (i : Int)) (by omega) (by omega) (by decide)
  rw [Int.one_mul, Int.toNat_natCast] at this
  have e : (2 : Int) ^ i = ((2 ^ i : Nat) : Int) := by simp
  rw [e] at this
  exact this
theorem joinCall {env : Env} {x : Str} {k : Nat} {cp apos pos : Pos} {e o : Expr} (ho : Expr.Constant (.str x) k cp = o) (hp : apos.endLine == pos.line) (hs : (backTo pos (starEach [e] env)).all (fun x => !x.1) = true) : eval (.Call (.Attribute o "join" apos) [e] [] pos) env = (do
          let ov ← eval o env
          standAt apos.atName
          let (f, first) ← holding [ov] (getMethod ov "join" (do return (← importBound o env).getD true))
          callWith pos f first (backTo pos (starEach [e] env)) []) := by
  subst ho
  have e1 : eval (.Call (.Attribute (.Constant (.str x) k cp) "join" apos) [e] [] pos) env = (do
          let ov ← eval (.Constant (.str x) k cp) env
          standAt apos.atName
          methodCall (.Constant (.str x) k cp) "join" apos pos env ov 1 (backTo pos (starEach [e] env)) []) := rfl
  rw [e1]
  unfold methodCall
  have hf : methodCallForm 1 (backTo pos (starEach [e] env)) [] = true := by
    unfold methodCallForm
    rw [hs]; rfl
  rw [hf]
  unfold methodCallPos calleeOf
  rw [hp]
  rfl
def rangeFrom (i n : Nat) : List PV := (List.range' i n).map fun (j : Nat) => PV.int (j : Int)
theorem rangeFrom_zero (i : Nat) : rangeFrom i 0 = [] := rfl
theorem rangeFrom_succ (i n : Nat) : rangeFrom i (n + 1) = PV.int (i : Int) :: rangeFrom (i + 1) n := by simp [rangeFrom, List.range'_succ]
theorem rangePV_eq (n : Nat) : rangePV (n : Int) = rangeFrom 0 n := by simp [rangePV, rangeFrom, List.range_eq_range']
abbrev pfEnv (L f : Addr) (cd : Value) : Env := fenv (Str.ofString "pretty_flags") (fs 10) L f cd
/-- the for of pretty_flags -/
def pfFor : Stmt := (fb 10).getD 1 (.Pass ⟨0, 0, 0, 0⟩)
def forBody : Stmt → List Stmt
  | .For _ _ b _ _ => b
  | _ => []
def ifBody : Stmt → List Stmt
  | .If _ b _ _ => b
  | _ => []
def forElse : Stmt → List Stmt
  | .For _ _ _ o _ => o
  | _ => []
theorem pretty_loop {D : Addr} {L f : Addr} {cd : Value} (hB : Base h₀ mg mb) (hD : NamesAt h₀ D) (hn : mg "COMPILER_FLAG_NAMES" = some (.ref D)) (hx : mg "hex" = none) (hxb : mb "hex" = some (.builtin "hex")) :
    ∀ (n i : Nat) (fl : Int) (acc ys : List Str), i + n = 32 → pfl n i fl acc = some ys → acc.length ≤ i →
      ForS prog w h₀ A (pfEnv L f cd) (Str.ofString "i") (forBody pfFor) (forElse pfFor) [(Str.ofString "names", .own none (acc.map .str)), (Str.ofString "flags", .int fl)] (rangeFrom i n) .next [(Str.ofString "names", .own none (ys.map .str))] := by
  have hE := fenvOk (name := Str.ofString "pretty_flags") (scope := fs 10) (L := L) (f := f) (cd := cd) (by rfl)
  intro n
  induction n with
  | zero => intro i fl acc ys _ h _; cases h
  | succ n ih =>
    intro i fl acc ys hi h hl
    rw [rangeFrom_succ]
    unfold pfl at h
    have hz : (acc.map PV.str).length ≤ sizeLine := by rw [List.length_map, sizeLine_eq]; omega
    have ea : acc.map PV.str ++ [PV.str (nmAt i)] = (acc ++ [nmAt i]).map PV.str := by simp
    have hfl : Ex prog w h₀ A (pfEnv L f cd) [(Str.ofString "i", .int (i : Int)), (Str.ofString "names", .own none (acc.map .str)), (Str.ofString "flags", .int fl)] ((forBody pfFor).getD 0 (.Pass ⟨0, 0, 0, 0⟩)) .next
        [(Str.ofString "flag", .int ((2 ^ i : Nat) : Int)), (Str.ofString "i", .int (i : Int)), (Str.ofString "names", .own none (acc.map .str)), (Str.ofString "flags", .int fl)] :=
      Ex.assign (Ev.bin Ev.int (Ev.local hE (by rfl)) (OpB.shl1 (by omega))) hE rfl (.inl (by rfl))
    by_cases c : (Builtin.bitAnd fl ((2 ^ i : Nat) : Int) != 0) = true
    · rw [if_pos c] at h
      have app : Ex prog w h₀ A (pfEnv L f cd) [(Str.ofString "flag", .int ((2 ^ i : Nat) : Int)), (Str.ofString "i", .int (i : Int)), (Str.ofString "names", .own none (acc.map .str)), (Str.ofString "flags", .int fl)] ((ifBody ((forBody pfFor).getD 1 (.Pass ⟨0, 0, 0, 0⟩))).getD 0 (.Pass ⟨0, 0, 0, 0⟩)) .next
          ((Str.ofString "names", .own none (acc.map .str ++ [.str (nmAt i)])) :: [(Str.ofString "flag", .int ((2 ^ i : Nat) : Int)), (Str.ofString "i", .int (i : Int)), (Str.ofString "names", .own none (acc.map .str)), (Str.ofString "flags", .int fl)]) :=
        Ex.append (by rfl) (Ev.flagName (Ev.global hB hE hn (by rfl)) (Ev.local hE (by rfl)) (Ev.callB (Ev.builtin hB hE hx hxb (by rfl)) (EvArgs.cons (Ev.local hE (by rfl)) EvArgs.nil) (OpF.hex (by have := hex_small i (by omega); rw [sizeLine_eq]; omega))) hD (by omega)) rfl hE hz
      by_cases c2 : (Builtin.bitXor fl ((2 ^ i : Nat) : Int) != 0) = true
      · rw [if_pos c2] at h
        refine .turn (loc₁ := [(Str.ofString "names", .own none ((acc ++ [nmAt i]).map .str)), (Str.ofString "flags", .int (Builtin.bitXor fl ((2 ^ i : Nat) : Int)))]) rfl ?_ (ih (i + 1) _ _ ys (by omega) h (by simp; omega))
        refine Exs.cons hfl (Exs.cons (Ex.if_tt (EvT.int_ne (Ev.bin (Ev.local hE (by rfl)) (Ev.local hE (by rfl)) OpB.and_int) c) (Exs.cons app (Exs.cons (Ex.aug (by rfl) (Ev.local hE (by rfl)) hE rfl (.inl (by rfl)) aug_xor) (Exs.cons (Ex.if_ff (EvT.not (EvT.int_ne (Ev.local hE (by rfl)) c2)) Exs.nil) Exs.nil)))) (Exs.nil.less (LSub.refl _) (LSub.cons (by rw [← ea]; rfl) (LSub.cons (by rfl) (LSub.nil _)))))
      · rw [if_neg c2] at h
        have h := Option.some.inj h
        refine .brk rfl ?_
        rw [Bool.not_eq_true] at c2
        refine (Exs.cons hfl (Exs.stop (Ex.if_tt (EvT.int_ne (Ev.bin (Ev.local hE (by rfl)) (Ev.local hE (by rfl)) OpB.and_int) c) (Exs.cons app (Exs.cons (Ex.aug (by rfl) (Ev.local hE (by rfl)) hE rfl (.inl (by rfl)) aug_xor) (Exs.stop (Ex.if_tt (EvT.not (EvT.int_ne (Ev.local hE (by rfl)) c2)) (Exs.stop Ex.brk)))))))).less (LSub.refl _) (LSub.cons (by rw [← h, ← ea]; rfl) (LSub.nil _))
    · rw [if_neg c] at h
      rw [Bool.not_eq_true] at c
      refine .turn (loc₁ := [(Str.ofString "names", .own none (acc.map .str)), (Str.ofString "flags", .int fl)]) rfl ?_ (ih (i + 1) _ _ ys (by omega) h (by omega))
      refine Exs.cons hfl (Exs.cons (Ex.if_ff (EvT.int_ne (Ev.bin (Ev.local hE (by rfl)) (Ev.local hE (by rfl)) OpB.and_int) c) Exs.nil) (Exs.nil.less (LSub.refl _) (LSub.cons (by rfl) (LSub.cons (by rfl) (LSub.nil _)))))
theorem pretty_spec {D f : Addr} (F : FnIs h₀ f "pretty_flags" 10 .none .none) (hB : Base h₀ mg mb) (hD : NamesAt h₀ D) (hn : mg "COMPILER_FLAG_NAMES" = some (.ref D)) (hx : mg "hex" = none) (hxb : mb "hex" = some (.builtin "hex"))
    (hr : mg "range" = none) (hrb : mb "range" = some (.type "range")) (hh : A.handled = none) (hroom : A.depth < recursionLimit) {fl : Int} {ys : List Str} (hp : pfl 32 0 fl [] = some ys) (hj : JoinOk (Str.ofString ", ") ys = true) :
    Calls prog w h₀ A f [.int fl] [] (.str (Txt.join (Str.ofString ", ") ys)) := by
  refine Calls.intro F hB hroom (l := [(Str.ofString "flags", .int fl)]) (l' := [(Str.ofString "names", .own none (ys.map .str))]) (r := .ret (.str (Txt.join (Str.ofString ", ") ys))) (BindsP.pos1 ?_ (by rfl)) (fun L cd => ?_)
  · rintro ⟨nm, qn, ps, bd, sc, gl, cl, df, kd, doc, pm, an, cd, ct, bi⟩ v h1 h2 h3
    simp only at h1 h2 h3
    subst h1 h2 h3
    rfl
  · have hE := fenvOk (name := Str.ofString "pretty_flags") (L := L) (f := f) (cd := cd) F.kind
    refine Exs.cons (Ex.assignOwn EvArgs.nil hE rfl (Nat.zero_le _) (.inl (by rfl))) ?_
    refine Exs.cons (Ex.for_ (EvI.range hB (Ev.builtin hB hE hr hrb (by rfl)) Ev.int hh (by decide) (by decide)) hE (.inl (by rfl)) (pretty_loop (A := A.deeper (pfEnv L f cd)) hB hD hn hx hxb 32 0 fl [] ys rfl hp (Nat.le_refl _))) ?_
    show Exs _ _ _ _ _ _ [.Return (some (.Call (.Attribute (.Constant (.str (Str.ofString ", ")) 0 ⟨67, 11, 67, 15⟩) _ _) _ _ _)) _] _ _
    generalize ho : Expr.Constant (Const.str (Str.ofString ", ")) 0 ⟨67, 11, 67, 15⟩ = o
    have hs : Ev prog w h₀ (A.deeper (pfEnv L f cd)) (pfEnv L f cd) [(Str.ofString "names", .own none (ys.map .str))] o (.str (Str.ofString ", ")) := ho ▸ Ev.str
    exact Exs.stop (Ex.ret (Ev.meth (p := .str (Str.ofString ", ")) (id := "str.join") (ps := [.own none (ys.map .str)]) hs isMeth_join (EvArgs.cons (Ev.local hE (by rfl)) EvArgs.nil) (OpF.join rfl hj) (hc := joinCall ho (by rfl) (by rfl))) rfl)
end
end Mine
end
section
open PySem PySem.W PyProof.Rows PySem.Spec PySem.Calls
set_option maxRecDepth 100000
set_option maxHeartbeats 2000000
namespace Mine
/-- a word by its signs -/
def W (l : List Nat) : Str := ⟨l.toArray⟩
theorem W_len (l : List Nat) : (W l).length = l.length := by simp [W, Str.length]
theorem W_at (l : List Nat) (i : Nat) : (W l).cps[i]? = l[i]? := by simp [W]
theorem s40 : Str.ofString "(" = W [40] := by decide +kernel
theorem s41 : Str.ofString ")" = W [41] := by decide +kernel
theorem s0 : Str.ofString "" = W [] := by decide +kernel
theorem W_inj {a b : List Nat} : W a = W b ↔ a = b := by simp [W]
theorem W_app (a b : List Nat) : W a ++ W b = W (a ++ b) := by
  show Str.append _ _ = _
  simp [Str.append, W]
theorem sign_eq (c d : Nat) : ((⟨#[c]⟩ : Str) == W [d]) = (c == d) := by
  by_cases h : c = d
  · subst h; simp [W]
  · have h1 : (c == d) = false := by simpa using h
    have h2 : ¬ (⟨#[c]⟩ : Str) = W [d] := by simp [W, h]
    rw [h1]; simpa using h2
/-- the pile of the open brackets -/
def opn : List Nat → Nat → List Int → List Int
  | [], _, p => p
  | c :: r, k, p => if c == 40 then opn r (k + 1) (p ++ [(k : Int)]) else opn r (k + 1) p.dropLast
def openW (l : List Nat) : Int := (opn l 0 [] ++ [(l.length : Int)]).getD 0 0
section
variable {prog : Program} {w : World} {h₀ : Heap} {mg mb : Str → Option Value} {A : Around} {env : Env} {loc : Loc}
theorem Ev.lenW {np pos : Pos} {e : Expr} {l : List Nat} (hB : Base h₀ mg mb) (hE : EnvOk env) (hlen : mg "len" = Option.none) (hlenb : mb "len" = Option.some (.builtin "len")) (he : Ev prog w h₀ A env loc e (.str (W l))) (hl : l.length ≤ 1000)
    (hx : env.kindOf (Str.ofString "len") = Option.some .globalImplicit) (hst : starEach [e] env = (false, eval e env) :: starEach [] env := by rfl) : Ev prog w h₀ A env loc (.Call (.Name (Str.ofString "len") np) [e] [] pos) (.int (l.length : Nat)) := by
  have := Ev.callB (rest := []) (pos := pos) (Ev.builtin hB hE hlen hlenb (pos := np) hx) (EvArgs.cons (hst := hst) he EvArgs.nil) (OpF.len_str (by rw [W_len]; omega)) (by rfl) hst
  rw [W_len] at this; exact this
abbrev opEnv (L f : Addr) (cd : Value) : Env := fenv (Str.ofString "_law_open") (fs 17) L f cd
def opFor : Stmt := (fb 17).getD 1 (.Pass ⟨0, 0, 0, 0⟩)
theorem EvT.cmp' {l r : Expr} {op : CmpOp} {pos : Pos} {p q : PV} {b b' : Bool} (hl : Ev prog w h₀ A env loc l p) (hr : Ev prog w h₀ A env loc r q) (ho : OpC prog w A op p q (.bool b)) (e : b = b') (hb : behindInMarks op r = false := by rfl) :
    EvT prog w h₀ A env loc (.Compare l [op] [r] pos) b' := e ▸ EvT.cmp hl hr ho hb
theorem open_loop {L f : Addr} {cd : Value} (hu : A.units + 64 < cLine) (l : List Nat) (hl : l.length ≤ 1000) :
    ∀ (suf pre : List Nat) (p : List Int), pre ++ suf = l → p.length ≤ pre.length →
      ForS prog w h₀ A (opEnv L f cd) (Str.ofString "k") (forBody opFor) (forElse opFor) [(Str.ofString "pile", .own none (p.map .int)), (Str.ofString "word", .str (W l))] (rangeFrom pre.length suf.length) .next [(Str.ofString "pile", .own none ((opn suf pre.length p).map .int)), (Str.ofString "word", .str (W l))] := by
  have hE := fenvOk (name := Str.ofString "_law_open") (scope := fs 17) (L := L) (f := f) (cd := cd) (by rfl)
  intro suf
  induction suf with
  | nil => intro pre p _ _; exact .done Exs.nil
  | cons c r ih =>
    intro pre p hpre hp
    have hlen : pre.length < l.length := by rw [← hpre]; simp
    have hc : (W l).cps[((pre.length : Int)).toNat]? = some c := by rw [Int.toNat_natCast, W_at, ← hpre]; simp
    rw [List.length_cons, rangeFrom_succ]
    have hpre' : (pre ++ [c]) ++ r = l := by rw [← hpre]; simp
    have ih' := fun p hp => ih (pre ++ [c]) p hpre' hp
    rw [show (pre ++ [c]).length = pre.length + 1 by simp] at ih'
    have hz : (p.map PV.int).length ≤ sizeLine := by rw [List.length_map, sizeLine_eq]; omega
    unfold opn
    have test : ∀ b, (c == 40) = b → EvT prog w h₀ A (opEnv L f cd) [(Str.ofString "k", .int (pre.length : Int)), (Str.ofString "pile", .own none (p.map .int)), (Str.ofString "word", .str (W l))] (.Compare (.Subscript (.Name (Str.ofString "word") ⟨86, 11, 86, 15⟩) (.Name (Str.ofString "k") ⟨86, 16, 86, 17⟩) ⟨86, 11, 86, 18⟩) [.Eq] [.Constant (.str (Str.ofString "(")) 0 ⟨86, 22, 86, 25⟩] ⟨86, 11, 86, 25⟩) b := fun b hb =>
      EvT.cmp' (Ev.item_str (Ev.local hE (by rfl)) (Ev.local hE (by rfl)) (by omega) (by omega) hc) Ev.str OpC.eq_str (by rw [s40, sign_eq]; exact hb)
    by_cases q : (c == 40) = true
    · rw [if_pos q]
      refine .turn (loc₁ := [(Str.ofString "pile", .own none ((p ++ [(pre.length : Int)]).map .int)), (Str.ofString "word", .str (W l))]) rfl ?_ (ih' _ (by simp; omega))
      have ea : p.map PV.int ++ [PV.int (pre.length : Int)] = (p ++ [(pre.length : Int)]).map .int := by simp
      exact Exs.cons (Ex.if_tt (test _ q) (Exs.cons (Ex.append (by rfl) (Ev.local hE (by rfl)) rfl hE hz) Exs.nil)) (Exs.nil.less (LSub.refl _) (LSub.cons (by rw [← ea]; rfl) (LSub.cons (by rfl) (LSub.nil _))))
    · rw [if_neg q]
      rw [Bool.not_eq_true] at q
      refine .turn (loc₁ := [(Str.ofString "pile", .own none (p.dropLast.map .int)), (Str.ofString "word", .str (W l))]) rfl ?_ (ih' _ (by simp; omega))
      rcases List.eq_nil_or_concat p with hp0 | ⟨p', x, hp0⟩
      · subst hp0
        exact Exs.cons (Ex.if_ff (test _ q) (Exs.cons (Ex.if_ff (EvT.cmp' (b' := false) (Ev.local hE (by rfl)) (Ev.list EvArgs.nil rfl (Nat.zero_le _)) (OpC.ne_ints (ns := []) (ms := []) rfl rfl hu) (by decide)) Exs.nil) Exs.nil)) (Exs.nil.less (LSub.refl _) (LSub.cons (by rfl) (LSub.cons (by rfl) (LSub.nil _))))
      · rw [List.concat_eq_append] at hp0
        subst hp0
        have ed : (p' ++ [x]).dropLast = p' := by simp
        rw [ed]
        have em : (p' ++ [x]).map PV.int = p'.map .int ++ [.int x] := by simp
        refine Exs.cons (Ex.if_ff (test _ q) (Exs.cons (Ex.if_tt (EvT.cmp' (b' := true) (Ev.local hE (by rfl)) (Ev.list EvArgs.nil rfl (Nat.zero_le _)) (OpC.ne_ints (ns := p' ++ [x]) (ms := []) rfl rfl hu) (by simp)) (Exs.cons (Ex.pop (xs := p'.map .int) (p := .int x) (by rw [em]; rfl) hE (by rw [List.length_map, sizeLine_eq]; simp at hp; omega)) Exs.nil)) Exs.nil)) (Exs.nil.less (LSub.refl _) (LSub.cons (by rfl) (LSub.cons (by rfl) (LSub.nil _))))
theorem opn_len : ∀ (l : List Nat) (k : Nat) (p : List Int), (opn l k p).length ≤ l.length + p.length
  | [], _, p => by simp [opn]
  | c :: r, k, p => by
    unfold opn
    split
    · have := opn_len r (k + 1) (p ++ [(k : Int)]); simp at this ⊢; omega
    · have := opn_len r (k + 1) p.dropLast; simp at this ⊢; omega
theorem open_spec {f : Addr} (F : FnIs h₀ f "_law_open" 17 .none .none) (hB : Base h₀ mg mb) (hlen : mg "len" = none) (hlenb : mb "len" = some (.builtin "len"))
    (hr : mg "range" = none) (hrb : mb "range" = some (.type "range")) (hh : A.handled = none) (hroom : A.depth < recursionLimit) (hu : ∀ L cd, (A.deeper (opEnv L f cd)).units + 64 < cLine) (l : List Nat) (hl : l.length ≤ 1000) :
    Calls prog w h₀ A f [.str (W l)] [] (.int (openW l)) := by
  refine Calls.intro F hB hroom (l := [(Str.ofString "word", .str (W l))]) (l' := [(Str.ofString "pile", .own none ((opn l 0 []).map .int)), (Str.ofString "word", .str (W l))]) (r := .ret (.int (openW l))) (BindsP.pos1 ?_ (by rfl)) (fun L cd => ?_)
  · rintro ⟨nm, qn, ps, bd, sc, gl, cl, df, kd, doc, pm, an, cd, ct, bi⟩ v h1 h2 h3
    simp only at h1 h2 h3
    subst h1 h2 h3
    rfl
  · have hE := fenvOk (name := Str.ofString "_law_open") (L := L) (f := f) (cd := cd) F.kind
    have F0 := open_loop (prog := prog) (w := w) (h₀ := h₀) (A := A.deeper (opEnv L f cd)) (L := L) (f := f) (cd := cd) (hu L cd) l hl l [] [] rfl (Nat.le_refl _)
    rw [show ([] : List Nat).length = 0 from rfl, ← rangePV_eq] at F0
    refine Exs.cons (Ex.assignOwn EvArgs.nil hE rfl (Nat.zero_le _) (.inl (by rfl))) ?_
    refine Exs.cons (Ex.for_ (EvI.range hB (Ev.builtin hB hE hr hrb (by rfl)) (Ev.lenW hB hE hlen hlenb (Ev.local hE (by rfl)) hl (by rfl)) hh (by omega) (by omega)) hE (.inl (by rfl)) F0) ?_
    have hle := opn_len l 0 []
    rw [List.length_nil, Nat.add_zero] at hle
    refine Exs.stop (Ex.ret (Ev.item_list (xs := (opn l 0 []).map .int ++ [.int (l.length : Nat)]) (Ev.bin (Ev.local hE (by rfl)) (Ev.list (EvArgs.cons (p := .int (l.length : Nat)) (Ev.lenW hB hE hlen hlenb (Ev.local hE (by rfl)) hl (by rfl)) EvArgs.nil) rfl (by rw [sizeLine_eq]; simp)) (OpB.add_list rfl rfl (by rw [List.length_map, sizeLine_eq]; simp; omega))) Ev.int rfl (by decide) (by decide) ?_) rfl)
    · unfold openW
      have : (opn l 0 []).map PV.int ++ [.int (l.length : Nat)] = (opn l 0 [] ++ [(l.length : Int)]).map .int := by simp
      rw [this]
      cases hq : opn l 0 [] ++ [(l.length : Int)] with
      | nil => simp at hq
      | cons a r => rfl
end
end Mine
end
section
open PySem PySem.W PyProof.Rows PySem.Spec PySem.Calls
set_option maxRecDepth 100000
set_option maxHeartbeats 2000000
namespace Mine
/-- the places of the shut brackets -/
def shutAt (l : List Nat) : List Nat := (List.range l.length).filter fun k => l.getD k 0 == 41
def flagBits (l : List Nat) (sh : Nat) : List Int := (shutAt l).map fun k => ((2 ^ (k + sh) : Nat) : Int)
def ptShut (l : List Nat) : PV → Bool
  | .int k => l.getD k.toNat 0 == 41
  | _ => false
theorem filter_range (l : List Nat) : (rangePV (l.length : Int)).filter (ptShut l) = (shutAt l).map fun (k : Nat) => PV.int (k : Int) := by
  unfold rangePV shutAt
  rw [Int.toNat_natCast, List.filter_map]
  congr 1
section
variable {prog : Program} {w : World} {h₀ : Heap} {mg mb : Str → Option Value} {A : Around} {env : Env} {loc : Loc}
theorem mem_range {n : Nat} {p : PV} (h : p ∈ rangePV (n : Int)) : ∃ k : Nat, k < n ∧ p = .int (k : Int) := by
  unfold rangePV at h
  obtain ⟨k, hk, rfl⟩ := List.mem_map.mp h
  exact ⟨k, by simpa using hk, rfl⟩
theorem look2 {x1 x2 : Str} {p1 p2 : PV} {C : Str → PV → Prop} (h1 : C x1 p1) (h2 : C x2 p2) : ∀ y p, ([(x1, p1), (x2, p2)] : Loc).lookup y = some p → C y p := by
  intro y p e
  rw [List.lookup_cons] at e
  cases hy : (y == x1) with
  | true => rw [hy] at e; cases e; rw [beq_iff_eq.mp hy]; exact h1
  | false =>
    rw [hy] at e
    simp only at e
    rw [List.lookup_cons] at e
    cases hz : (y == x2) with
    | true => rw [hz] at e; cases e; rw [beq_iff_eq.mp hz]; exact h2
    | false => rw [hz] at e; cases e
theorem look1 {x1 : Str} {p1 : PV} {C : Str → PV → Prop} (h1 : C x1 p1) : ∀ y p, ([(x1, p1)] : Loc).lookup y = some p → C y p := by
  intro y p e
  rw [List.lookup_cons] at e
  cases hy : (y == x1) with
  | true => rw [hy] at e; cases e; rw [beq_iff_eq.mp hy]; exact h1
  | false => rw [hy] at e; cases e
theorem look3 {x1 x2 x3 : Str} {p1 p2 p3 : PV} {C : Str → PV → Prop} (h1 : C x1 p1) (h2 : C x2 p2) (h3 : C x3 p3) : ∀ y p, ([(x1, p1), (x2, p2), (x3, p3)] : Loc).lookup y = some p → C y p := by
  intro y p e
  rw [List.lookup_cons] at e
  cases hy : (y == x1) with
  | true => rw [hy] at e; cases e; rw [beq_iff_eq.mp hy]; exact h1
  | false => rw [hy] at e; exact look2 h2 h3 y p e
abbrev lfEnv (L f : Addr) (cd : Value) : Env := fenv (Str.ofString "_law_flags") (fs 18) L f cd
theorem flags_spec {D f fp : Addr} (F : FnIs h₀ f "_law_flags" 18 .none .none) (FP : FnIs h₀ fp "pretty_flags" 10 .none .none) (hB : Base h₀ mg mb) (hD : NamesAt h₀ D) (hn : mg "COMPILER_FLAG_NAMES" = some (.ref D)) (hx : mg "hex" = none) (hxb : mb "hex" = some (.builtin "hex"))
    (hr : mg "range" = none) (hrb : mb "range" = some (.type "range")) (hlen : mg "len" = none) (hlenb : mb "len" = some (.builtin "len")) (hsum : mg "sum" = none) (hsumb : mb "sum" = some (.builtin "sum")) (hpf : mg "pretty_flags" = some (.ref fp)) (hh : A.handled = none) (hroom : A.depth + 2 < recursionLimit)
    {l : List Nat} {sh : Nat} {ys : List Str} (hl : l.length ≤ 20) (hsh : sh ≤ 20) (hp : pfl 32 0 (flagBits l sh).sum [] = some ys) (hj : JoinOk (Str.ofString ", ") ys = true) :
    Calls prog w h₀ A f [.str (W l), .int (sh : Int)] [] (.str (Txt.join (Str.ofString ", ") ys)) := by
  refine Calls.intro F hB (by omega) (l := [(Str.ofString "word", .str (W l)), (Str.ofString "shift", .int (sh : Int))]) (l' := [(Str.ofString "word", .str (W l)), (Str.ofString "shift", .int (sh : Int))]) (r := .ret (.str (Txt.join (Str.ofString ", ") ys))) (BindsP.pos2 ?_ (by decide) (by rfl) (by rfl)) (fun L cd => ?_)
  · rintro ⟨nm, qn, ps, bd, sc, gl, cl, df, kd, doc, pm, an, cd, ct, bi⟩ v u h1 h2 h3
    simp only at h1 h2 h3
    subst h1 h2 h3
    rfl
  · have hE := fenvOk (name := Str.ofString "_law_flags") (L := L) (f := f) (cd := cd) F.kind
    have hd : (A.deeper (lfEnv L f cd)).depth = A.depth + 1 := rfl
    have eb : (((rangePV (l.length : Int)).filter (ptShut l)).map fun p => match p with | .int k => PV.int ((2 ^ (k.toNat + sh) : Nat) : Int) | p => p) = (flagBits l sh).map .int := by
      rw [filter_range]; simp [flagBits]
    refine Exs.stop (Ex.ret (Ev.callF (Ev.global hB hE hpf (by rfl)) FP.isFn (EvArgs.cons (p := .int (flagBits l sh).sum) (Ev.callB (Ev.builtin hB hE hsum hsumb (by rfl)) (EvArgs.cons (p := .list ((flagBits l sh).map .int)) ?_ EvArgs.nil) (OpF.sum_ints hh rfl)) EvArgs.nil) rfl (pretty_spec (A := A.deeper (lfEnv L f cd)) FP hB hD hn hx hxb hr hrb hh (by rw [hd]; omega) hp hj)) rfl)
    rw [← eb]
    refine Ev.comp (loc' := [(Str.ofString "word", .str (W l)), (Str.ofString "shift", .int (sh : Int))]) (xs := rangePV (l.length : Int)) ?_ (EvW.range hB (Ev.builtin hB hE hr hrb (by rfl)) (Ev.lenW hB hE hlen hlenb (Ev.local hE (by rfl)) (by omega) (by rfl)) hh (by omega) (by omega)) (by rfl) (by decide) (by rfl) (by decide) (by rfl) (by simp [rangePV, sizeLine_eq]; omega)
    refine ⟨?_, ?_, ?_, ?_, ?_⟩
    · exact look2 ⟨by rfl, by rfl, by rfl, by rfl⟩ ⟨by rfl, by rfl, by rfl, by rfl⟩
    · intro p hp
      obtain ⟨k, _, rfl⟩ := mem_range hp; rfl
    · intro C p hp
      obtain ⟨k, hk, rfl⟩ := mem_range hp
      refine .inr ⟨_, rfl, ?_⟩
      refine EvT.cmp' (Ev.item_str (c := l.getD k 0) (Ev.local (compEnvOk hE (by rfl)) (by rfl)) (Ev.local (compEnvOk hE (by rfl)) (by rfl)) (by omega) (by omega) ?_) Ev.str OpC.eq_str ?_
      · rw [Int.toNat_natCast, W_at, List.getD_eq_getElem?_getD, List.getElem?_eq_getElem hk]; rfl
      · rw [s41, sign_eq]; rfl
    · intro C p hp hpt
      obtain ⟨k, hk, rfl⟩ := mem_range hp
      have e2 : ((k : Int) + (sh : Int)) = ((k + sh : Nat) : Int) := by omega
      have hadd : OpB prog w (A.deeper (lfEnv L f cd)) .Add (.int (k : Int)) (.int (sh : Int)) (.int ((k + sh : Nat) : Int)) := e2 ▸ OpB.add_int
      exact Ev.bin Ev.int (Ev.bin (Ev.local (compEnvOk hE (by rfl)) (by rfl)) (Ev.local (compEnvOk hE (by rfl)) (by rfl)) hadd) (OpB.shl1 (by omega))
    · intro p hp _
      obtain ⟨k, _, rfl⟩ := mem_range hp; rfl
end
end Mine
end
section
open PySem PySem.W PyProof.Rows PySem.Spec PySem.Calls
set_option maxRecDepth 100000
set_option maxHeartbeats 2000000
namespace Mine
def nm11 : List Str := [Str.ofString "OPTIMIZED", Str.ofString "NEWLOCALS", Str.ofString "VARARGS", Str.ofString "VARKEYWORDS", Str.ofString "NESTED", Str.ofString "GENERATOR", Str.ofString "NOFREE", Str.ofString "COROUTINE", Str.ofString "ITERABLE_COROUTINE", Str.ofString "ASYNC_GENERATOR", Str.ofString "0x400"]
def namesW (l : List Nat) (sh : Nat) : List Str := (shutAt l).map fun k => nm11.getD (k + sh) (W [])
def eltsOf : Stmt → List Expr
  | .Assign _ (.List es _) _ => es
  | _ => []
def posOf : Expr → Pos
  | .Constant _ _ p => p
  | _ => ⟨0, 0, 0, 0⟩
def nmElts : List Expr := eltsOf ((fb 19).getD 0 (.Pass ⟨0, 0, 0, 0⟩))
theorem nmElts_eq : nmElts = (nm11.zip (nmElts.map posOf)).map fun x => Expr.Constant (.str x.1) 0 x.2 := rfl
theorem nm_zip : ((nm11.zip (nmElts.map posOf)).map fun x => PV.str x.1) = nm11.map .str := rfl
theorem nm_pure : allPure (nm11.map .str) = true := rfl
theorem nm_size : (nm11.map PV.str).length ≤ sizeLine := by rw [sizeLine_eq]; decide
section
variable {prog : Program} {w : World} {h₀ : Heap} {mg mb : Str → Option Value} {A : Around} {env : Env} {loc : Loc}
theorem EvArgs.strs : ∀ l : List (Str × Pos), EvArgs prog w h₀ A env loc (l.map fun x => Expr.Constant (.str x.1) 0 x.2) (l.map fun x => PV.str x.1)
  | [] => EvArgs.nil
  | x :: r => EvArgs.cons (hst := by rfl) Ev.str (EvArgs.strs r)
theorem EvArgs.intsC : ∀ l : List (Int × Pos), EvArgs prog w h₀ A env loc (l.map fun x => Expr.Constant (.int x.1) 0 x.2) (l.map fun x => PV.int x.1)
  | [] => EvArgs.nil
  | x :: r => EvArgs.cons (hst := by rfl) Ev.int (EvArgs.intsC r)
theorem EvArgs.bytesC : ∀ l : List (List UInt8 × Pos), EvArgs prog w h₀ A env loc (l.map fun x => Expr.Constant (.bytes x.1) 0 x.2) (l.map fun x => PV.bytes x.1.toArray)
  | [] => EvArgs.nil
  | x :: r => EvArgs.cons (hst := by rfl) Ev.bytes (EvArgs.bytesC r)
abbrev lnEnv (L f : Addr) (cd : Value) : Env := fenv (Str.ofString "_law_names") (fs 19) L f cd
theorem names_spec {f : Addr} (F : FnIs h₀ f "_law_names" 19 .none .none) (hB : Base h₀ mg mb)
    (hr : mg "range" = none) (hrb : mb "range" = some (.type "range")) (hlen : mg "len" = none) (hlenb : mb "len" = some (.builtin "len")) (hh : A.handled = none) (hroom : A.depth < recursionLimit)
    {l : List Nat} {sh : Nat} (hl : l.length + sh ≤ 11) (hj : JoinOk (Str.ofString ", ") (namesW l sh) = true) :
    Calls prog w h₀ A f [.str (W l), .int (sh : Int)] [] (.str (Txt.join (Str.ofString ", ") (namesW l sh))) := by
  refine Calls.intro F hB hroom (l := [(Str.ofString "word", .str (W l)), (Str.ofString "shift", .int (sh : Int))]) (l' := [(Str.ofString "names", .list (nm11.map .str)), (Str.ofString "word", .str (W l)), (Str.ofString "shift", .int (sh : Int))]) (r := .ret (.str (Txt.join (Str.ofString ", ") (namesW l sh)))) (BindsP.pos2 ?_ (by decide) (by rfl) (by rfl)) (fun L cd => ?_)
  · rintro ⟨nm, qn, ps, bd, sc, gl, cl, df, kd, doc, pm, an, cd, ct, bi⟩ v u h1 h2 h3
    simp only at h1 h2 h3
    subst h1 h2 h3
    rfl
  · have hE := fenvOk (name := Str.ofString "_law_names") (L := L) (f := f) (cd := cd) F.kind
    have eb : (((rangePV (l.length : Int)).filter (ptShut l)).map fun p => match p with | .int k => PV.str (nm11.getD (k.toNat + sh) (W [])) | p => p) = (namesW l sh).map .str := by
      rw [filter_range]; simp [namesW]
    show Exs _ _ _ _ _ _ (.Assign [.Name (Str.ofString "names") ⟨94, 4, 94, 9⟩] (.List nmElts ⟨94, 12, 94, 160⟩) ⟨94, 4, 94, 160⟩ :: _) _ _
    have hsw : swapsWith (.List nmElts ⟨94, 12, 94, 160⟩) (some (.Name (Str.ofString "names") ⟨94, 4, 94, 9⟩)) (⟨94, 4, 94, 160⟩ : Pos).line (lnEnv L f cd) = Pure.pure false := rfl
    obtain ⟨zz, hz⟩ : ∃ zz, zz = nm11.zip (nmElts.map posOf) := ⟨_, rfl⟩
    have e1 : nmElts = zz.map fun x => Expr.Constant (.str x.1) 0 x.2 := by rw [hz]; exact nmElts_eq
    have e2 : zz.map (fun x => PV.str x.1) = nm11.map .str := by rw [hz]; exact nm_zip
    revert e1 hsw
    generalize nmElts = elts
    intro hsw e1
    have hm : EvArgs prog w h₀ (A.deeper (lnEnv L f cd)) (lnEnv L f cd) [(Str.ofString "word", .str (W l)), (Str.ofString "shift", .int (sh : Int))] elts (nm11.map .str) := by
      rw [e1, ← e2]
      exact EvArgs.strs zz
    refine Exs.cons (loc₁ := [(Str.ofString "names", .list (nm11.map .str)), (Str.ofString "word", .str (W l)), (Str.ofString "shift", .int (sh : Int))]) (Ex.assign (Ev.list hm nm_pure nm_size) hE rfl (.inr (by rfl)) hsw) ?_
    show Exs _ _ _ _ _ _ [.Return (some (.Call (.Attribute (.Constant (.str (Str.ofString ", ")) 0 ⟨95, 11, 95, 15⟩) _ _) _ _ _)) _] _ _
    generalize ho : Expr.Constant (Const.str (Str.ofString ", ")) 0 ⟨95, 11, 95, 15⟩ = o
    have hs : Ev prog w h₀ (A.deeper (lnEnv L f cd)) (lnEnv L f cd) [(Str.ofString "names", .list (nm11.map .str)), (Str.ofString "word", .str (W l)), (Str.ofString "shift", .int (sh : Int))] o (.str (Str.ofString ", ")) := ho ▸ Ev.str
    refine Exs.stop (Ex.ret (Ev.meth (p := .str (Str.ofString ", ")) (id := "str.join") (ps := [.list ((namesW l sh).map .str)]) hs isMeth_join (EvArgs.cons ?_ EvArgs.nil) (OpF.join rfl hj) (hc := joinCall ho (by rfl) (by rfl))) rfl)
    rw [← eb]
    refine Ev.comp (loc' := [(Str.ofString "names", .list (nm11.map .str)), (Str.ofString "word", .str (W l)), (Str.ofString "shift", .int (sh : Int))]) (xs := rangePV (l.length : Int)) ?_ (EvW.range hB (Ev.builtin hB hE hr hrb (by rfl)) (Ev.lenW hB hE hlen hlenb (Ev.local hE (by rfl)) (by omega) (by rfl)) hh (by omega) (by omega)) (by rfl) (by decide) (by rfl) (by decide) (by rfl) (by simp [rangePV, sizeLine_eq]; omega)
    refine ⟨?_, ?_, ?_, ?_, ?_⟩
    · exact look3 ⟨by rfl, by rfl, by rfl, by rfl⟩ ⟨by rfl, by rfl, by rfl, by rfl⟩ ⟨by rfl, by rfl, by rfl, by rfl⟩
    · intro p hp
      obtain ⟨k, _, rfl⟩ := mem_range hp; rfl
    · intro C p hp
      obtain ⟨k, hk, rfl⟩ := mem_range hp
      refine .inr ⟨_, rfl, ?_⟩
      refine EvT.cmp' (Ev.item_str (c := l.getD k 0) (Ev.local (compEnvOk hE (by rfl)) (by rfl)) (Ev.local (compEnvOk hE (by rfl)) (by rfl)) (by omega) (by omega) ?_) Ev.str OpC.eq_str ?_
      · rw [Int.toNat_natCast, W_at, List.getD_eq_getElem?_getD, List.getElem?_eq_getElem hk]; rfl
      · rw [s41, sign_eq]; rfl
    · intro C p hp hpt
      obtain ⟨k, hk, rfl⟩ := mem_range hp
      have e2 : ((k : Int) + (sh : Int)) = ((k + sh : Nat) : Int) := by omega
      have hadd : OpB prog w (A.deeper (lnEnv L f cd)) .Add (.int (k : Int)) (.int (sh : Int)) (.int ((k + sh : Nat) : Int)) := e2 ▸ OpB.add_int
      have h11 : nm11.length = 11 := by rfl
      refine Ev.item_list (xs := nm11.map .str) (i := ((k + sh : Nat) : Int)) (Ev.local (compEnvOk hE (by rfl)) (by rfl)) (Ev.bin (Ev.local (compEnvOk hE (by rfl)) (by rfl)) (Ev.local (compEnvOk hE (by rfl)) (by rfl)) hadd) rfl (by omega) (by omega) ?_
      rw [Int.toNat_natCast, List.getElem?_map, List.getElem?_eq_getElem (by omega)]
      show _ = some (PV.str (nm11.getD (k + sh) (W [])))
      rw [List.getD_eq_getElem?_getD, List.getElem?_eq_getElem (by omega)]; rfl
    · intro p hp _
      obtain ⟨k, _, rfl⟩ := mem_range hp; rfl

/-- the words of a level -/
def levelW : Nat → Int → List (List Nat)
  | 0, c => if c < 0 ∨ c > 0 then [] else [[]]
  | n + 1, c => if c < 0 ∨ c > ((n + 1 : Nat) : Int) then [] else (levelW n (c - 1)).map (41 :: ·) ++ (levelW n c).map (40 :: ·)
theorem levelW_len : ∀ (n : Nat) (c : Int) (l : List Nat), l ∈ levelW n c → l.length = n
  | 0, c, l, h => by
    unfold levelW at h; split at h
    · cases h
    · simp at h; subst h; rfl
  | n + 1, c, l, h => by
    unfold levelW at h; split at h
    · cases h
    · rcases List.mem_append.mp h with h | h
      · obtain ⟨x, hx, rfl⟩ := List.mem_map.mp h; simp [levelW_len n _ x hx]
      · obtain ⟨x, hx, rfl⟩ := List.mem_map.mp h; simp [levelW_len n _ x hx]
theorem levelW_size : ∀ (n : Nat) (c : Int), (levelW n c).length ≤ 2 ^ n
  | 0, c => by unfold levelW; split <;> simp
  | n + 1, c => by
    unfold levelW; split
    · simp
    · have h1 := levelW_size n (c - 1); have h2 := levelW_size n c
      simp only [List.length_append, List.length_map]; rw [Nat.pow_succ]; omega
abbrev lvEnv (L f : Addr) (cd : Value) : Env := fenv (Str.ofString "_law_level") (fs 16) L f cd
def wordsPV (ws : List (List Nat)) : PV := .list (ws.map fun l => PV.str (W l))
theorem level_binds {scope : Scope} (p q : PV) (h1 : (scope.names.lookup (Str.ofString "size") == some .local || scope.names.lookup (Str.ofString "size") == some .cell) = true := by rfl) (h2 : (scope.names.lookup (Str.ofString "count") == some .local || scope.names.lookup (Str.ofString "count") == some .cell) = true := by rfl) : BindsP h₀ (fp 16) .none .none scope [p, q] [] [(Str.ofString "size", p), (Str.ofString "count", q)] := by
  refine BindsP.pos2 ?_ (by decide) h1 h2
  rintro ⟨nm, qn, ps, bd, sc, gl, cl, df, kd, doc, pm, an, cd, ct, bi⟩ v u h1 h2 h3
  simp only at h1 h2 h3
  subst h1 h2 h3
  rfl
theorem level_spec {f : Addr} (F : FnIs h₀ f "_law_level" 16 .none .none) (hB : Base h₀ mg mb) (hf : mg "_law_level" = some (.ref f)) : ∀ (n : Nat) (A : Around) (c : Int), n ≤ 10 → A.handled = none → A.depth + n + 1 < recursionLimit →
    Calls prog w h₀ A f [.int (n : Int), .int c] [] (wordsPV (levelW n c)) := by
  intro n
  induction n with
  | zero =>
    intro A c _ hh hroom
    refine Calls.intro F hB (by omega) (l := [(Str.ofString "size", .int ((0 : Nat) : Int)), (Str.ofString "count", .int c)]) (l' := [(Str.ofString "size", .int ((0 : Nat) : Int)), (Str.ofString "count", .int c)]) (r := .ret (wordsPV (levelW 0 c))) (level_binds _ _) (fun L cd => ?_)
    have hE := fenvOk (name := Str.ofString "_law_level") (L := L) (f := f) (cd := cd) F.kind
    unfold levelW
    by_cases c1 : c < 0
    · rw [if_pos (.inl c1)]
      exact Exs.stop (Ex.if_tt (EvT.or_tt (EvT.cmp' (Ev.local hE (by rfl)) Ev.int OpC.lt_int (decide_eq_true c1))) (Exs.stop (Ex.ret (Ev.list EvArgs.nil rfl (Nat.zero_le _)) rfl)))
    · by_cases c2 : c > 0
      · rw [if_pos (.inr c2)]
        exact Exs.stop (Ex.if_tt (EvT.or_ff (EvT.cmp' (Ev.local hE (by rfl)) Ev.int OpC.lt_int (decide_eq_false c1)) (EvT.cmp' (Ev.local hE (by rfl)) (Ev.local hE (by rfl)) OpC.gt_int (decide_eq_true c2))) (Exs.stop (Ex.ret (Ev.list EvArgs.nil rfl (Nat.zero_le _)) rfl)))
      · rw [if_neg (by omega)]
        have el : wordsPV [[]] = .list [.str (Str.ofString "")] := by rw [s0]; rfl
        rw [el]
        refine Exs.cons (Ex.if_ff (EvT.or_ff (EvT.cmp' (Ev.local hE (by rfl)) Ev.int OpC.lt_int (decide_eq_false c1)) (EvT.cmp' (Ev.local hE (by rfl)) (Ev.local hE (by rfl)) OpC.gt_int (decide_eq_false c2))) Exs.nil) ?_
        exact Exs.stop (Ex.if_tt (EvT.cmp' (Ev.local hE (by rfl)) Ev.int OpC.eq_int (by rfl)) (Exs.stop (Ex.ret (Ev.list (EvArgs.cons Ev.str EvArgs.nil) rfl (by rw [sizeLine_eq]; simp)) rfl)))
  | succ n ih =>
    intro A c hn hh hroom
    refine Calls.intro F hB (by omega) (l := [(Str.ofString "size", .int ((n + 1 : Nat) : Int)), (Str.ofString "count", .int c)]) (l' := [(Str.ofString "size", .int ((n + 1 : Nat) : Int)), (Str.ofString "count", .int c)]) (r := .ret (wordsPV (levelW (n + 1) c))) (level_binds _ _) (fun L cd => ?_)
    have hE := fenvOk (name := Str.ofString "_law_level") (L := L) (f := f) (cd := cd) F.kind
    have hd : (A.deeper (lvEnv L f cd)).depth = A.depth + 1 := rfl
    unfold levelW
    by_cases c1 : c < 0
    · rw [if_pos (.inl c1)]
      exact Exs.stop (Ex.if_tt (EvT.or_tt (EvT.cmp' (Ev.local hE (by rfl)) Ev.int OpC.lt_int (decide_eq_true c1))) (Exs.stop (Ex.ret (Ev.list EvArgs.nil rfl (Nat.zero_le _)) rfl)))
    · by_cases c2 : c > ((n + 1 : Nat) : Int)
      · rw [if_pos (.inr c2)]
        exact Exs.stop (Ex.if_tt (EvT.or_ff (EvT.cmp' (Ev.local hE (by rfl)) Ev.int OpC.lt_int (decide_eq_false c1)) (EvT.cmp' (Ev.local hE (by rfl)) (Ev.local hE (by rfl)) OpC.gt_int (decide_eq_true c2))) (Exs.stop (Ex.ret (Ev.list EvArgs.nil rfl (Nat.zero_le _)) rfl)))
      · rw [if_neg (by omega)]
        refine Exs.cons (Ex.if_ff (EvT.or_ff (EvT.cmp' (Ev.local hE (by rfl)) Ev.int OpC.lt_int (decide_eq_false c1)) (EvT.cmp' (Ev.local hE (by rfl)) (Ev.local hE (by rfl)) OpC.gt_int (decide_eq_false c2))) Exs.nil) ?_
        refine Exs.cons (Ex.if_ff (EvT.cmp' (b' := false) (Ev.local hE (by rfl)) Ev.int OpC.eq_int (by simp; omega)) Exs.nil) ?_
        have h1 := levelW_size n (c - 1)
        have h2 := levelW_size n c
        have hp2 : 2 ^ n ≤ 1024 := Nat.le_trans (Nat.pow_le_pow_right (by omega) (show n ≤ 10 by omega)) (by decide)
        have half : ∀ (b : Nat) (ws : List (List Nat)), (∀ l ∈ ws, l.length ≤ 10) → ((ws.map fun l => PV.str (W l)).filter (fun _ => true)).map (fun p => match p with | .str x => PV.str (W [b] ++ x) | p => p) = (ws.map (b :: ·)).map fun l => PV.str (W l) := by
          intro b ws _
          rw [List.filter_eq_self.mpr (by intros; rfl), List.map_map, List.map_map]
          refine List.map_congr_left fun l _ => ?_
          show PV.str (W [b] ++ W l) = PV.str (W (b :: l))
          rw [W_app]; rfl
        have hlen1 : ∀ l ∈ levelW n (c - 1), l.length ≤ 10 := fun l hl => by rw [levelW_len n _ l hl]; omega
        have hlen2 : ∀ l ∈ levelW n c, l.length ≤ 10 := fun l hl => by rw [levelW_len n _ l hl]; omega
        have e1 : ((n + 1 : Nat) : Int) - 1 = (n : Int) := by omega
        have dec : OpB prog w (A.deeper (lvEnv L f cd)) .Sub (.int ((n + 1 : Nat) : Int)) (.int 1) (.int (n : Int)) := e1 ▸ OpB.sub_int
        have eall : wordsPV ((levelW n (c - 1)).map (41 :: ·) ++ (levelW n c).map (40 :: ·)) = .list ((((levelW n (c - 1)).map fun l => PV.str (W l)).filter (fun _ => true)).map (fun p => match p with | .str x => PV.str (W [41] ++ x) | p => p) ++ (((levelW n c).map fun l => PV.str (W l)).filter (fun _ => true)).map (fun p => match p with | .str x => PV.str (W [40] ++ x) | p => p)) := by
          rw [half 41 _ hlen1, half 40 _ hlen2]
          unfold wordsPV
          rw [List.map_append]
        rw [eall]
        have comp : ∀ (b : Nat) (ws : List (List Nat)), (∀ l ∈ ws, l.length ≤ 10) → ∀ (x : Str) (k : Nat) (kp bp : Pos) (wp : Pos) (scope : Scope) (cl : List (Str × Addr)), x = W [b] → scope.names.lookup (Str.ofString "word") = some .local → scope.kind = .function →
            CompS prog w h₀ (A.deeper (lvEnv L f cd)) (lvEnv L f cd) [(Str.ofString "size", .int ((n + 1 : Nat) : Int)), (Str.ofString "count", .int c)] (Str.ofString "word") [] (.BinOp (.Constant (.str x) k kp) .Add (.Name (Str.ofString "word") wp) bp) scope cl [] (ws.map fun l => PV.str (W l)) (fun _ => true) (fun p => match p with | .str x => PV.str (W [b] ++ x) | p => p) := by
          intro b ws hws x k kp bp wp scope cl hx hw hk
          subst hx
          refine ⟨fun y p e => by simp at e, ?_, ?_, ?_, ?_⟩
          · intro p hp; obtain ⟨l, _, rfl⟩ := List.mem_map.mp hp; rfl
          · intro C p hp; exact .inl ⟨rfl, rfl⟩
          · intro C p hp _
            obtain ⟨l, hl, rfl⟩ := List.mem_map.mp hp
            have := hws l hl
            refine Ev.bin Ev.str (Ev.local (compEnvOk hE hk) (by rfl)) (OpB.add_str ?_)
            rw [W_len, W_len, sizeLine_eq]; simp; omega
          · intro p hp _; obtain ⟨l, _, rfl⟩ := List.mem_map.mp hp; rfl
        refine Exs.stop (Ex.ret (Ev.bin (Ev.comp (comp 41 _ hlen1 _ _ _ _ _ _ _ s41 (by rfl) (by rfl)) (EvW.list (Ev.callF (Ev.global hB hE hf (by rfl)) F.isFn (EvArgs.cons (Ev.bin (Ev.local hE (by rfl)) Ev.int dec) (EvArgs.cons (Ev.bin (Ev.local hE (by rfl)) Ev.int OpB.sub_int) EvArgs.nil)) rfl (ih _ (c - 1) (by omega) hh (by rw [hd]; omega))) hh) (by rfl) (by decide) (by rfl) (by decide) (by rfl) (by rw [List.length_map, sizeLine_eq]; omega))
          (Ev.comp (comp 40 _ hlen2 _ _ _ _ _ _ _ s40 (by rfl) (by rfl)) (EvW.list (Ev.callF (Ev.global hB hE hf (by rfl)) F.isFn (EvArgs.cons (Ev.bin (Ev.local hE (by rfl)) Ev.int dec) (EvArgs.cons (Ev.local hE (by rfl)) EvArgs.nil)) rfl (ih _ c (by omega) hh (by rw [hd]; omega))) hh) (by rfl) (by decide) (by rfl) (by decide) (by rfl) (by rw [List.length_map, sizeLine_eq]; omega)) (OpB.add_list rfl rfl ?_)) rfl)
        rw [half 41 _ hlen1, half 40 _ hlen2, List.length_map, List.length_map, List.length_map, List.length_map, sizeLine_eq]
        omega
end
end Mine
end
section
open PySem PySem.W PyProof.Rows PySem.Spec PySem.Calls
set_option maxRecDepth 100000
set_option maxHeartbeats 2000000
namespace Mine
theorem pick_run {α : Type} (xs : List α) (a : Nat) : ∀ k : Nat, ((List.range k).map (a + ·)).filterMap (xs[·]?) = (xs.drop a).take k
  | 0 => rfl
  | k + 1 => by
    rw [List.range_succ, List.map_append, List.filterMap_append, pick_run xs a k, List.take_add_one, List.getElem?_drop]
    have : ([k].map (a + ·)).filterMap (xs[·]?) = xs[a + k]?.toList := by
      simp only [List.map_cons, List.map_nil, List.filterMap_cons, List.filterMap_nil]
      cases xs[a + k]? <;> rfl
    rw [this]
theorem sliceL_from {α : Type} (xs : List α) (a : Nat) : sliceL xs (some (a : Int)) none none = xs.drop a := by
  unfold sliceL
  rw [sliceBounds_plain]
  simp only [Option.elim]
  rw [sliceRange_one, pick_run]
  have : clipAt xs.length (a : Int) = min a xs.length := clipAt_nat _ _
  rw [this]
  rcases Nat.le_total a xs.length with h | h
  · rw [Nat.min_eq_left h, List.take_of_length_le (by simp)]
  · rw [Nat.min_eq_right h, List.drop_eq_nil_of_le (Nat.le_refl _), List.drop_eq_nil_of_le h, List.take_nil]
theorem sliceL_upto {α : Type} (xs : List α) (a : Nat) : sliceL xs none (some (a : Int)) none = xs.take a := by
  unfold sliceL
  rw [sliceBounds_plain]
  simp only [Option.elim]
  rw [sliceRange_one, pick_run]
  have : clipAt xs.length (a : Int) = min a xs.length := clipAt_nat _ _
  rw [this, List.drop_zero, Nat.sub_zero]
  rcases Nat.le_total a xs.length with h | h
  · rw [Nat.min_eq_left h]
  · rw [Nat.min_eq_right h, List.take_of_length_le h, List.take_of_length_le (Nat.le_refl _)]
theorem fm_congr {α β : Type} {f g : α → Option β} : ∀ {l : List α}, (∀ x ∈ l, f x = g x) → l.filterMap f = l.filterMap g
  | [], _ => rfl
  | x :: r, h => by
    have h1 := h x (.head _)
    have h2 := fm_congr (l := r) fun y hy => h y (.tail _ hy)
    simp only [List.filterMap_cons, h1, h2]
theorem sliceL_rev {α : Type} (xs : List α) : sliceL xs none none (some (-1)) = xs.reverse := by
  unfold sliceL
  have e : sliceBounds none none (some (-1)) xs.length = ((xs.length : Int) - 1, -1, -1) := rfl
  rw [e]
  unfold sliceRange
  simp only [show ¬ ((-1 : Int) > 0) by decide, if_false]
  have hc : (if (xs.length : Int) - 1 > -1 then ((xs.length : Int) - 1 - -1 - -1 - 1) / (- -1) else 0).toNat = xs.length := by
    by_cases h : (xs.length : Int) - 1 > -1
    · rw [if_pos h]; simp
    · rw [if_neg h]; omega
  rw [hc]
  have h2 := pick_run xs.reverse 0 xs.length
  rw [List.drop_zero, List.take_of_length_le (by simp)] at h2
  rw [← h2, List.filterMap_map, List.filterMap_map]
  refine fm_congr fun k hk => ?_
  have hk' : k < xs.length := by simpa using hk
  simp only [Function.comp, Nat.zero_add]
  rw [List.getElem?_reverse hk']
  congr 1
  omega
theorem sliceS_eq (l : List Nat) (lo hi : Option Int) (r : List Nat) (h : sliceL l lo hi none = r) : sliceS (W l) lo hi = W r := by
  have e : Builtin.Str.strSliceIndices lo hi 1 l.length = sliceRange (sliceBounds lo hi none l.length).1 (sliceBounds lo hi none l.length).2.1 (sliceBounds lo hi none l.length).2.2 := by
    unfold Builtin.Str.strSliceIndices sliceBounds
    rfl
  have e2 : (Builtin.Str.strSliceIndices lo hi 1 l.length).filterMap (l[·]?) = r := by rw [e]; exact h
  unfold sliceS
  rw [W_len]
  simp only
  by_cases c : ((Builtin.Str.strSliceIndices lo hi 1 l.length).length == l.length) = true
  · rw [if_pos c]
    -- as many places as there are signs: the whole
    have hle : r.length ≤ l.length := by
      rw [← e2]
      refine Nat.le_trans (List.length_filterMap_le _ _) ?_
      exact Nat.le_of_eq (beq_iff_eq.mp c)
    have hw : l = r := by
      rw [← h]
      unfold sliceL
      have hb := sliceBounds_plain lo hi l.length
      rw [e, hb] at c
      rw [hb]
      simp only at c ⊢
      rw [sliceRange_one] at c ⊢
      rw [pick_run]
      have c' := beq_iff_eq.mp c
      rw [List.length_map, List.length_range] at c'
      have hcl : ∀ i, clipAt l.length i ≤ l.length := fun i => by
        unfold clipAt; split <;> omega
      have h1 : (hi.elim l.length (clipAt l.length)) ≤ l.length := by
        cases hi with
        | none => exact Nat.le_refl _
        | some i => exact hcl i
      generalize hi.elim l.length (clipAt l.length) = b at *
      generalize lo.elim 0 (clipAt l.length) = a at *
      rcases Nat.eq_zero_or_pos l.length with z | z
      · have : l = [] := List.length_eq_zero_iff.mp z
        subst this; simp
      · have ha : a = 0 := by omega
        have hb' : b = l.length := by omega
        subst ha hb'
        simp
    rw [hw]
  · rw [if_neg c]
    simp only [W_at]
    rw [e2]; rfl
theorem sliceS_from (l : List Nat) (a : Nat) : sliceS (W l) (some (a : Int)) none = W (l.drop a) := sliceS_eq _ _ _ _ (sliceL_from l a)
theorem sliceS_upto (l : List Nat) (a : Nat) : sliceS (W l) none (some (a : Int)) = W (l.take a) := sliceS_eq _ _ _ _ (sliceL_upto l a)

def spareN : List Int := [8, 217, 3, 17, 48]
def drawnN (ns : List Int) : List Int := (ns.take 5).map (fun x => x.fmod 1000000) ++ spareN.drop (ns.take 5).length
def spElts : List Expr := eltsOf ((fb 15).getD 0 (.Pass ⟨0, 0, 0, 0⟩))
theorem spElts_eq : spElts = (spareN.zip (spElts.map posOf)).map fun x => Expr.Constant (.int x.1) 0 x.2 := rfl
theorem sp_zip : ((spareN.zip (spElts.map posOf)).map fun x => PV.int x.1) = spareN.map .int := rfl
section
variable {prog : Program} {w : World} {h₀ : Heap} {mg mb : Str → Option Value} {A : Around} {env : Env} {loc : Loc}
abbrev drEnv (L f : Addr) (cd : Value) : Env := fenv (Str.ofString "_law_drawn") (fs 15) L f cd
theorem Ev.lenL {np pos : Pos} {e : Expr} {p : PV} {xs : List PV} (hB : Base h₀ mg mb) (hE : EnvOk env) (hlen : mg "len" = Option.none) (hlenb : mb "len" = Option.some (.builtin "len")) (he : Ev prog w h₀ A env loc e p) (ha : asL p = Option.some xs) (hl : xs.length < 100000)
    (hx : env.kindOf (Str.ofString "len") = Option.some .globalImplicit) (hst : starEach [e] env = (false, eval e env) :: starEach [] env := by rfl) : Ev prog w h₀ A env loc (.Call (.Name (Str.ofString "len") np) [e] [] pos) (.int (xs.length : Nat)) :=
  Ev.callB (rest := []) (pos := pos) (Ev.builtin hB hE hlen hlenb (pos := np) hx) (EvArgs.cons (hst := hst) he EvArgs.nil) (OpF.len_list ha (by omega)) (by rfl) hst
theorem drawn_spec {f : Addr} (F : FnIs h₀ f "_law_drawn" 15 .none .none) (hB : Base h₀ mg mb) (hlen : mg "len" = none) (hlenb : mb "len" = some (.builtin "len")) (hh : A.handled = none) (hroom : A.depth < recursionLimit) {ns : List Int} (hn : ns.length ≤ 100) :
    Calls prog w h₀ A f [.list (ns.map .int)] [] (.list ((drawnN ns).map .int)) := by
  refine Calls.intro F hB hroom (l := [(Str.ofString "script", .list (ns.map .int))]) (l' := [(Str.ofString "spare", .list (spareN.map .int)), (Str.ofString "script", .list (ns.map .int))]) (r := .ret (.list ((drawnN ns).map .int))) (BindsP.pos1 ?_ (by rfl)) (fun L cd => ?_)
  · rintro ⟨nm, qn, ps, bd, sc, gl, cl, df, kd, doc, pm, an, cd, ct, bi⟩ v h1 h2 h3
    simp only at h1 h2 h3
    subst h1 h2 h3
    rfl
  · have hE := fenvOk (name := Str.ofString "_law_drawn") (L := L) (f := f) (cd := cd) F.kind
    have hz : (ns.map PV.int).length ≤ sizeLine := by rw [List.length_map, sizeLine_eq]; omega
    show Exs _ _ _ _ _ _ (.Assign [.Name (Str.ofString "spare") ⟨75, 4, 75, 9⟩] (.List spElts ⟨75, 12, 75, 31⟩) ⟨75, 4, 75, 31⟩ :: _) _ _
    have hsw : swapsWith (.List spElts ⟨75, 12, 75, 31⟩) (some (.Name (Str.ofString "spare") ⟨75, 4, 75, 9⟩)) (⟨75, 4, 75, 31⟩ : Pos).line (drEnv L f cd) = Pure.pure false := rfl
    obtain ⟨zz, hz2⟩ : ∃ zz, zz = spareN.zip (spElts.map posOf) := ⟨_, rfl⟩
    have e1 : spElts = zz.map fun x => Expr.Constant (.int x.1) 0 x.2 := by rw [hz2]; exact spElts_eq
    have e2 : zz.map (fun x => PV.int x.1) = spareN.map .int := by rw [hz2]; exact sp_zip
    revert e1 hsw
    generalize spElts = elts
    intro hsw e1
    have hm : EvArgs prog w h₀ (A.deeper (drEnv L f cd)) (drEnv L f cd) [(Str.ofString "script", .list (ns.map .int))] elts (spareN.map .int) := by
      rw [e1, ← e2]
      exact EvArgs.intsC zz
    have t5 : sliceL (ns.map PV.int) none (some ((5 : Nat) : Int)) none = (ns.take 5).map .int := by rw [sliceL_upto, List.map_take]
    have hl5 : (ns.take 5).length ≤ 5 := by rw [List.length_take]; omega
    have eall : (drawnN ns).map PV.int = ((((ns.take 5).map PV.int).filter (fun _ => true)).map (fun p => match p with | .int x => PV.int (x.fmod 1000000) | p => p)) ++ (spareN.drop (ns.take 5).length).map .int := by
      rw [List.filter_eq_self.mpr (by intros; rfl)]
      unfold drawnN
      rw [List.map_append, List.map_map, List.map_map]
      rfl
    have td : sliceL (spareN.map PV.int) (some (((ns.take 5).length : Nat) : Int)) none none = (spareN.drop (ns.take 5).length).map .int := by rw [sliceL_from, List.map_drop]
    refine Exs.cons (loc₁ := [(Str.ofString "spare", .list (spareN.map .int)), (Str.ofString "script", .list (ns.map .int))]) (Ex.assign (Ev.list hm (by rfl) (by rw [sizeLine_eq]; decide)) hE rfl (.inl (by rfl)) hsw) ?_
    have hsl : ∀ {value : Expr} {sp pos : Pos} {k : Nat} {kp : Pos} (hv : Ev prog w h₀ (A.deeper (drEnv L f cd)) (drEnv L f cd) [(Str.ofString "spare", .list (spareN.map .int)), (Str.ofString "script", .list (ns.map .int))] value (.list (ns.map .int))) (hs : ∀ a b, subscripted (.Slice none (some (.Constant (.int 5) k kp)) none sp) false (.ref a) (.ref b) = operate [.ref b, .ref a] (getItem (.ref a) (.ref b))), Ev prog w h₀ (A.deeper (drEnv L f cd)) (drEnv L f cd) [(Str.ofString "spare", .list (spareN.map .int)), (Str.ofString "script", .list (ns.map .int))] (.Subscript value (.Slice none (some (.Constant (.int 5) k kp)) none sp) pos) (.list ((ns.take 5).map .int)) := by
      intro value sp pos k kp hv hs
      rw [← t5]
      exact Ev.slice_list hv rfl EvP.none (EvP.some Ev.int) EvP.none (by simp) hz hs
    rw [eall]
    refine Exs.stop (Ex.ret (Ev.bin (Ev.comp (loc' := []) ?_ (EvW.list (hsl (Ev.local hE (by rfl)) (by intros; with_unfolding_all rfl)) hh) (by rfl) (by decide) (by rfl) (by decide) (by rfl) (by rw [List.length_map, sizeLine_eq]; omega)) (q := .list ((spareN.drop (ns.take 5).length).map .int)) ?_ (OpB.add_list rfl rfl ?_)) rfl)
    · refine ⟨fun y p e => by simp at e, ?_, ?_, ?_, ?_⟩
      · intro p hp; obtain ⟨x, _, rfl⟩ := List.mem_map.mp hp; rfl
      · intro C p hp; exact .inl ⟨rfl, rfl⟩
      · intro C p hp _
        obtain ⟨x, _, rfl⟩ := List.mem_map.mp hp
        exact Ev.bin (Ev.local (compEnvOk hE (by rfl)) (by rfl)) Ev.int (OpB.mod_int (by decide))
      · intro p hp _; obtain ⟨x, _, rfl⟩ := List.mem_map.mp hp; rfl
    · rw [← td]
      have el : ((ns.take 5).map PV.int).length = (ns.take 5).length := by simp
      refine Ev.slice_list (Ev.local hE (by rfl)) rfl (EvP.some (el ▸ Ev.lenL hB hE hlen hlenb (hsl (Ev.local hE (by rfl)) (by intros; with_unfolding_all rfl)) rfl (by rw [el]; omega) (by rfl))) EvP.none EvP.none (by simp) (by rw [List.length_map, sizeLine_eq]; decide)
    · have h1 := List.length_filter_le (fun _ => true) ((ns.take 5).map PV.int)
      rw [List.length_map] at h1
      rw [List.length_map, List.length_map, List.length_drop, sizeLine_eq]
      have : spareN.length = 5 := rfl
      omega
end
end Mine
end
section
open PySem PySem.W PyProof.Rows
set_option maxRecDepth 100000
set_option maxHeartbeats 8000000
namespace Mine
open_top MineHd for PySem.Challenge.rw_wu0036_01
end Mine
end
section
open PySem PySem.W PyProof.Rows PySem.Spec PySem.Calls
set_option maxRecDepth 100000
set_option maxHeartbeats 4000000
namespace Mine
/-- what stands in the heap when law is called -/
structure Tops (h₀ : Heap) (mg mb : Str → Option Value) : Prop where
  base : Base h₀ mg mb
  fstrxfrm : FnIs h₀ 93 "_strxfrm" 13 .none .none
  fstrcoll : FnIs h₀ 86 "_strcoll" 12 .none .none
  fparen_depth : FnIs h₀ 44 "_paren_depth" 3 (.ref 37) .none
  finsort_right : FnIs h₀ 53 "insort_right" 5 (.ref 45) (.ref 46)
  fbisect_right : FnIs h₀ 62 "bisect_right" 6 (.ref 54) (.ref 55)
  fbisect_left : FnIs h₀ 71 "bisect_left" 7 (.ref 63) (.ref 64)
  fpretty_flags : FnIs h₀ 79 "pretty_flags" 10 .none .none
  flaw_drawn : FnIs h₀ 98 "_law_drawn" 15 .none .none
  flaw_level : FnIs h₀ 103 "_law_level" 16 .none .none
  flaw_open : FnIs h₀ 110 "_law_open" 17 .none .none
  flaw_flags : FnIs h₀ 115 "_law_flags" 18 .none .none
  flaw_names : FnIs h₀ 120 "_law_names" 19 .none .none
  flaw : FnIs h₀ 125 "law" 20 .none .none
  t37 : TupAt h₀ 37 #[.int 0 328]
  t45 : TupAt h₀ 45 #[.int 0 339, .none]
  t54 : TupAt h₀ 54 #[.int 0 352, .none]
  t63 : TupAt h₀ 63 #[.int 0 366, .none]
  k55 : KeyAt h₀ 55
  k64 : KeyAt h₀ 64
  pat : Rx.PatAt h₀ 36 35
  nms : NamesAt h₀ 72
  gstrxfrm : mg "_strxfrm" = some (.ref 93)
  gstrcoll : mg "_strcoll" = some (.ref 86)
  gparen_depth : mg "_paren_depth" = some (.ref 44)
  ginsort_right : mg "insort_right" = some (.ref 53)
  gbisect_right : mg "bisect_right" = some (.ref 62)
  gbisect_left : mg "bisect_left" = some (.ref 71)
  gpretty_flags : mg "pretty_flags" = some (.ref 79)
  glaw_drawn : mg "_law_drawn" = some (.ref 98)
  glaw_level : mg "_law_level" = some (.ref 103)
  glaw_open : mg "_law_open" = some (.ref 110)
  glaw_flags : mg "_law_flags" = some (.ref 115)
  glaw_names : mg "_law_names" = some (.ref 120)
  glaw : mg "law" = some (.ref 125)
  gquoted : mg "_quoted" = some (.ref 36)
  gCOMPILER_FLAG_NAMES : mg "COMPILER_FLAG_NAMES" = some (.ref 72)
  nlen : mg "len" = none
  blen : mb "len" = some (.builtin "len")
  nrange : mg "range" = none
  brange : mb "range" = some (.type "range")
  nsum : mg "sum" = none
  bsum : mb "sum" = some (.builtin "sum")
  nmin : mg "min" = none
  bmin : mb "min" = some (.builtin "min")
  nhex : mg "hex" = none
  bhex : mb "hex" = some (.builtin "hex")
  nisinstance : mg "isinstance" = none
  bisinstance : mb "isinstance" = some (.builtin "isinstance")
  nbool : mg "bool" = none
  bbool : mb "bool" = some (.type "bool")
section
variable {P : Params} {h₀ : Heap} {mg mb : Str → Option Value}
theorem at_of {h₀ : Heap} (K : (MineHd.heap_39 P).In h₀) {a : Addr} {o : Obj} (e : (MineHd.heap_39 P).lookup a = some o) : h₀.get? a = some o := K a o e
theorem mg_of (K : (MineHd.heap_39 P).In h₀) (hg : h₀.Ns mainGlobals mg) {x : Str} {r : Option Value} {o : Obj} {es : Array DictEntry} {n : Nat} (e : (MineHd.heap_39 P).lookup 3 = some o) (hd : o.data = .dict es n) (hf : nsFind es x = r) : mg x = r := by
  obtain ⟨o', es', ep', ho', hd', _, hf'⟩ := hg
  rw [show mainGlobals = 3 from rfl, at_of K e] at ho'
  cases ho'
  rw [hd] at hd'
  cases hd'
  rw [← hf', hf]
theorem names_at (K : (MineHd.heap_39 P).In h₀) : NamesAt h₀ 72 := by
  refine ⟨by decide, fun prog w => ⟨_, ⟨_, _, _, at_of K rfl, ⟨rfl, rfl, rfl⟩, rfl, ?_, fun k => rfl⟩, ?_⟩⟩
  · intro e he
    simp only [List.mem_toArray, List.mem_cons, List.not_mem_nil, or_false] at he
    rcases he with rfl | rfl | rfl | rfl | rfl | rfl | rfl | rfl | rfl | rfl
    · exact ⟨1, intKind_is _ _ _ _, rfl⟩
    · exact ⟨2, intKind_is _ _ _ _, rfl⟩
    · exact ⟨4, intKind_is _ _ _ _, rfl⟩
    · exact ⟨8, intKind_is _ _ _ _, rfl⟩
    · exact ⟨16, intKind_is _ _ _ _, rfl⟩
    · exact ⟨32, intKind_is _ _ _ _, rfl⟩
    · exact ⟨64, intKind_is _ _ _ _, rfl⟩
    · exact ⟨128, intKind_is _ _ _ _, rfl⟩
    · exact ⟨256, intKind_is _ _ _ _, rfl⟩
    · exact ⟨512, intKind_is _ _ _ _, rfl⟩
  · intro i hi
    have hc : i = 0 ∨ i = 1 ∨ i = 2 ∨ i = 3 ∨ i = 4 ∨ i = 5 ∨ i = 6 ∨ i = 7 ∨ i = 8 ∨ i = 9 ∨ i = 10 ∨ i = 11 ∨ i = 12 ∨ i = 13 ∨ i = 14 ∨ i = 15 ∨ i = 16 ∨ i = 17 ∨ i = 18 ∨ i = 19 ∨ i = 20 ∨ i = 21 ∨ i = 22 ∨ i = 23 ∨ i = 24 ∨ i = 25 ∨ i = 26 ∨ i = 27 ∨ i = 28 ∨ i = 29 ∨ i = 30 ∨ i = 31 := by omega
    rcases hc with rfl | rfl | rfl | rfl | rfl | rfl | rfl | rfl | rfl | rfl | rfl | rfl | rfl | rfl | rfl | rfl | rfl | rfl | rfl | rfl | rfl | rfl | rfl | rfl | rfl | rfl | rfl | rfl | rfl | rfl | rfl | rfl
    · exact ⟨fun v hv => ⟨383, Option.some.inj (hv.symm.trans (show _ = some (Value.str (nmAt 0) 383) from rfl))⟩, fun hv => by cases hv.symm.trans (show _ = some (Value.str (nmAt 0) 383) from rfl)⟩
    · exact ⟨fun v hv => ⟨385, Option.some.inj (hv.symm.trans (show _ = some (Value.str (nmAt 1) 385) from rfl))⟩, fun hv => by cases hv.symm.trans (show _ = some (Value.str (nmAt 1) 385) from rfl)⟩
    · exact ⟨fun v hv => ⟨387, Option.some.inj (hv.symm.trans (show _ = some (Value.str (nmAt 2) 387) from rfl))⟩, fun hv => by cases hv.symm.trans (show _ = some (Value.str (nmAt 2) 387) from rfl)⟩
    · exact ⟨fun v hv => ⟨389, Option.some.inj (hv.symm.trans (show _ = some (Value.str (nmAt 3) 389) from rfl))⟩, fun hv => by cases hv.symm.trans (show _ = some (Value.str (nmAt 3) 389) from rfl)⟩
    · exact ⟨fun v hv => ⟨391, Option.some.inj (hv.symm.trans (show _ = some (Value.str (nmAt 4) 391) from rfl))⟩, fun hv => by cases hv.symm.trans (show _ = some (Value.str (nmAt 4) 391) from rfl)⟩
    · exact ⟨fun v hv => ⟨393, Option.some.inj (hv.symm.trans (show _ = some (Value.str (nmAt 5) 393) from rfl))⟩, fun hv => by cases hv.symm.trans (show _ = some (Value.str (nmAt 5) 393) from rfl)⟩
    · exact ⟨fun v hv => ⟨395, Option.some.inj (hv.symm.trans (show _ = some (Value.str (nmAt 6) 395) from rfl))⟩, fun hv => by cases hv.symm.trans (show _ = some (Value.str (nmAt 6) 395) from rfl)⟩
    · exact ⟨fun v hv => ⟨397, Option.some.inj (hv.symm.trans (show _ = some (Value.str (nmAt 7) 397) from rfl))⟩, fun hv => by cases hv.symm.trans (show _ = some (Value.str (nmAt 7) 397) from rfl)⟩
    · exact ⟨fun v hv => ⟨399, Option.some.inj (hv.symm.trans (show _ = some (Value.str (nmAt 8) 399) from rfl))⟩, fun hv => by cases hv.symm.trans (show _ = some (Value.str (nmAt 8) 399) from rfl)⟩
    · exact ⟨fun v hv => ⟨401, Option.some.inj (hv.symm.trans (show _ = some (Value.str (nmAt 9) 401) from rfl))⟩, fun hv => by cases hv.symm.trans (show _ = some (Value.str (nmAt 9) 401) from rfl)⟩
    · exact ⟨fun v hv => (by cases hv.symm.trans (show _ = (none : Option Value) from rfl)), fun _ => rfl⟩
    · exact ⟨fun v hv => (by cases hv.symm.trans (show _ = (none : Option Value) from rfl)), fun _ => rfl⟩
    · exact ⟨fun v hv => (by cases hv.symm.trans (show _ = (none : Option Value) from rfl)), fun _ => rfl⟩
    · exact ⟨fun v hv => (by cases hv.symm.trans (show _ = (none : Option Value) from rfl)), fun _ => rfl⟩
    · exact ⟨fun v hv => (by cases hv.symm.trans (show _ = (none : Option Value) from rfl)), fun _ => rfl⟩
    · exact ⟨fun v hv => (by cases hv.symm.trans (show _ = (none : Option Value) from rfl)), fun _ => rfl⟩
    · exact ⟨fun v hv => (by cases hv.symm.trans (show _ = (none : Option Value) from rfl)), fun _ => rfl⟩
    · exact ⟨fun v hv => (by cases hv.symm.trans (show _ = (none : Option Value) from rfl)), fun _ => rfl⟩
    · exact ⟨fun v hv => (by cases hv.symm.trans (show _ = (none : Option Value) from rfl)), fun _ => rfl⟩
    · exact ⟨fun v hv => (by cases hv.symm.trans (show _ = (none : Option Value) from rfl)), fun _ => rfl⟩
    · exact ⟨fun v hv => (by cases hv.symm.trans (show _ = (none : Option Value) from rfl)), fun _ => rfl⟩
    · exact ⟨fun v hv => (by cases hv.symm.trans (show _ = (none : Option Value) from rfl)), fun _ => rfl⟩
    · exact ⟨fun v hv => (by cases hv.symm.trans (show _ = (none : Option Value) from rfl)), fun _ => rfl⟩
    · exact ⟨fun v hv => (by cases hv.symm.trans (show _ = (none : Option Value) from rfl)), fun _ => rfl⟩
    · exact ⟨fun v hv => (by cases hv.symm.trans (show _ = (none : Option Value) from rfl)), fun _ => rfl⟩
    · exact ⟨fun v hv => (by cases hv.symm.trans (show _ = (none : Option Value) from rfl)), fun _ => rfl⟩
    · exact ⟨fun v hv => (by cases hv.symm.trans (show _ = (none : Option Value) from rfl)), fun _ => rfl⟩
    · exact ⟨fun v hv => (by cases hv.symm.trans (show _ = (none : Option Value) from rfl)), fun _ => rfl⟩
    · exact ⟨fun v hv => (by cases hv.symm.trans (show _ = (none : Option Value) from rfl)), fun _ => rfl⟩
    · exact ⟨fun v hv => (by cases hv.symm.trans (show _ = (none : Option Value) from rfl)), fun _ => rfl⟩
    · exact ⟨fun v hv => (by cases hv.symm.trans (show _ = (none : Option Value) from rfl)), fun _ => rfl⟩
    · exact ⟨fun v hv => (by cases hv.symm.trans (show _ = (none : Option Value) from rfl)), fun _ => rfl⟩
theorem tops_of {p : Program} {loose : List Str} {mean : ExcName → Option Value} (K : (MineHd.heap_39 P).In h₀) (T : Top p loose mean mg mb h₀) : Tops h₀ mg mb where
  base := ⟨T.g, T.b, T.nolimit⟩
  fstrxfrm := ⟨⟨_, _, at_of K rfl, rfl, rfl, rfl, rfl, rfl, rfl, rfl, rfl, rfl, rfl, ⟨_, _, _, _, rfl, at_of K rfl, rfl, rfl⟩⟩, rfl, rfl, rfl, by decide⟩
  fstrcoll := ⟨⟨_, _, at_of K rfl, rfl, rfl, rfl, rfl, rfl, rfl, rfl, rfl, rfl, rfl, ⟨_, _, _, _, rfl, at_of K rfl, rfl, rfl⟩⟩, rfl, rfl, rfl, by decide⟩
  fparen_depth := ⟨⟨_, _, at_of K rfl, rfl, rfl, rfl, rfl, rfl, rfl, rfl, rfl, rfl, rfl, ⟨_, _, _, _, rfl, at_of K rfl, rfl, rfl⟩⟩, rfl, rfl, rfl, by decide⟩
  finsort_right := ⟨⟨_, _, at_of K rfl, rfl, rfl, rfl, rfl, rfl, rfl, rfl, rfl, rfl, rfl, ⟨_, _, _, _, rfl, at_of K rfl, rfl, rfl⟩⟩, rfl, rfl, rfl, by decide⟩
  fbisect_right := ⟨⟨_, _, at_of K rfl, rfl, rfl, rfl, rfl, rfl, rfl, rfl, rfl, rfl, rfl, ⟨_, _, _, _, rfl, at_of K rfl, rfl, rfl⟩⟩, rfl, rfl, rfl, by decide⟩
  fbisect_left := ⟨⟨_, _, at_of K rfl, rfl, rfl, rfl, rfl, rfl, rfl, rfl, rfl, rfl, rfl, ⟨_, _, _, _, rfl, at_of K rfl, rfl, rfl⟩⟩, rfl, rfl, rfl, by decide⟩
  fpretty_flags := ⟨⟨_, _, at_of K rfl, rfl, rfl, rfl, rfl, rfl, rfl, rfl, rfl, rfl, rfl, ⟨_, _, _, _, rfl, at_of K rfl, rfl, rfl⟩⟩, rfl, rfl, rfl, by decide⟩
  flaw_drawn := ⟨⟨_, _, at_of K rfl, rfl, rfl, rfl, rfl, rfl, rfl, rfl, rfl, rfl, rfl, ⟨_, _, _, _, rfl, at_of K rfl, rfl, rfl⟩⟩, rfl, rfl, rfl, by decide⟩
  flaw_level := ⟨⟨_, _, at_of K rfl, rfl, rfl, rfl, rfl, rfl, rfl, rfl, rfl, rfl, rfl, ⟨_, _, _, _, rfl, at_of K rfl, rfl, rfl⟩⟩, rfl, rfl, rfl, by decide⟩
  flaw_open := ⟨⟨_, _, at_of K rfl, rfl, rfl, rfl, rfl, rfl, rfl, rfl, rfl, rfl, rfl, ⟨_, _, _, _, rfl, at_of K rfl, rfl, rfl⟩⟩, rfl, rfl, rfl, by decide⟩
  flaw_flags := ⟨⟨_, _, at_of K rfl, rfl, rfl, rfl, rfl, rfl, rfl, rfl, rfl, rfl, rfl, ⟨_, _, _, _, rfl, at_of K rfl, rfl, rfl⟩⟩, rfl, rfl, rfl, by decide⟩
  flaw_names := ⟨⟨_, _, at_of K rfl, rfl, rfl, rfl, rfl, rfl, rfl, rfl, rfl, rfl, rfl, ⟨_, _, _, _, rfl, at_of K rfl, rfl, rfl⟩⟩, rfl, rfl, rfl, by decide⟩
  flaw := ⟨⟨_, _, at_of K rfl, rfl, rfl, rfl, rfl, rfl, rfl, rfl, rfl, rfl, rfl, ⟨_, _, _, _, rfl, at_of K rfl, rfl, rfl⟩⟩, rfl, rfl, rfl, by decide⟩
  t37 := ⟨_, _, at_of K rfl, rfl⟩
  t45 := ⟨_, _, at_of K rfl, rfl⟩
  t54 := ⟨_, _, at_of K rfl, rfl⟩
  t63 := ⟨_, _, at_of K rfl, rfl⟩
  k55 := ⟨_, _, _, at_of K rfl⟩
  k64 := ⟨_, _, _, at_of K rfl⟩
  pat := ⟨⟨_, _, at_of K rfl, rfl, rfl, rfl, rfl, rfl, rfl⟩, ⟨_, _, _, at_of K rfl, rfl, by decide +kernel⟩⟩
  nms := names_at K
  gstrxfrm := mg_of K T.g rfl rfl rfl
  gstrcoll := mg_of K T.g rfl rfl rfl
  gparen_depth := mg_of K T.g rfl rfl rfl
  ginsort_right := mg_of K T.g rfl rfl rfl
  gbisect_right := mg_of K T.g rfl rfl rfl
  gbisect_left := mg_of K T.g rfl rfl rfl
  gpretty_flags := mg_of K T.g rfl rfl rfl
  glaw_drawn := mg_of K T.g rfl rfl rfl
  glaw_level := mg_of K T.g rfl rfl rfl
  glaw_open := mg_of K T.g rfl rfl rfl
  glaw_flags := mg_of K T.g rfl rfl rfl
  glaw_names := mg_of K T.g rfl rfl rfl
  glaw := mg_of K T.g rfl rfl rfl
  gquoted := mg_of K T.g rfl rfl rfl
  gCOMPILER_FLAG_NAMES := mg_of K T.g rfl rfl rfl
  nlen := mg_of K T.g rfl rfl rfl
  blen := (T.builtins _ (by decide)).trans (by kernel_rfl)
  nrange := mg_of K T.g rfl rfl rfl
  brange := (T.builtins _ (by decide)).trans (by kernel_rfl)
  nsum := mg_of K T.g rfl rfl rfl
  bsum := (T.builtins _ (by decide)).trans (by kernel_rfl)
  nmin := mg_of K T.g rfl rfl rfl
  bmin := (T.builtins _ (by decide)).trans (by kernel_rfl)
  nhex := mg_of K T.g rfl rfl rfl
  bhex := (T.builtins _ (by decide)).trans (by kernel_rfl)
  nisinstance := mg_of K T.g rfl rfl rfl
  bisinstance := (T.builtins _ (by decide)).trans (by kernel_rfl)
  nbool := mg_of K T.g rfl rfl rfl
  bbool := (T.builtins _ (by decide)).trans (by kernel_rfl)
end
end Mine
end
section
open PySem PySem.W PyProof.Rows PySem.Spec PySem.Calls
set_option maxRecDepth 100000
set_option maxHeartbeats 4000000
namespace Mine
theorem noI_bytes : typeLookup (.type "bytes") (dunderI "add") = pure none := by rw [typeLookup_type, builtinLookup_eq_fast]; kernel_rfl
section
variable {prog : Program} {w : World} {h₀ : Heap} {mg mb : Str → Option Value} {A : Around} {env : Env} {loc : Loc}
theorem aug_bytes {a b : Array UInt8} (h : a.size + b.size ≤ 16777216) : ∀ G (s : Shared) x y Q, Sub G s.heap → VRo G s.heap (.bytes a) x → VRo G s.heap (.bytes b) y → Gives G s (.bytes (a ++ b)) Q → wpAny (model prog w) A (inplaceOp .Add x y) Q NoE s := by
  intro G s x y Q S ha hb g; cases ha; cases hb
  rename_i t u
  have g' := fun t' k => g.here S k (VR.bytes (a ++ b) t')
  refine iconcat_gives (typeIs_bytes s a t) (typeIs_bytes s b u) noI_bytes KBy.noFill_bytes_add KBy.seq_bytes_add FB.slot_bytes_add FB.entry_bytes_add (FB.args_bytes_add_2 _ _) (KBy.gives_bytes_add (KBy.tooLong_not h)) ?_
  by_cases h1 : a.isEmpty = true
  · rw [if_pos h1]
    have e : a = #[] := Array.isEmpty_iff.1 h1
    have := g' u s.toks
    rw [e, Array.empty_append] at this
    exact this
  · rw [if_neg h1]
    by_cases h2 : b.isEmpty = true
    · rw [if_pos h2]
      have e : b = #[] := Array.isEmpty_iff.1 h2
      have := g' t s.toks
      rw [e, Array.append_empty] at this
      exact this
    · rw [if_neg h2]
      exact ⟨by rw [Array.size_append, sizeLine_eq]; exact h, g' s.toks (s.toks + 1)⟩
theorem fold_app (vs : List Value) : ∀ (n : Nat) (acc : List Value), (List.replicate n vs.toArray).foldl (fun x1 x2 => x1 ++ x2) acc.toArray = (acc ++ (List.replicate n vs).flatten).toArray
  | 0, acc => by simp
  | n + 1, acc => by
    rw [List.replicate_succ, List.foldl_cons]
    have : acc.toArray ++ vs.toArray = (acc ++ vs).toArray := by simp
    rw [this, fold_app vs n (acc ++ vs), List.replicate_succ, List.flatten_cons, List.append_assoc]
theorem OpB.mul_list {p : PV} {xs : List PV} {n : Int} (e : asL p = some xs) (hne : xs ≠ []) (h0 : 0 ≤ n) (hz : xs.length * n.toNat ≤ 1000) (hn : n ≤ 1000) : OpB prog w A .Mult p (.int n) (.list (List.replicate n.toNat xs).flatten) := by
  intro G s a b Q S ha hb g
  cases hb
  rename_i u
  obtain ⟨l, k, vs, rfl, ho, hv⟩ := ha.isL S e
  have hl := hv.length
  have hi : vs.toArray.isEmpty = false := by
    cases vs with
    | nil => cases xs with
      | nil => exact absurd rfl hne
      | cons a r => simp at hl
    | cons a r => rfl
  refine wpAny_binaryOp_repeat_ref (T := "list") (U := "int") (by decide) ⟨_, ho, rfl⟩ (fun s' => typeIs_int s' n u) noFill_list_mul PySem.F.fills_int_mul PySem.F.slot_int_rmul repeat_list PySem.F.slot_int_index.lookup
    (call_meets PySem.F.slot_int_rmul (typeIs_int s n u) PySem.F.entry_int_rmul (PySem.F.args_int_rmul_2 _ _) (int___rmul___int_list n u l vs.toArray k)
      ⟨ho, rfl, ⟨_, ho, rfl⟩, call_meets PySem.F.slot_list_mul ⟨_, ho, rfl⟩ PySem.F.entry_list_mul (PySem.F.args_list_mul_2 _ _)
        (AutoListH.list___mul___list_int_3 l vs.toArray k n u (by simp [Builtin.List.listFitsIndex]; omega) (by rw [List.size_toArray, hl]; omega) (by rw [List.size_toArray, hl]; simp [Builtin.List.listTooLong, sizeLine]; omega))
        ⟨ho, ?_⟩⟩)
  rw [hi]
  simp only [Bool.false_eq_true, if_false]
  have := fold_app vs n.toNat []
  rw [List.nil_append] at this
  rw [show (#[] : Array Value) = ([] : List Value).toArray from rfl, this]
  exact Gives.fresh g S (n := 0) (ext_push _ _) (get_size_none _) (Heap.get?_push_size _ rfl) (hv.replicate n.toNat)
end
end Mine
end
section
open PySem PySem.W PyProof.Rows PySem.Spec PySem.Calls
set_option maxRecDepth 100000
set_option maxHeartbeats 4000000
namespace Mine
-- (A) the words laid by insort
def ltN : List Nat → List Nat → Bool
  | _, [] => false
  | [], _ :: _ => true
  | a :: r, b :: t => Nat.blt a b || (Nat.beq a b && ltN r t)
theorem ltN_eq : ∀ a b : List Nat, ltN a b = decide (a < b)
  | [], [] => by simp [ltN]
  | a :: r, [] => by simp [ltN]
  | [], b :: t => by simp [ltN]
  | a :: r, b :: t => by
    have ih := ltN_eq r t
    unfold ltN
    rw [ih]
    by_cases h1 : a < b
    · have : Nat.blt a b = true := by simpa [Nat.blt_eq] using h1
      rw [this]
      simp [List.cons_lt_cons_iff, h1]
    · have : Nat.blt a b = false := by
        cases e : Nat.blt a b with
        | false => rfl
        | true => exact absurd (Nat.blt_eq.mp e) h1
      rw [this, Bool.false_or]
      by_cases h2 : a = b
      · subst h2
        simp [List.cons_lt_cons_iff]
      · have : Nat.beq a b = false := by
          cases e : Nat.beq a b with
          | false => rfl
          | true => exact absurd (Nat.eq_of_beq_eq_true e) h2
        rw [this]
        simp [List.cons_lt_cons_iff, h1, h2]
def insW (ys : List (List Nat)) (x : List Nat) : List (List Nat) := insAt ys (bisN (fun i => ltN x (ys.getD i [])) ys.length 0 ys.length) x
theorem insS_W (ys : List (List Nat)) (x : List Nat) : insS (ys.map W) (W x) = (insW ys x).map W := by
  unfold insS insW bisS
  have e : bisN (fun i => decide ((W x).cps.toList < ((ys.map W).getD i (Str.ofString "")).cps.toList)) (ys.map W).length 0 (ys.map W).length = bisN (fun i => ltN x (ys.getD i [])) ys.length 0 ys.length := by
    rw [List.length_map]
    refine bisN_congr (len := ys.length) (fun i hi => ?_) _ _ _ (Nat.le_refl _)
    rw [ltN_eq]
    have : ((ys.map W).getD i (Str.ofString "")) = W (ys.getD i []) := by
      rw [List.getD_eq_getElem?_getD, List.getD_eq_getElem?_getD, List.getElem?_map, List.getElem?_eq_getElem hi]; rfl
    rw [this]; rfl
  rw [e]
  unfold insAt
  simp
theorem fold_insS : ∀ (ws acc : List (List Nat)), (ws.map W).foldl insS (acc.map W) = (ws.foldl insW acc).map W
  | [], acc => rfl
  | x :: r, acc => by rw [List.map_cons, List.foldl_cons, List.foldl_cons, insS_W]; exact fold_insS r _
def sizes : List Nat := [3, 4, 5]
def eqWs : List (List Nat) → List (List Nat) → Bool
  | [], [] => true
  | a :: r, b :: t => decide (a = b) && eqWs r t
  | _, _ => false
def okA : Bool := sizes.all fun sz => (List.range sz).all fun c => let lv := levelW sz c; (List.range lv.length).all fun cut => decide ((lv.drop cut ++ lv.take cut).foldl insW [] = lv.reverse)
theorem okA_true : okA = true := by decide +kernel
def lenPos : Bool := sizes.all fun sz => (List.range sz).all fun c => decide (0 < (levelW sz c).length)
theorem lenPos_true : lenPos = true := by decide +kernel
theorem mem_sizes {sz : Nat} (h1 : 3 ≤ sz) (h2 : sz ≤ 5) : sz ∈ sizes := by
  have : sz = 3 ∨ sz = 4 ∨ sz = 5 := by omega
  rcases this with rfl | rfl | rfl <;> decide
theorem lawA {sz c cut : Nat} (h1 : 3 ≤ sz) (h2 : sz ≤ 5) (hc : c < sz) (hcut : cut < (levelW sz c).length) : ((levelW sz c).drop cut ++ (levelW sz c).take cut).foldl insW [] = (levelW sz c).reverse := by
  have h := okA_true
  unfold okA at h
  have a := List.all_eq_true.mp h sz (mem_sizes h1 h2)
  have b := List.all_eq_true.mp a c (List.mem_range.mpr hc)
  have d := List.all_eq_true.mp b cut (List.mem_range.mpr hcut)
  exact of_decide_eq_true d
theorem level_pos {sz c : Nat} (h1 : 3 ≤ sz) (h2 : sz ≤ 5) (hc : c < sz) : 0 < (levelW sz c).length := by
  have h := lenPos_true
  unfold lenPos at h
  have a := List.all_eq_true.mp h sz (mem_sizes h1 h2)
  have b := List.all_eq_true.mp a c (List.mem_range.mpr hc)
  exact of_decide_eq_true b
-- (B) the mating
def repl (l : List Nat) (k : Nat) : List Nat := l.take k ++ 41 :: l.drop (k + 1)
def collL (a b : List Nat) : Int := (if ltN b a then 1 else 0) - (if ltN a b then 1 else 0)
theorem collZ_W (a b : List Nat) : collZ (W a) (W b) = collL a b := by
  unfold collZ collL
  rw [ltN_eq, ltN_eq]
  show b2i (decide (b < a)) - b2i (decide (a < b)) = _
  by_cases h1 : b < a <;> by_cases h2 : a < b <;> simp [h1, h2, b2i]
def isIn (x : List Nat) : List (List Nat) → Bool
  | [] => false
  | a :: r => decide (a = x) || isIn x r
def inT (sz tn : Nat) (w : List Nat) (tk : List (List Nat)) : Nat → Nat → List Nat → Nat → Option (List Nat × Nat)
  | 0, _, b, a => some (b, a)
  | n + 1, t, b, a =>
    if w.getD ((t + tn) % sz) 0 == 40 then
      if collL (repl w ((t + tn) % sz)) b == (if (t + tn) % sz < a then 1 else -1) then
        if collL (repl w ((t + tn) % sz)) b == 1 && !isIn (repl w ((t + tn) % sz)) tk then inT sz tn w tk n (t + 1) (repl w ((t + tn) % sz)) ((t + tn) % sz)
        else inT sz tn w tk n (t + 1) b a
      else none
    else inT sz tn w tk n (t + 1) b a
def dueW (sz : Nat) (w : List Nat) : List Nat := if openW w < (sz : Int) then repl w (openW w).toNat else []
def outT (sz tn : Nat) : List (List Nat) → List (List Nat) → Bool
  | [], _ => true
  | w :: r, tk => match inT sz tn w tk sz 0 [] sz with
    | none => false
    | some (b, _) => decide (b = dueW sz w) && decide (0 ≤ openW w) && (if b = [] then outT sz tn r tk else outT sz tn r (tk ++ [b]))
def okB : Bool := sizes.all fun sz => (List.range sz).all fun c => (List.range sz).all fun tn => outT sz tn (levelW sz c) []
theorem okB_true : okB = true := by decide +kernel
theorem lawB {sz c tn : Nat} (h1 : 3 ≤ sz) (h2 : sz ≤ 5) (hc : c < sz) (ht : tn < sz) : outT sz tn (levelW sz c) [] = true := by
  have h := okB_true
  unfold okB at h
  have a := List.all_eq_true.mp h sz (mem_sizes h1 h2)
  have b := List.all_eq_true.mp a c (List.mem_range.mpr hc)
  exact List.all_eq_true.mp b tn (List.mem_range.mpr ht)
-- (C) the depths
def dps (s : Int) : List Nat → List Int
  | [] => [s]
  | c :: r => s :: dps (if c == 40 then s + 1 else s - 1) r
def floorsW (s : Int) (l : List Nat) : List Int := (List.range (l.length + 1)).map fun k => minL ((dps s l).drop k)
def sinksW (s : Int) (l : List Nat) : List Int := (List.range (l.length + 1)).map fun k => -(minL ((dps s l).take (k + 1)))
def firstW (s : Int) (l : List Nat) : Nat := bisL (sinksW s l) ((sinksW s l).getD l.length 0)
def repl40 (l : List Nat) (k : Nat) : List Nat := l.take k ++ 40 :: l.drop (k + 1)
def lessW (l : List Nat) : List Nat := (List.range l.length).filter fun k => l.getD k 0 == 41 && openW (repl40 l k) == (k : Int)
def cnt (c : Nat) : List Nat → Int
  | [] => 0
  | a :: r => if a == c then cnt c r + 1 else cnt c r
def okW (s : Int) (l : List Nat) : Bool :=
  decide (pdep l 0 = (dps s l).getD l.length 0 - s) && decide ((bisR (floorsW s l) ((floorsW s l).getD 0 0) : Int) - 1 = openW l) &&
  decide (((lessW l).map fun (k : Nat) => (k : Int)) = if firstW s l = 0 then [] else [(firstW s l : Int) - 1])
def okC : Bool := sizes.all fun sz => (List.range sz).all fun c => (levelW sz c).all fun l => (List.range 9).all fun s => okW ((s : Int) - 4) l
theorem okC_true : okC = true := by decide +kernel
end Mine
end
section
open PySem PySem.W PyProof.Rows PySem.Spec PySem.Calls
set_option maxRecDepth 100000
set_option maxHeartbeats 4000000
namespace Mine
def isW (n : Nat) (w : List Nat) : Prop := w.length = n ∧ ∀ c ∈ w, c = 40 ∨ c = 41
def allW : Nat → List (List Nat)
  | 0 => [[]]
  | n + 1 => (allW n).map (40 :: ·) ++ (allW n).map (41 :: ·)
theorem mem_allW : ∀ {n : Nat} {w : List Nat}, isW n w → w ∈ allW n
  | 0, w, h => by
    have : w = [] := List.length_eq_zero_iff.mp h.1
    subst this; simp [allW]
  | n + 1, [], h => by cases h.1
  | n + 1, c :: r, h => by
    have hr : isW n r := ⟨by have := h.1; simpa using this, fun x hx => h.2 x (.tail _ hx)⟩
    have := mem_allW hr
    unfold allW
    rcases h.2 c (.head _) with rfl | rfl
    · exact List.mem_append.mpr (.inl (List.mem_map.mpr ⟨r, this, rfl⟩))
    · exact List.mem_append.mpr (.inr (List.mem_map.mpr ⟨r, this, rfl⟩))
theorem level_isW : ∀ {n : Nat} {c : Int} {w : List Nat}, w ∈ levelW n c → isW n w
  | 0, c, w, h => by
    refine ⟨levelW_len 0 c w h, ?_⟩
    have : w = [] := List.length_eq_zero_iff.mp (levelW_len 0 c w h)
    subst this; intro x hx; cases hx
  | n + 1, c, w, h => by
    refine ⟨levelW_len _ c w h, ?_⟩
    unfold levelW at h
    split at h
    · cases h
    · rcases List.mem_append.mp h with h | h
      · obtain ⟨r, hr, rfl⟩ := List.mem_map.mp h
        intro x hx
        rcases List.mem_cons.mp hx with rfl | hx
        · exact .inr rfl
        · exact (level_isW hr).2 x hx
      · obtain ⟨r, hr, rfl⟩ := List.mem_map.mp h
        intro x hx
        rcases List.mem_cons.mp hx with rfl | hx
        · exact .inl rfl
        · exact (level_isW hr).2 x hx
theorem repl_isW {n k : Nat} {w : List Nat} (h : isW n w) (hk : k < n) : isW n (repl w k) := by
  refine ⟨?_, ?_⟩
  · unfold repl
    rw [List.length_append, List.length_cons, List.length_take, List.length_drop, h.1]
    omega
  · intro c hc
    unfold repl at hc
    rcases List.mem_append.mp hc with hc | hc
    · exact h.2 c (List.mem_of_mem_take hc)
    · rcases List.mem_cons.mp hc with rfl | hc
      · exact .inr rfl
      · exact h.2 c (List.mem_of_mem_drop hc)
theorem repl_has {k : Nat} {w : List Nat} : 41 ∈ repl w k := by
  unfold repl; simp
theorem nmAt_small : ∀ i, i < 11 → nmAt i = nm11.getD i (W []) := by decide +kernel
def pflI : Nat → Nat → Int → List Nat → Option (List Nat)
  | 0, _, _, _ => none
  | n + 1, i, f, acc =>
    if Builtin.bitAnd f ((2 ^ i : Nat) : Int) != 0 then
      if Builtin.bitXor f ((2 ^ i : Nat) : Int) != 0 then pflI n (i + 1) (Builtin.bitXor f ((2 ^ i : Nat) : Int)) (acc ++ [i]) else some (acc ++ [i])
    else pflI n (i + 1) f acc
theorem pfl_I : ∀ (n i : Nat) (f : Int) (acc : List Nat), pfl n i f (acc.map nmAt) = (pflI n i f acc).map (·.map nmAt)
  | 0, _, _, _ => rfl
  | n + 1, i, f, acc => by
    unfold pfl pflI
    have e : acc.map nmAt ++ [nmAt i] = (acc ++ [i]).map nmAt := by simp
    rw [e, pfl_I n, pfl_I n]
    split
    · split <;> rfl
    · rfl
def okF : Bool := sizes.all fun n => (List.range 7).all fun sh => (allW n).all fun w => (isIn w [List.replicate n 40]) || decide (pflI 32 0 (flagBits w sh).sum [] = some ((shutAt w).map (· + sh)))
theorem okF_true : okF = true := by decide +kernel
theorem isIn_iff {x : List Nat} : ∀ {l : List (List Nat)}, isIn x l = true ↔ x ∈ l
  | [] => by simp [isIn]
  | a :: r => by
    unfold isIn
    rw [Bool.or_eq_true, isIn_iff (l := r), decide_eq_true_eq, List.mem_cons]
    exact ⟨fun h => h.imp Eq.symm id, fun h => h.imp Eq.symm id⟩
theorem pfl_names {n sh : Nat} {w : List Nat} (h1 : 3 ≤ n) (h2 : n ≤ 5) (hw : isW n w) (h41 : 41 ∈ w) (hs : sh < 7) : pfl 32 0 (flagBits w sh).sum [] = some (namesW w sh) := by
  have h := okF_true
  unfold okF at h
  have a := List.all_eq_true.mp h n (mem_sizes h1 h2)
  have b := List.all_eq_true.mp a sh (List.mem_range.mpr hs)
  have c := List.all_eq_true.mp b w (mem_allW hw)
  rcases Bool.or_eq_true_iff.mp c with c | c
  · have := isIn_iff.mp c
    rw [List.mem_singleton] at this
    rw [this] at h41
    have := List.eq_of_mem_replicate h41
    cases this
  · have e := pfl_I 32 0 (flagBits w sh).sum []
    rw [List.map_nil, of_decide_eq_true c] at e
    rw [e]
    show some _ = some _
    congr 1
    unfold namesW
    show List.map nmAt (List.map _ _) = _
    rw [List.map_map]
    refine List.map_congr_left fun k hk => ?_
    have hk' : k < w.length := by
      unfold shutAt at hk
      exact List.mem_range.mp (List.mem_filter.mp hk).1
    rw [hw.1] at hk'
    exact nmAt_small (k + sh) (by omega)
theorem nm_len : ∀ i, i < 11 → (nm11.getD i (W [])).length ≤ 30 := by decide +kernel
theorem joinOk {n sh : Nat} {w : List Nat} (h2 : n ≤ 5) (hw : isW n w) (hs : sh < 7) : JoinOk (Str.ofString ", ") (namesW w sh) = true := by
  have hall : ∀ x ∈ namesW w sh, x.length ≤ 30 := by
    intro x hx
    unfold namesW at hx
    obtain ⟨k, hk, rfl⟩ := List.mem_map.mp hx
    have hk' : k < w.length := by
      unfold shutAt at hk
      exact List.mem_range.mp (List.mem_filter.mp hk).1
    rw [hw.1] at hk'
    exact nm_len _ (by omega)
  have hlen : (namesW w sh).length ≤ 5 := by
    unfold namesW shutAt
    rw [List.length_map]
    refine Nat.le_trans (List.length_filter_le _ _) ?_
    rw [List.length_range, hw.1]; omega
  have hsep : (Str.ofString ", ").length = 2 := by decide +kernel
  have key : ∀ (l : List Str) (acc : Nat), (∀ x ∈ l, x.length ≤ 30) → l.foldl (fun a x => a + x.length + (Str.ofString ", ").length) acc ≤ acc + 32 * l.length := by
    intro l
    induction l with
    | nil => intro acc _; simp
    | cons a r ih =>
      intro acc h
      rw [List.foldl_cons]
      have h1 := ih (acc + a.length + (Str.ofString ", ").length) fun x hx => h x (.tail _ hx)
      have h3 := h a (.head _)
      rw [List.length_cons]
      omega
  have := key (namesW w sh) 0 hall
  unfold JoinOk Builtin.Str.tooLong
  rw [sizeLine_eq]
  simp
  omega
def Pw (sh : Nat) (w : List Nat) : Str := Txt.join (Str.ofString ", ") (namesW w sh)
def hashS (x : Str) : Nat := x.cps.toList.foldl (fun a c => a * 131 + c) 7
def nd : List Nat → Bool
  | [] => true
  | a :: r => !(r.any fun b => Nat.beq a b) && nd r
theorem nd_inj {α : Type} {f : α → Nat} : ∀ {l : List α}, nd (l.map f) = true → ∀ {x y : α}, x ∈ l → y ∈ l → f x = f y → x = y
  | [], _, _, _, hx, _, _ => by cases hx
  | a :: r, h, x, y, hx, hy, e => by
    rw [List.map_cons] at h
    unfold nd at h
    rw [Bool.and_eq_true, Bool.not_eq_true'] at h
    have no : ∀ z ∈ r, f a ≠ f z := fun z hz q => by
      have : ((r.map f).any fun b => Nat.beq (f a) b) = true := List.any_eq_true.mpr ⟨f z, List.mem_map.mpr ⟨z, hz, rfl⟩, by rw [q]; exact Nat.beq_refl _⟩
      rw [this] at h
      cases h.1
    rcases List.mem_cons.mp hx with hx1 | hx1
    · rcases List.mem_cons.mp hy with hy1 | hy1
      · rw [hx1, hy1]
      · rw [hx1] at e; exact absurd e (no y hy1)
    · rcases List.mem_cons.mp hy with hy1 | hy1
      · rw [hy1] at e; exact absurd e.symm (no x hx1)
      · exact nd_inj h.2 hx1 hy1 e
def okH : Bool := sizes.all fun n => (List.range 7).all fun sh => nd ((allW n).map fun w => hashS (Pw sh w))
theorem okH_true : okH = true := by decide +kernel
theorem Pw_inj {n sh : Nat} {a b : List Nat} (h1 : 3 ≤ n) (h2 : n ≤ 5) (ha : isW n a) (hb : isW n b) (hs : sh < 7) (e : Pw sh a = Pw sh b) : a = b := by
  have h := okH_true
  unfold okH at h
  have a' := List.all_eq_true.mp h n (mem_sizes h1 h2)
  have b' := List.all_eq_true.mp a' sh (List.mem_range.mpr hs)
  exact nd_inj b' (mem_allW ha) (mem_allW hb) (by rw [e])
theorem lawC {sz c : Nat} {l : List Nat} {s : Int} (h1 : 3 ≤ sz) (h2 : sz ≤ 5) (hc : c < sz) (hl : l ∈ levelW sz c) (hs : -4 ≤ s) (hs2 : s ≤ 4) : okW s l = true := by
  have h := okC_true
  unfold okC at h
  have a := List.all_eq_true.mp h sz (mem_sizes h1 h2)
  have b := List.all_eq_true.mp a c (List.mem_range.mpr hc)
  have d := List.all_eq_true.mp b l hl
  have e := List.all_eq_true.mp d (s + 4).toNat (List.mem_range.mpr (by omega))
  have : (((s + 4).toNat : Nat) : Int) - 4 = s := by omega
  rw [this] at e
  exact e
end Mine
end
section
open PySem PySem.W PyProof.Rows PySem.Spec PySem.Calls
set_option maxRecDepth 100000
set_option maxHeartbeats 4000000
namespace Mine
def lwS (i : Nat) : Stmt := (fb 20).getD i (.Pass ⟨0, 0, 0, 0⟩)
abbrev lwEnv (L f : Addr) (cd : Value) : Env := fenv (Str.ofString "law") (fs 20) L f cd
/-- the room of law's own frame -/
structure Room (A : Around) : Prop where
  h : A.handled = none
  d : A.depth + 30 < recursionLimit
  u : A.units + 64 < cLine
  u2 : ∀ f L cd, (A.deeper (opEnv L f cd)).units + 64 < cLine
section
variable {prog : Program} {w : World} {h₀ : Heap} {mg mb : Str → Option Value} {A : Around} {env : Env} {loc : Loc} {L f : Addr} {cd : Value}
theorem lwOk : EnvOk (lwEnv L f cd) := fenvOk (by rfl)
abbrev drV (dr : List Int) : Str × PV := (Str.ofString "drawn", .list (dr.map .int))
abbrev szV (sz : Nat) : Str × PV := (Str.ofString "size", .int (sz : Int))
abbrev lvV (lv : List (List Nat)) : Str × PV := (Str.ofString "level", wordsPV lv)
abbrev cutV (c : Nat) : Str × PV := (Str.ofString "cut", .int (c : Int))
abbrev rowV (ws : List (List Nat)) : Str × PV := (Str.ofString "row", .own none ((ws.map W).map .str))
abbrev wordV (l : List Nat) : Str × PV := (Str.ofString "word", .str (W l))
theorem ForS.lessIn {env : Env} {x : Str} {body orelse : List Stmt} {l0 l1 l2 : Loc} {ps : List PV} {r : PR} (h : ForS prog w h₀ A env x body orelse l0 ps r l1) (a : LSub l0 l2) : ForS prog w h₀ A env x body orelse l2 ps r l1 := by
  have up : ∀ {p : PV}, LSub ((x, p) :: l0) ((x, p) :: l2) := fun {p} y q e => by
    rw [List.lookup_cons] at e ⊢
    split at e
    · exact e
    · exact a y q e
  cases h with
  | done h => exact .done (h.less a (LSub.refl _))
  | turn hp h1 h2 => exact .turn hp (h1.less up (LSub.refl _)) h2
  | brk hp h1 => exact .brk hp (h1.less up (LSub.refl _))
  | ret hp h1 => exact .ret hp (h1.less up (LSub.refl _))
theorem st0 (T : Tops h₀ mg mb) (r : Room A) {ns : List Int} (hn : ns.length ≤ 100) : Ex prog w h₀ A (lwEnv L f cd) [(Str.ofString "script", .list (ns.map .int))] (lwS 0) .next [drV (drawnN ns)] :=
  (Ex.assign (Ev.callF (Ev.global T.base lwOk T.glaw_drawn (by rfl)) T.flaw_drawn.isFn (EvArgs.cons (Ev.local lwOk (by rfl)) EvArgs.nil) rfl (drawn_spec (A := A) T.flaw_drawn T.base T.nlen T.blen r.h (by have := r.d; omega) hn)) lwOk rfl (.inl (by rfl))).less (LSub.refl _) (LSub.cons (by rfl) (LSub.nil _))
theorem dr_at {dr : List Int} {i : Nat} {d : Int} (h : dr[i]? = some d) : (dr.map PV.int)[((i : Nat) : Int).toNat]? = some (.int d) := by
  rw [Int.toNat_natCast, List.getElem?_map, h]; rfl
theorem OpB.toNat {op : Operator} {p q : PV} {a : Int} {n : Nat} (h : OpB prog w A op p q (.int a)) (e : a = (n : Int)) : OpB prog w A op p q (.int (n : Int)) := e ▸ h
theorem OpB.fdivS {a b : Int} (h : b ≠ 0) (hb : b.natAbs < 2 ^ 30) : OpB prog w A .FloorDiv (.int a) (.int b) (.int (a.fdiv b)) := OpB.fdiv_int h (nopy _ _ hb)
theorem st1 {dr : List Int} {d0 : Int} {sz : Nat} (h0 : dr[0]? = some d0) (hs : 3 + d0.fmod 3 = (sz : Int)) : Ex prog w h₀ A (lwEnv L f cd) [drV dr] (lwS 1) .next [szV sz, drV dr] :=
  Ex.assign (Ev.bin Ev.int (Ev.bin (Ev.item_list (xs := dr.map .int) (Ev.local lwOk (by rfl)) Ev.int rfl (by decide) (by decide) (dr_at (i := 0) h0)) Ev.int (OpB.mod_int (by decide))) (OpB.toNat OpB.add_int hs)) lwOk rfl (.inl (by rfl))
theorem st2 (T : Tops h₀ mg mb) (r : Room A) {dr : List Int} {d0 : Int} {sz c : Nat} (h0 : dr[0]? = some d0) (hsz : 0 < sz) (hs5 : sz ≤ 5) (hc : (d0.fdiv 3).fmod (sz : Int) = (c : Int)) : Ex prog w h₀ A (lwEnv L f cd) [szV sz, drV dr] (lwS 2) .next [lvV (levelW sz c), szV sz, drV dr] :=
  Ex.assign (Ev.callF (Ev.global T.base lwOk T.glaw_level (by rfl)) T.flaw_level.isFn (EvArgs.cons (Ev.local lwOk (by rfl)) (EvArgs.cons (Ev.bin (Ev.bin (Ev.item_list (xs := dr.map .int) (Ev.local lwOk (by rfl)) Ev.int rfl (by decide) (by decide) (dr_at (i := 0) h0)) Ev.int (OpB.fdivS (by decide) (by decide))) (Ev.local lwOk (by rfl)) (OpB.toNat (OpB.mod_int (by omega)) hc)) EvArgs.nil)) rfl
    (level_spec T.flaw_level T.base T.glaw_level sz A c (by omega) r.h (by have := r.d; omega))) lwOk rfl (.inl (by rfl))
theorem lv_len (lv : List (List Nat)) : (lv.map fun l => PV.str (W l)).length = lv.length := by simp
theorem st3 (T : Tops h₀ mg mb) {dr : List Int} {d1 : Int} {sz cut : Nat} {lv : List (List Nat)} (h1 : dr[1]? = some d1) (hl : 0 < lv.length) (hl2 : lv.length ≤ 100) (hc : d1.fmod (lv.length : Int) = (cut : Int)) : Ex prog w h₀ A (lwEnv L f cd) [lvV lv, szV sz, drV dr] (lwS 3) .next [cutV cut, lvV lv, szV sz, drV dr] := by
  have el : Ev prog w h₀ A (lwEnv L f cd) [lvV lv, szV sz, drV dr] (.Call (.Name (Str.ofString "len") ⟨100, 21, 100, 24⟩) [.Name (Str.ofString "level") ⟨100, 25, 100, 30⟩] [] ⟨100, 21, 100, 31⟩) (.int (lv.length : Nat)) := by
    have := Ev.lenL (prog := prog) (w := w) (A := A) (np := ⟨100, 21, 100, 24⟩) (pos := ⟨100, 21, 100, 31⟩) T.base (lwOk (L := L) (f := f) (cd := cd)) T.nlen T.blen (Ev.local (loc := [lvV lv, szV sz, drV dr]) (x := Str.ofString "level") (pos := ⟨100, 25, 100, 30⟩) lwOk (by rfl)) (xs := lv.map fun l => PV.str (W l)) rfl (by rw [lv_len]; omega) (by rfl)
    rw [lv_len] at this; exact this
  exact Ex.assign (Ev.bin (Ev.item_list (xs := dr.map .int) (Ev.local lwOk (by rfl)) Ev.int rfl (by decide) (by decide) (dr_at (i := 1) h1)) el (OpB.toNat (OpB.mod_int (by omega)) hc)) lwOk rfl (.inl (by rfl))
theorem st4 {Γ : Loc} : Ex prog w h₀ A (lwEnv L f cd) Γ (lwS 4) .next (rowV [] :: Γ) := Ex.assignOwn EvArgs.nil lwOk rfl (Nat.zero_le _) (.inl (by rfl))
theorem insort_loop (T : Tops h₀ mg mb) (r : Room A) {dr : List Int} {sz : Nat} {lv : List (List Nat)} : ∀ (ws acc : List (List Nat)), ws.length + acc.length ≤ 100 →
    ForS prog w h₀ A (lwEnv L f cd) (Str.ofString "word") (forBody (lwS 5)) (forElse (lwS 5)) [rowV acc, lvV lv, szV sz, drV dr] (ws.map fun l => PV.str (W l)) .next [rowV (ws.foldl insW acc), lvV lv, szV sz, drV dr]
  | [], acc, _ => .done Exs.nil
  | x :: ws, acc, hl => by
    have hz : (acc.map W).length < 100000 := by rw [List.length_map]; simp at hl; omega
    have hI : (insS (acc.map W) (W x)).map PV.str = ((insW acc x).map W).map PV.str := by rw [insS_W]
    have hlen : (insW acc x).length ≤ acc.length + 1 := by
      unfold insW insAt
      simp; omega
    refine .turn (loc₁ := [rowV (insW acc x), lvV lv, szV sz, drV dr]) rfl ?_ (insort_loop T r ws (insW acc x) (by simp at hl ⊢; omega))
    have sp := insort_spec (prog := prog) (w := w) (A := A) T.finsort_right T.fbisect_right T.fstrxfrm T.t45 T.t54 T.base T.gbisect_right T.nlen T.blen (by have := r.d; omega) (acc.map W) hz (W x)
    rw [hI] at sp
    refine Exs.cons (Ex.callOwnK (xs := (acc.map W).map .str) (xs' := ((insW acc x).map W).map .str) (Ev.global T.base lwOk T.ginsort_right (by rfl)) T.finsort_right.isFn (by rfl) (EvArgs.cons (Ev.local lwOk (by rfl)) EvArgs.nil) rfl (Ev.global T.base lwOk T.gstrxfrm (by rfl)) rfl lwOk ?_ sp) (Exs.nil.less (LSub.refl _) (LSub.cons (by rfl) (LSub.cons (by rfl) (LSub.cons (by rfl) (LSub.cons (by rfl) (LSub.nil _))))))
    intro p hp
    obtain ⟨y, _, rfl⟩ := List.mem_map.mp hp; rfl
theorem map_str (ws : List (List Nat)) : ws.map (fun l => PV.str (W l)) = (ws.map W).map PV.str := by simp
theorem st5 (T : Tops h₀ mg mb) (r : Room A) {dr : List Int} {sz cut : Nat} {lv : List (List Nat)} (hl2 : lv.length ≤ 40) : Ex prog w h₀ A (lwEnv L f cd) [rowV [], cutV cut, lvV lv, szV sz, drV dr] (lwS 5) .next [rowV ((lv.drop cut ++ lv.take cut).foldl insW []), lvV lv, szV sz, drV dr] := by
  have s1 : sliceL (lv.map fun l => PV.str (W l)) (some ((cut : Nat) : Int)) none none = (lv.drop cut).map fun l => PV.str (W l) := by rw [sliceL_from, List.map_drop]
  have s2 : sliceL (lv.map fun l => PV.str (W l)) none (some ((cut : Nat) : Int)) none = (lv.take cut).map fun l => PV.str (W l) := by rw [sliceL_upto, List.map_take]
  have F0 := insort_loop (prog := prog) (w := w) (A := A) (L := L) (f := f) (cd := cd) T r (dr := dr) (sz := sz) (lv := lv) (lv.drop cut ++ lv.take cut) [] (by rw [List.length_append, List.length_drop, List.length_take]; simp; omega)
  rw [List.map_append, ← s1, ← s2] at F0
  have hz : (lv.map fun l => PV.str (W l)).length ≤ sizeLine := by rw [lv_len, sizeLine_eq]; omega
  refine Ex.for_ (EvI.list (p := .none) (Ev.bin (Ev.slice_list (Ev.local lwOk (by rfl)) rfl (EvP.some (Ev.local lwOk (by rfl))) EvP.none EvP.none (by simp) hz) (Ev.slice_list (Ev.local lwOk (by rfl)) rfl EvP.none (EvP.some (Ev.local lwOk (by rfl))) EvP.none (by simp) hz) (OpB.add_list rfl rfl ?_)) r.h) lwOk (.inr (by rfl)) (F0.lessIn ?_)
  · rw [s1, s2, List.length_map, List.length_map, List.length_drop, List.length_take, sizeLine_eq]; omega
  · exact LSub.cons (by rfl) (LSub.cons (by rfl) (LSub.cons (by rfl) (LSub.cons (by rfl) (LSub.nil _))))
end
end Mine
end
section
open PySem PySem.W PyProof.Rows PySem.Spec PySem.Calls
set_option maxRecDepth 100000
set_option maxHeartbeats 4000000
namespace Mine
section
variable {prog : Program} {w : World} {h₀ : Heap} {mg mb : Str → Option Value} {A : Around} {env : Env} {loc : Loc} {L f : Addr} {cd : Value}
theorem Ev.slice_listS {value : Expr} {lo hi st : Option Expr} {sp pos : Pos} {p : PV} {xs : List PV} {l u k : Option Int} (hv : Ev prog w h₀ A env loc value p) (e : asL p = some xs) (hl : EvP prog w h₀ A env loc lo l) (hu : EvP prog w h₀ A env loc hi u) (hk : EvP prog w h₀ A env loc st k)
    (hk0 : k ≠ Option.some 0) (hz : xs.length ≤ sizeLine)
    (hs : ∀ a b, subscripted (.Slice lo hi st sp) false (.ref a) (.ref b) = operate [.ref a, .ref b] (getItem (.ref a) (.ref b)) := by intros; with_unfolding_all rfl) : Ev prog w h₀ A env loc (.Subscript value (.Slice lo hi st sp) pos) (.list (sliceL xs l u k)) := by
  intro G s Q R g
  refine Subscript_ (hv G s _ R fun G₁ h₁ t₁ a k₁ ha => ?_)
  refine wpAny_Slice (hl G₁ _ _ (R.post k₁) fun G₂ h₂ t₂ vl k₂ hvl => ?_)
  refine hu G₂ _ _ ((R.post k₁).post k₂) fun G₃ h₃ t₃ vu k₃ hvu => ?_
  refine hk G₃ _ _ (((R.post k₁).post k₂).post k₃) fun G₄ h₄ t₄ vk k₄ hvk => ?_
  have k14 := (k₂.trans k₃).trans k₄
  have kk := k₁.trans k14
  obtain ⟨la, n, us, rfl, ho, hus⟩ := (ha.mono k14.1 k14.2.1).isL kk.2.2.1 e
  let sl : Obj := { cls := Value.type "slice", data := Data.fields #[vl, vu, vk] }
  have hsl : (h₄.push sl).get? h₄.objs.size = some sl := Heap.get?_push_size _ rfl
  have ho' : (h₄.push sl).get? la = some (listOf us.toArray n) := Heap.get?_push_of_some _ ho
  refine tail_any (s := { s with heap := h₄.push sl, toks := t₄ }) (isList_of ho').typeIs PySem.F.slot_list_getitem.lookup
    (wpAny_getItem_list_slice (isList_of ho') ⟨sl, hsl, rfl, rfl⟩ hvl hvu hvk hk0 ?_ (by rw [List.size_toArray, hus.length]; exact hz)) (hs _ _)
  rw [slicePick_list]
  have he : Ext h₄ ((h₄.push sl).push { cls := Value.type "list", data := Data.seq (sliceL us l u k).toArray }) := (ext_push _ _).trans (ext_push _ _)
  refine Gives.fresh (Gives.post (s := s) (tk := t₄) g kk) kk.2.2.1 (n := 0) he ?_ (Heap.get?_push_size _ rfl) ?_
  · cases z : h₄.get? (h₄.push sl).objs.size with
    | none => rfl
    | some o => have := Heap.lt_size z; rw [Heap.size_push] at this; exact absurd this (Nat.not_lt.mpr (Nat.le_succ _))
  · unfold sliceL
    rw [hus.length]
    exact hus.pick _
theorem strOk_W {n : Nat} {l : List Nat} (h : isW n l) : PyData.strOk (W l) = true := by
  unfold PyData.strOk W
  rw [Array.all_eq_true']
  intro x hx
  have hx' : x ∈ l := by simpa using hx
  rcases h.2 x hx' with rfl | rfl <;> decide
theorem st6 (r : Room A) {dr : List Int} {sz : Nat} {lv : List (List Nat)} (hw : ∀ l ∈ lv, isW sz l) (hl2 : lv.length ≤ 40) : Ex prog w h₀ A (lwEnv L f cd) [rowV lv.reverse, lvV lv, szV sz, drV dr] (lwS 6) .next [rowV lv.reverse, lvV lv, szV sz, drV dr] := by
  have hz : (lv.map fun l => PV.str (W l)).length ≤ sizeLine := by rw [lv_len, sizeLine_eq]; omega
  have e2 : asL (.list (sliceL (lv.map fun l => PV.str (W l)) none none (some (-1)))) = some ((lv.reverse.map W).map .str) := by
    rw [sliceL_rev]
    show some _ = some _
    congr 1
    simp
  have ok : ∀ x ∈ lv.reverse.map W, PyData.strOk x = true := by
    intro x hx
    obtain ⟨l, hl, rfl⟩ := List.mem_map.mp hx
    exact strOk_W (hw l (List.mem_reverse.mp hl))
  exact Ex.if_ff (EvT.cmp' (b' := false) (Ev.local lwOk (by rfl)) (Ev.slice_listS (Ev.local lwOk (by rfl)) rfl EvP.none EvP.none (EvP.some (Ev.un Ev.int OpU.neg_int)) (by simp) hz) (OpC.ne_strs (ns := lv.reverse.map W) (ms := lv.reverse.map W) rfl e2 ok ok r.u) (by simp)) Exs.nil
abbrev tnV (t : Nat) : Str × PV := (Str.ofString "turn", .int (t : Int))
abbrev shV (t : Nat) : Str × PV := (Str.ofString "shift", .int (t : Int))
theorem st7 {Γ : Loc} {dr : List Int} {d1 : Int} {sz tn : Nat} (hd : Γ.lookup (Str.ofString "drawn") = some (.list (dr.map .int))) (hs : Γ.lookup (Str.ofString "size") = some (.int (sz : Int))) (h1 : dr[1]? = some d1) (h0 : 0 < sz) (ht : (d1.fdiv 10).fmod (sz : Int) = (tn : Int)) : Ex prog w h₀ A (lwEnv L f cd) Γ (lwS 7) .next (tnV tn :: Γ) :=
  Ex.assign (Ev.bin (Ev.bin (Ev.item_list (xs := dr.map .int) (Ev.local lwOk hd) Ev.int rfl (by decide) (by decide) (dr_at (i := 1) h1)) Ev.int (OpB.fdivS (by decide) (by decide))) (Ev.local lwOk hs) (OpB.toNat (OpB.mod_int (by omega)) ht)) lwOk rfl (.inl (by rfl))
theorem st8 {Γ : Loc} {dr : List Int} {d1 : Int} {sh : Nat} (hd : Γ.lookup (Str.ofString "drawn") = some (.list (dr.map .int))) (h1 : dr[1]? = some d1) (ht : (d1.fdiv 50).fmod 7 = (sh : Int)) : Ex prog w h₀ A (lwEnv L f cd) Γ (lwS 8) .next (shV sh :: Γ) :=
  Ex.assign (Ev.bin (Ev.bin (Ev.item_list (xs := dr.map .int) (Ev.local lwOk hd) Ev.int rfl (by decide) (by decide) (dr_at (i := 1) h1)) Ev.int (OpB.fdivS (by decide) (by decide))) Ev.int (OpB.toNat (OpB.mod_int (by decide)) ht)) lwOk rfl (.inl (by rfl))
abbrev tkV (sh : Nat) (tk : List (List Nat)) : Str × PV := (Str.ofString "taken", .own none ((tk.map (Pw sh)).map .str))
theorem st9 {Γ : Loc} {sh : Nat} : Ex prog w h₀ A (lwEnv L f cd) Γ (lwS 9) .next (tkV sh [] :: Γ) := Ex.assignOwn EvArgs.nil lwOk rfl (Nat.zero_le _) (.inl (by rfl))

-- words put together
theorem Ev.shutC {k : Nat} {pos : Pos} : Ev prog w h₀ A env loc (.Constant (.str (Str.ofString ")")) k pos) (.str (W [41])) := s41 ▸ Ev.str
theorem Ev.openC {k : Nat} {pos : Pos} : Ev prog w h₀ A env loc (.Constant (.str (Str.ofString "(")) k pos) (.str (W [40])) := s40 ▸ Ev.str
theorem Ev.nilC {k : Nat} {pos : Pos} : Ev prog w h₀ A env loc (.Constant (.str (Str.ofString "")) k pos) (.str (W [])) := s0 ▸ Ev.str
theorem OpB.addW {a b : List Nat} (h : a.length + b.length ≤ 1000) : OpB prog w A .Add (.str (W a)) (.str (W b)) (.str (W (a ++ b))) := by
  have := OpB.add_str (prog := prog) (w := w) (A := A) (a := W a) (b := W b) (by rw [W_len, W_len, sizeLine_eq]; omega)
  rwa [W_app] at this
theorem Ev.upto {value hi : Expr} {sp pos : Pos} {l : List Nat} {k : Nat} (hv : Ev prog w h₀ A env loc value (.str (W l))) (hu : Ev prog w h₀ A env loc hi (.int (k : Int))) (hz : l.length ≤ 1000)
    (hs : ∀ t b, subscripted (.Slice Option.none (Option.some hi) Option.none sp) false (.str (W l) t) (.ref b) = operate [.ref b, .str (W l) t] (getItem (.str (W l) t) (.ref b)) := by intros; with_unfolding_all rfl) : Ev prog w h₀ A env loc (.Subscript value (.Slice Option.none (Option.some hi) Option.none sp) pos) (.str (W (l.take k))) := by
  have := Ev.slice_str (pos := pos) hv EvP.none (EvP.some hu) (by rw [W_len]; exact hz) hs
  rwa [sliceS_upto] at this
theorem Ev.fromAt {value lo : Expr} {sp pos : Pos} {l : List Nat} {k : Nat} (hv : Ev prog w h₀ A env loc value (.str (W l))) (hu : Ev prog w h₀ A env loc lo (.int (k : Int))) (hz : l.length ≤ 1000)
    (hs : ∀ t b, subscripted (.Slice (Option.some lo) Option.none Option.none sp) false (.str (W l) t) (.ref b) = operate [.ref b, .str (W l) t] (getItem (.str (W l) t) (.ref b)) := by intros; with_unfolding_all rfl) : Ev prog w h₀ A env loc (.Subscript value (.Slice (Option.some lo) Option.none Option.none sp) pos) (.str (W (l.drop k))) := by
  have := Ev.slice_str (pos := pos) hv (EvP.some hu) EvP.none (by rw [W_len]; exact hz) hs
  rwa [sliceS_from] at this
theorem OpB.succ {k : Nat} : OpB prog w A .Add (.int (k : Int)) (.int 1) (.int ((k + 1 : Nat) : Int)) := OpB.toNat OpB.add_int (by omega)
theorem repl_eq (l : List Nat) (k : Nat) : (l.take k ++ [41]) ++ l.drop (k + 1) = repl l k := by unfold repl; simp
theorem repl40_eq (l : List Nat) (k : Nat) : (l.take k ++ [40]) ++ l.drop (k + 1) = repl40 l k := by unfold repl40; simp
theorem take_drop_len (l : List Nat) (k : Nat) (h : l.length ≤ 20) : (l.take k ++ [41]).length + (l.drop (k + 1)).length ≤ 1000 ∧ (l.take k).length + [41].length ≤ 1000 := by
  simp; omega
theorem neW (a b : List Nat) : ((W a).cps.toList != (W b).cps.toList) = !decide (a = b) := by
  show (a != b) = _
  by_cases h : a = b <;> simp [h]
theorem any_Pw {sz sh : Nat} (h1 : 3 ≤ sz) (h2 : sz ≤ 5) (hs : sh < 7) {x : List Nat} (hx : isW sz x) : ∀ {tk : List (List Nat)}, (∀ y ∈ tk, isW sz y) → ((tk.map (Pw sh)).any (· == Pw sh x)) = isIn x tk
  | [], _ => rfl
  | a :: r, h => by
    have ih := any_Pw h1 h2 hs hx (tk := r) fun y hy => h y (.tail _ hy)
    rw [List.map_cons, List.any_cons, ih]
    show _ = (decide (a = x) || isIn x r)
    congr 1
    by_cases e : a = x
    · subst e; simp
    · have : ¬ Pw sh a = Pw sh x := fun q => e (Pw_inj h1 h2 (h a (.head _)) hx hs q)
      simp [e, this]
theorem flagsP (T : Tops h₀ mg mb) (r : Room A) {sz sh : Nat} {x : List Nat} (h1 : 3 ≤ sz) (h2 : sz ≤ 5) (hx : isW sz x) (h41 : 41 ∈ x) (hs : sh < 7) : Calls prog w h₀ A 115 [.str (W x), .int (sh : Int)] [] (.str (Pw sh x)) :=
  flags_spec T.flaw_flags T.fpretty_flags T.base T.nms T.gCOMPILER_FLAG_NAMES T.nhex T.bhex T.nrange T.brange T.nlen T.blen T.nsum T.bsum T.gpretty_flags r.h (by have := r.d; omega) (by rw [hx.1]; omega) (by omega) (pfl_names h1 h2 hx h41 hs) (joinOk h2 hx hs)
theorem namesP (T : Tops h₀ mg mb) (r : Room A) {sz sh : Nat} {x : List Nat} (h2 : sz ≤ 5) (hx : isW sz x) (hs : sh < 7) : Calls prog w h₀ A 120 [.str (W x), .int (sh : Int)] [] (.str (Pw sh x)) :=
  names_spec T.flaw_names T.base T.nrange T.brange T.nlen T.blen r.h (by have := r.d; omega) (by rw [hx.1]; omega) (joinOk h2 hx hs)
theorem collP (T : Tops h₀ mg mb) (r : Room A) (a b : List Nat) : Calls prog w h₀ A 86 [.str (W a), .str (W b)] [] (.int (collL a b)) := by
  have := strcoll_spec (prog := prog) (w := w) (A := A) T.fstrcoll T.base (by have := r.d; omega) (W a) (W b)
  rwa [collZ_W] at this
theorem openP (T : Tops h₀ mg mb) (r : Room A) {l : List Nat} (hl : l.length ≤ 1000) : Calls prog w h₀ A 110 [.str (W l)] [] (.int (openW l)) :=
  open_spec T.flaw_open T.base T.nlen T.blen T.nrange T.brange r.h (by have := r.d; omega) (fun L cd => r.u2 110 L cd) l hl
theorem EvT.notBool (T : Tops h₀ mg mb) (hE : EnvOk env) {np bp sp pos : Pos} {x : Str} {i : Int} (hi : loc.lookup x = some (.int i)) (h1 : env.kindOf (Str.ofString "isinstance") = some .globalImplicit) (h2 : env.kindOf (Str.ofString "bool") = some .globalImplicit) (hd : (x == ("__debug__" : Str)) = false := by decide) :
    EvT prog w h₀ A env loc (.Call (.Name (Str.ofString "isinstance") np) [.Name x sp, .Name (Str.ofString "bool") bp] [] pos) false :=
  EvT.val (Ev.callB (Ev.builtin T.base hE T.nisinstance T.bisinstance h1) (EvArgs.cons (Ev.local hE hi hd) (EvArgs.cons (Ev.builtin T.base hE T.nbool T.bbool h2) EvArgs.nil)) OpF.isi_int_bool) OpT.bool
end
end Mine
end
section
open PySem PySem.W PyProof.Rows PySem.Spec PySem.Calls
set_option maxRecDepth 100000
set_option maxHeartbeats 4000000
namespace Mine
def inFor : Stmt := (forBody (lwS 10)).getD 2 (.Pass ⟨0, 0, 0, 0⟩)
def ifTest : Stmt → Expr
  | .If t _ _ _ => t
  | _ => .Constant .none 0 ⟨0, 0, 0, 0⟩
def inIf : Stmt := (forBody inFor).getD 1 (.Pass ⟨0, 0, 0, 0⟩)
abbrev bestV (l : List Nat) : Str × PV := (Str.ofString "best", .str (W l))
abbrev atV (a : Nat) : Str × PV := (Str.ofString "at", .int (a : Int))
section
variable {prog : Program} {w : World} {h₀ : Heap} {mg mb : Str → Option Value} {A : Around} {env : Env} {loc : Loc} {L f : Addr} {cd : Value}
theorem fmod_nat {a b : Nat} (hb : 0 < b) : ((a : Int)).fmod (b : Int) = ((a % b : Nat) : Int) := by
  rw [Int.fmod_eq_emod_of_nonneg _ (by omega)]; rfl
theorem inner_loop (T : Tops h₀ mg mb) (r : Room A) {sz sh tn : Nat} {dr : List Int} {lv tk : List (List Nat)} {l : List Nat} (h1 : 3 ≤ sz) (h2 : sz ≤ 5) (hs : sh < 7) (htn : tn < sz) (hl : isW sz l) (htk : ∀ y ∈ tk, isW sz y) :
    ∀ (n t : Nat) (b : List Nat) (a : Nat) (b' : List Nat) (a' : Nat), inT sz tn l tk n t b a = some (b', a') →
      ForS prog w h₀ A (lwEnv L f cd) (Str.ofString "t") (forBody inFor) (forElse inFor) [bestV b, atV a, tkV sh tk, wordV l, shV sh, tnV tn, lvV lv, szV sz, drV dr] (rangeFrom t n) .next [bestV b', atV a', tkV sh tk, wordV l, shV sh, tnV tn, lvV lv, szV sz, drV dr] := by
  intro n
  induction n with
  | zero => intro t b a b' a' h; cases h; exact .done Exs.nil
  | succ n ih =>
    intro t b a b' a' h
    rw [rangeFrom_succ]
    unfold inT at h
    have hk : (t + tn) % sz < sz := Nat.mod_lt _ (by omega)
    have hlen := hl.1
    generalize hkk : (t + tn) % sz = k at *
    have hfm : (((t + tn : Nat) : Int)).fmod (sz : Int) = (k : Int) := by rw [fmod_nat (by omega), hkk]
    have hadd : OpB prog w A .Add (.int (t : Int)) (.int (tn : Int)) (.int ((t + tn : Nat) : Int)) := OpB.toNat OpB.add_int (by omega)
    have s0 : Ex prog w h₀ A (lwEnv L f cd) [(Str.ofString "t", .int (t : Int)), bestV b, atV a, tkV sh tk, wordV l, shV sh, tnV tn, lvV lv, szV sz, drV dr] ((forBody inFor).getD 0 (.Pass ⟨0, 0, 0, 0⟩)) .next
        [(Str.ofString "k", .int (k : Int)), (Str.ofString "t", .int (t : Int)), bestV b, atV a, tkV sh tk, wordV l, shV sh, tnV tn, lvV lv, szV sz, drV dr] :=
      Ex.assign (Ev.bin (Ev.bin (Ev.local lwOk (by rfl)) (Ev.local lwOk (by rfl)) hadd) (Ev.local lwOk (by rfl)) (OpB.toNat (OpB.mod_int (by omega)) hfm)) lwOk rfl (.inl (by rfl))
    have hc : (W l).cps[((k : Int)).toNat]? = some (l.getD k 0) := by
      rw [Int.toNat_natCast, W_at, List.getD_eq_getElem?_getD, List.getElem?_eq_getElem (by omega)]; rfl
    have test : ∀ bb, (l.getD k 0 == 40) = bb → EvT prog w h₀ A (lwEnv L f cd) [(Str.ofString "k", .int (k : Int)), (Str.ofString "t", .int (t : Int)), bestV b, atV a, tkV sh tk, wordV l, shV sh, tnV tn, lvV lv, szV sz, drV dr] (.Compare (.Subscript (.Name (Str.ofString "word") ⟨114, 15, 114, 19⟩) (.Name (Str.ofString "k") ⟨114, 20, 114, 21⟩) ⟨114, 15, 114, 22⟩) [.Eq] [.Constant (.str (Str.ofString "(")) 0 ⟨114, 26, 114, 29⟩] ⟨114, 15, 114, 29⟩) bb := fun bb hb =>
      EvT.cmp' (Ev.item_str (Ev.local lwOk (by rfl)) (Ev.local lwOk (by rfl)) (by omega) (by omega) hc) Ev.openC OpC.eq_str (by rw [sign_eq]; exact hb)
    by_cases c : (l.getD k 0 == 40) = true
    · rw [if_pos c] at h
      have hwd : isW sz (repl l k) := repl_isW hl hk
      generalize hwk : repl l k = wd at *
      have hz := take_drop_len l k (by omega)
      by_cases c2 : (collL wd b == (if k < a then 1 else -1)) = true
      · rw [if_pos c2] at h
        have s1 : Ex prog w h₀ A (lwEnv L f cd) [(Str.ofString "k", .int (k : Int)), (Str.ofString "t", .int (t : Int)), bestV b, atV a, tkV sh tk, wordV l, shV sh, tnV tn, lvV lv, szV sz, drV dr] ((ifBody inIf).getD 0 (.Pass ⟨0, 0, 0, 0⟩)) .next
            [(Str.ofString "wider", .str (W wd)), (Str.ofString "k", .int (k : Int)), (Str.ofString "t", .int (t : Int)), bestV b, atV a, tkV sh tk, wordV l, shV sh, tnV tn, lvV lv, szV sz, drV dr] := by
          rw [← hwk, ← repl_eq]
          exact Ex.assign (Ev.bin (Ev.bin (Ev.upto (Ev.local lwOk (by rfl)) (Ev.local lwOk (by rfl)) (by omega)) Ev.shutC (OpB.addW hz.2)) (Ev.fromAt (Ev.local lwOk (by rfl)) (Ev.bin (Ev.local lwOk (by rfl)) Ev.int OpB.succ) (by omega)) (OpB.addW hz.1)) lwOk rfl (.inl (by rfl))
        have s2 : Ex prog w h₀ A (lwEnv L f cd) [(Str.ofString "wider", .str (W wd)), (Str.ofString "k", .int (k : Int)), (Str.ofString "t", .int (t : Int)), bestV b, atV a, tkV sh tk, wordV l, shV sh, tnV tn, lvV lv, szV sz, drV dr] ((ifBody inIf).getD 1 (.Pass ⟨0, 0, 0, 0⟩)) .next
            [(Str.ofString "sign", .int (collL wd b)), (Str.ofString "wider", .str (W wd)), (Str.ofString "k", .int (k : Int)), (Str.ofString "t", .int (t : Int)), bestV b, atV a, tkV sh tk, wordV l, shV sh, tnV tn, lvV lv, szV sz, drV dr] :=
          Ex.assign (Ev.callF (Ev.global T.base lwOk T.gstrcoll (by rfl)) T.fstrcoll.isFn (EvArgs.cons (Ev.local lwOk (by rfl)) (EvArgs.cons (Ev.local lwOk (by rfl)) EvArgs.nil)) rfl (collP T r wd b)) lwOk rfl (.inl (by rfl))
        have s3 : Ex prog w h₀ A (lwEnv L f cd) [(Str.ofString "sign", .int (collL wd b)), (Str.ofString "wider", .str (W wd)), (Str.ofString "k", .int (k : Int)), (Str.ofString "t", .int (t : Int)), bestV b, atV a, tkV sh tk, wordV l, shV sh, tnV tn, lvV lv, szV sz, drV dr] ((ifBody inIf).getD 2 (.Pass ⟨0, 0, 0, 0⟩)) .next
            [(Str.ofString "sign", .int (collL wd b)), (Str.ofString "wider", .str (W wd)), (Str.ofString "k", .int (k : Int)), (Str.ofString "t", .int (t : Int)), bestV b, atV a, tkV sh tk, wordV l, shV sh, tnV tn, lvV lv, szV sz, drV dr] := by
          have c2' := beq_iff_eq.mp c2
          by_cases q : k < a
          · rw [if_pos q] at c2'
            exact Ex.if_ff (EvT.or_ff (EvT.notBool T lwOk (by rfl) (by rfl) (by rfl)) (EvT.cmp' (b' := false) (Ev.local lwOk (by rfl)) (Ev.ite_tt (EvT.cmp' (Ev.local lwOk (by rfl)) (Ev.local lwOk (by rfl)) OpC.lt_int (decide_eq_true (by omega))) Ev.int) OpC.ne_int (by rw [c2']; rfl))) Exs.nil
          · rw [if_neg q] at c2'
            exact Ex.if_ff (EvT.or_ff (EvT.notBool T lwOk (by rfl) (by rfl) (by rfl)) (EvT.cmp' (b' := false) (Ev.local lwOk (by rfl)) (Ev.ite_ff (EvT.cmp' (Ev.local lwOk (by rfl)) (Ev.local lwOk (by rfl)) OpC.lt_int (decide_eq_false (by omega))) (Ev.un Ev.int OpU.neg_int)) OpC.ne_int (by rw [c2']; rfl))) Exs.nil
        by_cases c3 : (collL wd b == 1 && !isIn wd tk) = true
        · rw [if_pos c3] at h
          rw [Bool.and_eq_true] at c3
          refine .turn (loc₁ := [bestV wd, atV k, tkV sh tk, wordV l, shV sh, tnV tn, lvV lv, szV sz, drV dr]) rfl ?_ (ih (t + 1) wd k b' a' h)
          have hh41 : 41 ∈ wd := hwk ▸ repl_has
          refine Exs.cons s0 (Exs.cons (Ex.if_tt (test _ c) (Exs.cons s1 (Exs.cons s2 (Exs.cons s3 (Exs.cons (Ex.if_tt (EvT.and_tt (EvT.cmp' (Ev.local lwOk (by rfl)) Ev.int OpC.eq_int c3.1) (EvT.cmp' (Ev.callF (Ev.global T.base lwOk T.glaw_flags (by rfl)) T.flaw_flags.isFn (EvArgs.cons (Ev.local lwOk (by rfl)) (EvArgs.cons (Ev.local lwOk (by rfl)) EvArgs.nil)) rfl (flagsP T r h1 h2 hwd hh41 hs)) (Ev.local lwOk (by rfl)) (OpC.notin_strs (ys := tk.map (Pw sh)) rfl) ((congrArg (! ·) (any_Pw h1 h2 hs hwd htk)).trans c3.2)))
            (Exs.cons (Ex.assign (Ev.local lwOk (by rfl)) lwOk rfl (.inl (by rfl))) (Exs.cons (Ex.assign (Ev.local lwOk (by rfl)) lwOk rfl (.inl (by rfl))) Exs.nil))) Exs.nil))))) (Exs.nil.less (LSub.refl _) ?_))
          exact LSub.cons (by rfl) (LSub.cons (by rfl) (LSub.cons (by rfl) (LSub.cons (by rfl) (LSub.cons (by rfl) (LSub.cons (by rfl) (LSub.cons (by rfl) (LSub.cons (by rfl) (LSub.cons (by rfl) (LSub.nil _)))))))))
        · rw [if_neg c3] at h
          refine .turn (loc₁ := [bestV b, atV a, tkV sh tk, wordV l, shV sh, tnV tn, lvV lv, szV sz, drV dr]) rfl ?_ (ih (t + 1) b a b' a' h)
          have hh41 : 41 ∈ wd := hwk ▸ repl_has
          have tt : EvT prog w h₀ A (lwEnv L f cd) [(Str.ofString "sign", .int (collL wd b)), (Str.ofString "wider", .str (W wd)), (Str.ofString "k", .int (k : Int)), (Str.ofString "t", .int (t : Int)), bestV b, atV a, tkV sh tk, wordV l, shV sh, tnV tn, lvV lv, szV sz, drV dr] (ifTest ((ifBody inIf).getD 3 (.Pass ⟨0, 0, 0, 0⟩))) false := by
            cases q : collL wd b == 1 with
            | false => exact EvT.and_ff (EvT.cmp' (Ev.local lwOk (by rfl)) Ev.int OpC.eq_int q)
            | true =>
              rw [q, Bool.true_and, Bool.not_eq_true] at c3
              exact EvT.and_tt (EvT.cmp' (Ev.local lwOk (by rfl)) Ev.int OpC.eq_int q) (EvT.cmp' (Ev.callF (Ev.global T.base lwOk T.glaw_flags (by rfl)) T.flaw_flags.isFn (EvArgs.cons (Ev.local lwOk (by rfl)) (EvArgs.cons (Ev.local lwOk (by rfl)) EvArgs.nil)) rfl (flagsP T r h1 h2 hwd hh41 hs)) (Ev.local lwOk (by rfl)) (OpC.notin_strs (ys := tk.map (Pw sh)) rfl) ((congrArg (! ·) (any_Pw h1 h2 hs hwd htk)).trans c3))
          refine Exs.cons s0 (Exs.cons (Ex.if_tt (test _ c) (Exs.cons s1 (Exs.cons s2 (Exs.cons s3 (Exs.cons (Ex.if_ff tt Exs.nil) Exs.nil))))) (Exs.nil.less (LSub.refl _) ?_))
          exact LSub.cons (by rfl) (LSub.cons (by rfl) (LSub.cons (by rfl) (LSub.cons (by rfl) (LSub.cons (by rfl) (LSub.cons (by rfl) (LSub.cons (by rfl) (LSub.cons (by rfl) (LSub.cons (by rfl) (LSub.nil _)))))))))
      · rw [if_neg c2] at h; cases h
    · rw [if_neg c] at h
      rw [Bool.not_eq_true] at c
      refine .turn (loc₁ := [bestV b, atV a, tkV sh tk, wordV l, shV sh, tnV tn, lvV lv, szV sz, drV dr]) rfl ?_ (ih (t + 1) b a b' a' h)
      refine Exs.cons s0 (Exs.cons (Ex.if_ff (test _ c) Exs.nil) (Exs.nil.less (LSub.refl _) ?_))
      exact LSub.cons (by rfl) (LSub.cons (by rfl) (LSub.cons (by rfl) (LSub.cons (by rfl) (LSub.cons (by rfl) (LSub.cons (by rfl) (LSub.cons (by rfl) (LSub.cons (by rfl) (LSub.cons (by rfl) (LSub.nil _)))))))))
end
end Mine
end
section
open PySem PySem.W PyProof.Rows PySem.Spec PySem.Calls
set_option maxRecDepth 100000
set_option maxHeartbeats 4000000
namespace Mine
def obS (i : Nat) : Stmt := (forBody (lwS 10)).getD i (.Pass ⟨0, 0, 0, 0⟩)
abbrev placeV (i : Int) : Str × PV := (Str.ofString "place", .int i)
abbrev dueV (l : List Nat) : Str × PV := (Str.ofString "due", .str (W l))
theorem inT_isW {sz tn : Nat} {w : List Nat} {tk : List (List Nat)} (hw : isW sz w) (h0 : 0 < sz) : ∀ (n t : Nat) (b : List Nat) (a : Nat) (b' : List Nat) (a' : Nat), inT sz tn w tk n t b a = some (b', a') → (b = [] ∨ (isW sz b ∧ 41 ∈ b)) → (b' = [] ∨ (isW sz b' ∧ 41 ∈ b'))
  | 0, t, b, a, b', a', h, hb => by cases h; exact hb
  | n + 1, t, b, a, b', a', h, hb => by
    unfold inT at h
    by_cases c : (w.getD ((t + tn) % sz) 0 == 40) = true
    · rw [if_pos c] at h
      by_cases c2 : (collL (repl w ((t + tn) % sz)) b == (if (t + tn) % sz < a then 1 else -1)) = true
      · rw [if_pos c2] at h
        by_cases c3 : (collL (repl w ((t + tn) % sz)) b == 1 && !isIn (repl w ((t + tn) % sz)) tk) = true
        · rw [if_pos c3] at h
          exact inT_isW hw h0 n _ _ _ _ _ h (.inr ⟨repl_isW hw (Nat.mod_lt _ h0), repl_has⟩)
        · rw [if_neg c3] at h
          exact inT_isW hw h0 n _ _ _ _ _ h hb
      · rw [if_neg c2] at h; cases h
    · rw [if_neg c] at h
      exact inT_isW hw h0 n _ _ _ _ _ h hb
section
variable {prog : Program} {w : World} {h₀ : Heap} {mg mb : Str → Option Value} {A : Around} {env : Env} {loc : Loc} {L f : Addr} {cd : Value}
theorem collL_self (b : List Nat) : collL b b = 0 := by unfold collL; omega
theorem outer_turn (T : Tops h₀ mg mb) (r : Room A) {sz sh tn : Nat} {dr : List Int} {lv tk : List (List Nat)} {l b : List Nat} {a : Nat} (h1 : 3 ≤ sz) (h2 : sz ≤ 5) (hs : sh < 7) (htn : tn < sz) (hl : isW sz l) (htk : ∀ y ∈ tk, isW sz y) (htl : tk.length ≤ 100)
    (hi : inT sz tn l tk sz 0 [] sz = some (b, a)) (hd : b = dueW sz l) (ho : 0 ≤ openW l) :
    Exs prog w h₀ A (lwEnv L f cd) [wordV l, tkV sh tk, shV sh, tnV tn, lvV lv, szV sz, drV dr] (forBody (lwS 10)) .next [tkV sh (if b = [] then tk else tk ++ [b]), shV sh, tnV tn, lvV lv, szV sz, drV dr] := by
  have hb := inT_isW hl (by omega) sz 0 [] sz b a hi (.inl rfl)
  have hlen := hl.1
  have F0 := inner_loop (prog := prog) (w := w) (A := A) (L := L) (f := f) (cd := cd) T r (dr := dr) (lv := lv) h1 h2 hs htn hl htk sz 0 [] sz b a hi
  rw [← rangePV_eq] at F0
  have s0 : Ex prog w h₀ A (lwEnv L f cd) [wordV l, tkV sh tk, shV sh, tnV tn, lvV lv, szV sz, drV dr] (obS 0) .next [bestV [], wordV l, tkV sh tk, shV sh, tnV tn, lvV lv, szV sz, drV dr] := Ex.assign Ev.nilC lwOk rfl (.inl (by rfl))
  have s1 : Ex prog w h₀ A (lwEnv L f cd) [bestV [], wordV l, tkV sh tk, shV sh, tnV tn, lvV lv, szV sz, drV dr] (obS 1) .next [atV sz, bestV [], wordV l, tkV sh tk, shV sh, tnV tn, lvV lv, szV sz, drV dr] := Ex.assign (Ev.local lwOk (by rfl)) lwOk rfl (.inl (by rfl))
  have s2 : Ex prog w h₀ A (lwEnv L f cd) [atV sz, bestV [], wordV l, tkV sh tk, shV sh, tnV tn, lvV lv, szV sz, drV dr] (obS 2) .next [bestV b, atV a, tkV sh tk, wordV l, shV sh, tnV tn, lvV lv, szV sz, drV dr] :=
    Ex.for_ (EvI.range T.base (Ev.builtin T.base lwOk T.nrange T.brange (by rfl)) (Ev.local lwOk (by rfl)) r.h (by omega) (by omega)) lwOk (.inl (by rfl)) (F0.lessIn (LSub.cons (by rfl) (LSub.cons (by rfl) (LSub.cons (by rfl) (LSub.cons (by rfl) (LSub.cons (by rfl) (LSub.cons (by rfl) (LSub.cons (by rfl) (LSub.cons (by rfl) (LSub.cons (by rfl) (LSub.nil _)))))))))))
  have s3 : Ex prog w h₀ A (lwEnv L f cd) [bestV b, atV a, tkV sh tk, wordV l, shV sh, tnV tn, lvV lv, szV sz, drV dr] (obS 3) .next [placeV (openW l), bestV b, atV a, tkV sh tk, wordV l, shV sh, tnV tn, lvV lv, szV sz, drV dr] :=
    Ex.assign (Ev.callF (Ev.global T.base lwOk T.glaw_open (by rfl)) T.flaw_open.isFn (EvArgs.cons (Ev.local lwOk (by rfl)) EvArgs.nil) rfl (openP T r (by omega))) lwOk rfl (.inl (by rfl))
  have s4 : Ex prog w h₀ A (lwEnv L f cd) [placeV (openW l), bestV b, atV a, tkV sh tk, wordV l, shV sh, tnV tn, lvV lv, szV sz, drV dr] (obS 4) .next [dueV b, placeV (openW l), bestV b, atV a, tkV sh tk, wordV l, shV sh, tnV tn, lvV lv, szV sz, drV dr] := by
    unfold dueW at hd
    by_cases q : openW l < (sz : Int)
    · rw [if_pos q] at hd
      obtain ⟨p, hp⟩ : ∃ p : Nat, openW l = (p : Int) := ⟨(openW l).toNat, by omega⟩
      rw [hp, Int.toNat_natCast] at hd
      have hz := take_drop_len l p (by omega)
      rw [hp]
      have eb : ∀ e1 e2 e3 : Expr, ∀ p1 p2 : Pos, Ev prog w h₀ A (lwEnv L f cd) [placeV (p : Int), bestV b, atV a, tkV sh tk, wordV l, shV sh, tnV tn, lvV lv, szV sz, drV dr] e1 (.str (W (l.take p))) → Ev prog w h₀ A (lwEnv L f cd) [placeV (p : Int), bestV b, atV a, tkV sh tk, wordV l, shV sh, tnV tn, lvV lv, szV sz, drV dr] e2 (.str (W [41])) → Ev prog w h₀ A (lwEnv L f cd) [placeV (p : Int), bestV b, atV a, tkV sh tk, wordV l, shV sh, tnV tn, lvV lv, szV sz, drV dr] e3 (.str (W (l.drop (p + 1)))) →
          Ev prog w h₀ A (lwEnv L f cd) [placeV (p : Int), bestV b, atV a, tkV sh tk, wordV l, shV sh, tnV tn, lvV lv, szV sz, drV dr] (.BinOp (.BinOp e1 .Add e2 p1) .Add e3 p2) (.str (W b)) := by
        intro e1 e2 e3 p1 p2 q1 q2 q3
        have := Ev.bin (pos := p2) (Ev.bin (pos := p1) q1 q2 (OpB.addW hz.2)) q3 (OpB.addW hz.1)
        rw [repl_eq, ← hd] at this
        exact this
      exact Ex.assign (Ev.ite_tt (EvT.cmp' (Ev.local lwOk (by rfl)) (Ev.local lwOk (by rfl)) OpC.lt_int (decide_eq_true (by omega))) (eb _ _ _ _ _ (Ev.upto (Ev.local lwOk (by rfl)) (Ev.local lwOk (by rfl)) (by omega)) Ev.shutC (Ev.fromAt (Ev.local lwOk (by rfl)) (Ev.bin (Ev.local lwOk (by rfl)) Ev.int OpB.succ) (by omega)))) lwOk rfl (.inl (by rfl))
    · rw [if_neg q] at hd
      subst hd
      exact Ex.assign (Ev.ite_ff (EvT.cmp' (Ev.local lwOk (by rfl)) (Ev.local lwOk (by rfl)) OpC.lt_int (decide_eq_false q)) Ev.nilC) lwOk rfl (.inl (by rfl))
  have s5 : Ex prog w h₀ A (lwEnv L f cd) [dueV b, placeV (openW l), bestV b, atV a, tkV sh tk, wordV l, shV sh, tnV tn, lvV lv, szV sz, drV dr] (obS 5) .next [(Str.ofString "sign", .int 0), dueV b, placeV (openW l), bestV b, atV a, tkV sh tk, wordV l, shV sh, tnV tn, lvV lv, szV sz, drV dr] := by
    have cp := collP (prog := prog) (w := w) T r b b
    rw [collL_self] at cp
    exact Ex.assign (Ev.callF (Ev.global T.base lwOk T.gstrcoll (by rfl)) T.fstrcoll.isFn (EvArgs.cons (Ev.local lwOk (by rfl)) (EvArgs.cons (Ev.local lwOk (by rfl)) EvArgs.nil)) rfl cp) lwOk rfl (.inl (by rfl))
  have s6 : Ex prog w h₀ A (lwEnv L f cd) [(Str.ofString "sign", .int 0), dueV b, placeV (openW l), bestV b, atV a, tkV sh tk, wordV l, shV sh, tnV tn, lvV lv, szV sz, drV dr] (obS 6) .next [(Str.ofString "sign", .int 0), dueV b, placeV (openW l), bestV b, atV a, tkV sh tk, wordV l, shV sh, tnV tn, lvV lv, szV sz, drV dr] :=
    Ex.if_ff (EvT.or_ff3 (EvT.cmp' (b' := false) (Ev.local lwOk (by rfl)) (Ev.local lwOk (by rfl)) OpC.ne_str (by rw [neW]; simp)) (EvT.notBool T lwOk (by rfl) (by rfl) (by rfl)) (EvT.cmp' (b' := false) (Ev.local lwOk (by rfl)) Ev.int OpC.ne_int (by rfl))) Exs.nil
  have s7 : Ex prog w h₀ A (lwEnv L f cd) [(Str.ofString "sign", .int 0), dueV b, placeV (openW l), bestV b, atV a, tkV sh tk, wordV l, shV sh, tnV tn, lvV lv, szV sz, drV dr] (obS 7) .next [tkV sh (if b = [] then tk else tk ++ [b]), shV sh, tnV tn, lvV lv, szV sz, drV dr] := by
    by_cases q : b = []
    · rw [if_pos q]
      refine (Ex.if_ff (EvT.cmp' (b' := false) (Ev.local lwOk (by rfl)) Ev.nilC OpC.ne_str (by rw [neW, q]; rfl)) Exs.nil).less (LSub.refl _) ?_
      exact LSub.cons (by rfl) (LSub.cons (by rfl) (LSub.cons (by rfl) (LSub.cons (by rfl) (LSub.cons (by rfl) (LSub.cons (by rfl) (LSub.nil _))))))
    · rw [if_neg q]
      have hb2 := hb.resolve_left q
      have em : (tk.map (Pw sh)).map PV.str ++ [.str (Pw sh b)] = ((tk ++ [b]).map (Pw sh)).map .str := by simp
      have hlm : (((tk ++ [b]).map (Pw sh)).map PV.str).length = tk.length + 1 := by simp
      have hz : ((tk.map (Pw sh)).map PV.str).length ≤ sizeLine := by rw [List.length_map, List.length_map, sizeLine_eq]; omega
      have app : Ex prog w h₀ A (lwEnv L f cd) [(Str.ofString "sign", .int 0), dueV b, placeV (openW l), bestV b, atV a, tkV sh tk, wordV l, shV sh, tnV tn, lvV lv, szV sz, drV dr] ((ifBody (obS 7)).getD 0 (.Pass ⟨0, 0, 0, 0⟩)) .next
          [tkV sh (tk ++ [b]), dueV b, shV sh, tnV tn, lvV lv, szV sz, drV dr] :=
        (Ex.append (by rfl) (Ev.callF (Ev.global T.base lwOk T.glaw_flags (by rfl)) T.flaw_flags.isFn (EvArgs.cons (Ev.local lwOk (by rfl)) (EvArgs.cons (Ev.local lwOk (by rfl)) EvArgs.nil)) rfl (flagsP T r h1 h2 hb2.1 hb2.2 hs)) rfl lwOk hz).less (LSub.refl _)
          (LSub.cons (by rw [← em]; rfl) (LSub.cons (by rfl) (LSub.cons (by rfl) (LSub.cons (by rfl) (LSub.cons (by rfl) (LSub.cons (by rfl) (LSub.cons (by rfl) (LSub.nil _))))))))
      have hx : (((tk ++ [b]).map (Pw sh)).map PV.str)[(-1 + ((((tk ++ [b]).map (Pw sh)).map PV.str).length : Int)).toNat]? = some (.str (Pw sh b)) := by
        rw [hlm, show (-1 + ((tk.length + 1 : Nat) : Int)).toNat = tk.length by omega]
        simp
      have chk : Ex prog w h₀ A (lwEnv L f cd) [tkV sh (tk ++ [b]), dueV b, shV sh, tnV tn, lvV lv, szV sz, drV dr] ((ifBody (obS 7)).getD 1 (.Pass ⟨0, 0, 0, 0⟩)) .next [tkV sh (tk ++ [b]), dueV b, shV sh, tnV tn, lvV lv, szV sz, drV dr] :=
        Ex.if_ff (EvT.cmp' (b' := false) (Ev.item_list_neg (xs := ((tk ++ [b]).map (Pw sh)).map .str) (i := -1) (Ev.local lwOk (by rfl)) (Ev.un Ev.int OpU.neg_int) rfl (by decide) (by rw [hlm]; omega) (by decide) hx) (Ev.callF (Ev.global T.base lwOk T.glaw_names (by rfl)) T.flaw_names.isFn (EvArgs.cons (Ev.local lwOk (by rfl)) (EvArgs.cons (Ev.local lwOk (by rfl)) EvArgs.nil)) rfl (namesP T r h2 hb2.1 hs)) OpC.ne_str (by simp)) Exs.nil
      exact Ex.if_tt (EvT.cmp' (b' := true) (Ev.local lwOk (by rfl)) Ev.nilC OpC.ne_str (by rw [neW]; simp [q])) (Exs.cons app (Exs.cons chk (Exs.nil.less (LSub.refl _) (LSub.cons (by rfl) (LSub.cons (by rfl) (LSub.cons (by rfl) (LSub.cons (by rfl) (LSub.cons (by rfl) (LSub.cons (by rfl) (LSub.nil _))))))))))
  exact Exs.cons s0 (Exs.cons s1 (Exs.cons s2 (Exs.cons s3 (Exs.cons s4 (Exs.cons s5 (Exs.cons s6 (Exs.cons s7 Exs.nil)))))))
theorem outer_loop (T : Tops h₀ mg mb) (r : Room A) {sz sh tn : Nat} {dr : List Int} {lv : List (List Nat)} (h1 : 3 ≤ sz) (h2 : sz ≤ 5) (hs : sh < 7) (htn : tn < sz) : ∀ (ws tk : List (List Nat)), outT sz tn ws tk = true → (∀ y ∈ ws, isW sz y) → (∀ y ∈ tk, isW sz y) → ws.length + tk.length ≤ 100 →
    ForS prog w h₀ A (lwEnv L f cd) (Str.ofString "word") (forBody (lwS 10)) (forElse (lwS 10)) [tkV sh tk, shV sh, tnV tn, lvV lv, szV sz, drV dr] (ws.map fun l => PV.str (W l)) .next [lvV lv, szV sz, drV dr]
  | [], tk, _, _, _, _ => .done (Exs.nil.less (LSub.refl _) (LSub.cons (by rfl) (LSub.cons (by rfl) (LSub.cons (by rfl) (LSub.nil _)))))
  | l :: ws, tk, h, hw, htk, hl => by
    unfold outT at h
    cases e : inT sz tn l tk sz 0 [] sz with
    | none => rw [e] at h; cases h
    | some x =>
      obtain ⟨b, a⟩ := x
      rw [e] at h
      simp only [Bool.and_eq_true, decide_eq_true_eq] at h
      obtain ⟨⟨hd, ho⟩, h3⟩ := h
      have hlw := hw l (.head _)
      have hb := inT_isW hlw (by omega) sz 0 [] sz b a e (.inl rfl)
      refine .turn rfl (outer_turn T r h1 h2 hs htn hlw htk (by simp at hl; omega) e hd ho) ?_
      by_cases q : b = []
      · rw [if_pos q] at h3 ⊢
        exact outer_loop T r h1 h2 hs htn ws tk h3 (fun y hy => hw y (.tail _ hy)) htk (by simp at hl; omega)
      · rw [if_neg q] at h3 ⊢
        refine outer_loop T r h1 h2 hs htn ws (tk ++ [b]) h3 (fun y hy => hw y (.tail _ hy)) (fun y hy => ?_) (by simp at hl ⊢; omega)
        rcases List.mem_append.mp hy with hy | hy
        · exact htk y hy
        · rw [List.mem_singleton.mp hy]; exact (hb.resolve_left q).1
theorem st10 (T : Tops h₀ mg mb) (r : Room A) {sz sh tn : Nat} {dr : List Int} {lv : List (List Nat)} (h1 : 3 ≤ sz) (h2 : sz ≤ 5) (hs : sh < 7) (htn : tn < sz) (ho : outT sz tn lv [] = true) (hw : ∀ y ∈ lv, isW sz y) (hl2 : lv.length ≤ 40) :
    Ex prog w h₀ A (lwEnv L f cd) [tkV sh [], shV sh, tnV tn, rowV lv.reverse, lvV lv, szV sz, drV dr] (lwS 10) .next [lvV lv, szV sz, drV dr] := by
  have F0 := outer_loop (prog := prog) (w := w) (A := A) (L := L) (f := f) (cd := cd) T r (dr := dr) (lv := lv) h1 h2 hs htn lv [] ho hw (fun y hy => by cases hy) (by simp; omega)
  have e1 : sliceL ((lv.reverse.map W).map PV.str) none none (some (-1)) = lv.map fun l => PV.str (W l) := by rw [sliceL_rev]; simp
  rw [← e1] at F0
  have hz : ((lv.reverse.map W).map PV.str).length ≤ sizeLine := by rw [List.length_map, List.length_map, List.length_reverse, sizeLine_eq]; omega
  exact Ex.for_ (EvI.list (p := .none) (Ev.slice_listS (Ev.local lwOk (by rfl)) rfl EvP.none EvP.none (EvP.some (Ev.un Ev.int OpU.neg_int)) (by simp) hz) r.h) lwOk (.inr (by rfl)) (F0.lessIn (LSub.cons (by rfl) (LSub.cons (by rfl) (LSub.cons (by rfl) (LSub.cons (by rfl) (LSub.cons (by rfl) (LSub.cons (by rfl) (LSub.nil _))))))))
end
end Mine
end
section
open PySem PySem.W PyProof.Rows PySem.Spec PySem.Calls
set_option maxRecDepth 100000
set_option maxHeartbeats 4000000
namespace Mine
def remL : List (List UInt8) := [[], [34, 41, 34], [34, 92, 34, 40, 40, 34], [34, 40, 92, 92, 34]]
def rmElts : List Expr := eltsOf (lwS 11)
theorem rmElts_eq : rmElts = (remL.zip (rmElts.map posOf)).map fun x => Expr.Constant (.bytes x.1) 0 x.2 := rfl
theorem rm_zip : ((remL.zip (rmElts.map posOf)).map fun x => PV.bytes x.1.toArray) = remL.map fun l => PV.bytes l.toArray := rfl
abbrev remV : Str × PV := (Str.ofString "remarks", .list (remL.map fun l => PV.bytes l.toArray))
theorem rem_toks : ∀ j, j < 4 → Rx.Toks ((remL.getD j []).map (·.toNat)) [] := by
  intro j hj
  have : j = 0 ∨ j = 1 ∨ j = 2 ∨ j = 3 := by omega
  rcases this with rfl | rfl | rfl | rfl
  · exact .nil
  · exact Rx.Toks.q (b := [41]) (.one (by decide) (by decide) .nil) .nil
  · exact Rx.Toks.q (b := [92, 34, 40, 40]) (.two (by decide) (.one (by decide) (by decide) (.one (by decide) (by decide) .nil))) .nil
  · exact Rx.Toks.q (b := [40, 92, 92]) (.one (by decide) (by decide) (.two (by decide) .nil)) .nil
theorem toks_app {a o : List Nat} (h : Rx.Toks a o) {b p : List Nat} (k : Rx.Toks b p) : Rx.Toks (a ++ b) (o ++ p) := by
  induction h with
  | nil => exact k
  | pl hc _ ih => exact .pl hc ih
  | @q bd r o hb _ ih =>
    have := Rx.Toks.q hb ih
    simpa using this
theorem natsB_app (a b : Array UInt8) : Rx.natsB (a ++ b) = Rx.natsB a ++ Rx.natsB b := by simp [Rx.natsB]
theorem pdep40 (d : Int) : pdep [40] d = d + 1 := by
  have h1 : cntB (Rx.byt [40]) 40 = 1 := by decide +kernel
  have h2 : cntB (Rx.byt [40]) 41 = 0 := by decide +kernel
  unfold pdep; rw [h1, h2]; omega
theorem pdep41 (d : Int) : pdep [41] d = d - 1 := by
  have h1 : cntB (Rx.byt [41]) 40 = 0 := by decide +kernel
  have h2 : cntB (Rx.byt [41]) 41 = 1 := by decide +kernel
  unfold pdep; rw [h1, h2]; omega
theorem dps_len : ∀ (l : List Nat) (s : Int), (dps s l).length = l.length + 1
  | [], _ => rfl
  | c :: r, s => by unfold dps; rw [List.length_cons, dps_len r, List.length_cons]
theorem dps_snoc : ∀ (l : List Nat) (s : Int) (c : Nat), dps s (l ++ [c]) = dps s l ++ [if c == 40 then (dps s l).getD l.length 0 + 1 else (dps s l).getD l.length 0 - 1]
  | [], s, c => rfl
  | a :: r, s, c => by
    rw [List.cons_append]
    unfold dps
    rw [dps_snoc r]
    simp
section
variable {prog : Program} {w : World} {h₀ : Heap} {mg mb : Str → Option Value} {A : Around} {env : Env} {loc : Loc} {L f : Addr} {cd : Value}
theorem st11 {lv : List (List Nat)} {sz : Nat} {dr : List Int} : Ex prog w h₀ A (lwEnv L f cd) [lvV lv, szV sz, drV dr] (lwS 11) .next [remV, lvV lv, szV sz, drV dr] := by
  show Ex _ _ _ _ _ _ (.Assign [.Name (Str.ofString "remarks") ⟨131, 4, 131, 11⟩] (.List rmElts ⟨131, 14, 131, 51⟩) ⟨131, 4, 131, 51⟩) _ _
  have hsw : swapsWith (.List rmElts ⟨131, 14, 131, 51⟩) (some (.Name (Str.ofString "remarks") ⟨131, 4, 131, 11⟩)) (⟨131, 4, 131, 51⟩ : Pos).line (lwEnv L f cd) = Pure.pure false := rfl
  obtain ⟨zz, hz⟩ : ∃ zz, zz = remL.zip (rmElts.map posOf) := ⟨_, rfl⟩
  have e1 : rmElts = zz.map fun x => Expr.Constant (.bytes x.1) 0 x.2 := by rw [hz]; exact rmElts_eq
  have e2 : zz.map (fun x => PV.bytes x.1.toArray) = remL.map fun l => PV.bytes l.toArray := by rw [hz]; exact rm_zip
  revert e1 hsw
  generalize rmElts = elts
  intro hsw e1
  have hm : EvArgs prog w h₀ A (lwEnv L f cd) [lvV lv, szV sz, drV dr] elts (remL.map fun l => PV.bytes l.toArray) := by
    rw [e1, ← e2]
    exact EvArgs.bytesC zz
  exact Ex.assign (Ev.list hm (by rfl) (by rw [sizeLine_eq]; decide)) lwOk rfl (.inl (by rfl)) hsw
end
end Mine
end
section
open PySem PySem.W PyProof.Rows PySem.Spec PySem.Calls
set_option maxRecDepth 100000
set_option maxHeartbeats 4000000
namespace Mine
def cbS (i : Nat) : Stmt := (forBody (lwS 12)).getD i (.Pass ⟨0, 0, 0, 0⟩)
abbrev xV (x : Int) : Str × PV := (Str.ofString "x", .int x)
abbrev startV (x : Int) : Str × PV := (Str.ofString "start", .int x)
abbrev textV (t : Array UInt8) : Str × PV := (Str.ofString "text", .bytes t)
abbrev depV (d : List Int) : Str × PV := (Str.ofString "depths", .own none (d.map .int))
theorem natsB_list (l : List UInt8) : Rx.natsB l.toArray = l.map (·.toNat) := by simp [Rx.natsB]
theorem remL_size : ∀ j, j < 4 → (remL.getD j []).length ≤ 6 := by decide
section
variable {prog : Program} {w : World} {h₀ : Heap} {mg mb : Str → Option Value} {A : Around} {env : Env} {loc : Loc} {L f : Addr} {cd : Value}
theorem Ev.lenLv {np pos : Pos} {e : Expr} {lv : List (List Nat)} (hB : Base h₀ mg mb) (hE : EnvOk env) (hlen : mg "len" = Option.none) (hlenb : mb "len" = Option.some (.builtin "len")) (he : Ev prog w h₀ A env loc e (wordsPV lv)) (hl : lv.length < 100000)
    (hx : env.kindOf (Str.ofString "len") = Option.some .globalImplicit) (hst : starEach [e] env = (false, eval e env) :: starEach [] env := by rfl) : Ev prog w h₀ A env loc (.Call (.Name (Str.ofString "len") np) [e] [] pos) (.int (lv.length : Nat)) := by
  have := Ev.lenL (np := np) (pos := pos) (xs := lv.map fun l => PV.str (W l)) hB hE hlen hlenb he rfl (by rw [lv_len]; exact hl) hx hst
  rw [lv_len] at this; exact this
theorem depth_loop (T : Tops h₀ mg mb) (r : Room A) {sz : Nat} {dr : List Int} {lv : List (List Nat)} {l : List Nat} {x s : Int} (h2 : sz ≤ 5) (hl : isW sz l) :
    ∀ (suf pre : List Nat) (t : Array UInt8), pre ++ suf = l → Rx.Toks (Rx.natsB t) pre → t.size ≤ 10 * pre.length →
      ∃ t', Rx.Toks (Rx.natsB t') l ∧ t'.size ≤ 10 * l.length ∧
      ForS prog w h₀ A (lwEnv L f cd) (Str.ofString "k") (forBody (cbS 4)) (forElse (cbS 4)) [textV t, depV (dps s pre), startV s, wordV l, xV x, remV, lvV lv, szV sz, drV dr] (rangeFrom pre.length suf.length) .next [textV t', depV (dps s l), startV s, wordV l, xV x, remV, lvV lv, szV sz, drV dr] := by
  intro suf
  induction suf with
  | nil =>
    intro pre t hp ht hz
    rw [List.append_nil] at hp
    subst hp
    exact ⟨t, ht, hz, .done Exs.nil⟩
  | cons c rest ih =>
    intro pre t hp ht hz
    have hlen : pre.length < l.length := by rw [← hp]; simp
    have hll := hl.1
    have hc : (W l).cps[((pre.length : Int)).toNat]? = some c := by rw [Int.toNat_natCast, W_at, ← hp]; simp
    have hcc : c = 40 ∨ c = 41 := hl.2 c (by rw [← hp]; simp)
    obtain ⟨j, hj, hjm⟩ : ∃ j : Nat, j < 4 ∧ (x.fdiv 10 + (pre.length : Int)).fmod 4 = (j : Int) := by
      refine ⟨((x.fdiv 10 + (pre.length : Int)).fmod 4).toNat, ?_, ?_⟩
      · rw [Int.fmod_eq_emod_of_nonneg _ (by decide)]; omega
      · rw [Int.fmod_eq_emod_of_nonneg _ (by decide)]; omega
    have hrl := remL_size j hj
    have hrt := rem_toks j hj
    generalize hrj : remL.getD j [] = R at *
    have hix : (remL.map fun l => PV.bytes l.toArray)[((j : Nat) : Int).toNat]? = some (.bytes R.toArray) := by
      have hlr : remL.length = 4 := rfl
      rw [Int.toNat_natCast, List.getElem?_map, List.getElem?_eq_getElem (by omega), ← hrj, List.getD_eq_getElem?_getD, List.getElem?_eq_getElem (by omega)]; rfl
    -- the piece
    have htp : Rx.Toks (Rx.natsB (R.toArray ++ #[c.toUInt8])) [c] := by
      rw [natsB_app, natsB_list]
      have : Rx.natsB #[c.toUInt8] = [c] := by rcases hcc with rfl | rfl <;> rfl
      rw [this]
      have h := toks_app hrt (Rx.Toks.pl (c := c) (r := []) (o := []) (by rcases hcc with rfl | rfl <;> decide) .nil)
      simpa using h
    have hps : (R.toArray ++ #[c.toUInt8]).size ≤ 7 := by simp; omega
    have e0 : ∃ d, (dps s pre).getD pre.length 0 = d := ⟨_, rfl⟩
    obtain ⟨d, hd⟩ := e0
    have hsn := dps_snoc pre s c
    rw [hd] at hsn
    have hpd : pdep [c] d = (if c == 40 then d + 1 else d - 1) := by
      rcases hcc with rfl | rfl
      · rw [pdep40]; rfl
      · rw [pdep41]; rfl
    have hdl := dps_len pre s
    obtain ⟨t', q1, q2, F1⟩ := ih (pre ++ [c]) (t ++ (R.toArray ++ #[c.toUInt8])) (by rw [← hp]; simp) (by rw [natsB_app]; exact toks_app ht htp) (by rw [Array.size_append]; simp only [List.length_append, List.length_singleton]; omega)
    refine ⟨t', q1, q2, ?_⟩
    rw [show (pre ++ [c]).length = pre.length + 1 by simp, hsn, ← hpd] at F1
    rw [List.length_cons, rangeFrom_succ]
    refine .turn rfl ?_ F1
    generalize dps s pre = D at *
    have s0 : Ex prog w h₀ A (lwEnv L f cd) [(Str.ofString "k", .int (pre.length : Int)), textV t, depV D, startV s, wordV l, xV x, remV, lvV lv, szV sz, drV dr] ((forBody (cbS 4)).getD 0 (.Pass ⟨0, 0, 0, 0⟩)) .next
        [(Str.ofString "piece", .bytes (R.toArray ++ #[c.toUInt8])), (Str.ofString "k", .int (pre.length : Int)), textV t, depV D, startV s, wordV l, xV x, remV, lvV lv, szV sz, drV dr] := by
      rcases hcc with rfl | rfl
      · exact Ex.assign (Ev.bin (Ev.item_list (xs := remL.map fun l => PV.bytes l.toArray) (Ev.local lwOk (by rfl)) (Ev.bin (Ev.bin (Ev.bin (Ev.local lwOk (by rfl)) Ev.int (OpB.fdivS (by decide) (by decide))) (Ev.local lwOk (by rfl)) OpB.add_int) Ev.int (OpB.toNat (OpB.mod_int (by decide)) hjm)) rfl (by omega) (by omega) hix) (Ev.ite_tt (EvT.cmp' (Ev.item_str (Ev.local lwOk (by rfl)) (Ev.local lwOk (by rfl)) (by omega) (by omega) hc) Ev.openC OpC.eq_str (by rw [sign_eq]; rfl)) Ev.bytes) (OpB.add_bytes (by simp; omega))) lwOk rfl (.inl (by rfl))
      · exact Ex.assign (Ev.bin (Ev.item_list (xs := remL.map fun l => PV.bytes l.toArray) (Ev.local lwOk (by rfl)) (Ev.bin (Ev.bin (Ev.bin (Ev.local lwOk (by rfl)) Ev.int (OpB.fdivS (by decide) (by decide))) (Ev.local lwOk (by rfl)) OpB.add_int) Ev.int (OpB.toNat (OpB.mod_int (by decide)) hjm)) rfl (by omega) (by omega) hix) (Ev.ite_ff (EvT.cmp' (Ev.item_str (Ev.local lwOk (by rfl)) (Ev.local lwOk (by rfl)) (by omega) (by omega) hc) Ev.openC OpC.eq_str (by rw [sign_eq]; rfl)) Ev.bytes) (OpB.add_bytes (by simp; omega))) lwOk rfl (.inl (by rfl))
    have s1 : Ex prog w h₀ A (lwEnv L f cd) [(Str.ofString "piece", .bytes (R.toArray ++ #[c.toUInt8])), (Str.ofString "k", .int (pre.length : Int)), textV t, depV D, startV s, wordV l, xV x, remV, lvV lv, szV sz, drV dr] ((forBody (cbS 4)).getD 1 (.Pass ⟨0, 0, 0, 0⟩)) .next
        [textV (t ++ (R.toArray ++ #[c.toUInt8])), (Str.ofString "piece", .bytes (R.toArray ++ #[c.toUInt8])), (Str.ofString "k", .int (pre.length : Int)), textV t, depV D, startV s, wordV l, xV x, remV, lvV lv, szV sz, drV dr] :=
      Ex.aug (by rfl) (Ev.local lwOk (by rfl)) lwOk rfl (.inl (by rfl)) (aug_bytes (by omega))
    have hx : (D.map PV.int)[(-1 + ((D.map PV.int).length : Int)).toNat]? = some (.int d) := by
      rw [List.length_map, hdl, show (-1 + ((pre.length + 1 : Nat) : Int)).toNat = pre.length by omega, List.getElem?_map, List.getElem?_eq_getElem (by omega), ← hd, List.getD_eq_getElem?_getD, List.getElem?_eq_getElem (by omega)]; rfl
    have pc := paren2 (prog := prog) (w := w) (A := A) T.fparen_depth T.t37 T.base T.gquoted T.pat (by have := r.d; omega) htp (by omega) (by simp) d
    have em : D.map PV.int ++ [.int (pdep [c] d)] = (D ++ [pdep [c] d]).map .int := by simp
    have s2 : Ex prog w h₀ A (lwEnv L f cd) [textV (t ++ (R.toArray ++ #[c.toUInt8])), (Str.ofString "piece", .bytes (R.toArray ++ #[c.toUInt8])), (Str.ofString "k", .int (pre.length : Int)), textV t, depV D, startV s, wordV l, xV x, remV, lvV lv, szV sz, drV dr] ((forBody (cbS 4)).getD 2 (.Pass ⟨0, 0, 0, 0⟩)) .next
        [textV (t ++ (R.toArray ++ #[c.toUInt8])), depV (D ++ [pdep [c] d]), startV s, wordV l, xV x, remV, lvV lv, szV sz, drV dr] :=
      (Ex.append (by rfl) (Ev.callF (Ev.global T.base lwOk T.gparen_depth (by rfl)) T.fparen_depth.isFn (EvArgs.cons (Ev.local lwOk (by rfl)) (EvArgs.cons (Ev.item_list_neg (xs := D.map .int) (i := -1) (Ev.local lwOk (by rfl)) (Ev.un Ev.int OpU.neg_int) rfl (by decide) (by rw [List.length_map]; omega) (by decide) hx) EvArgs.nil)) rfl pc) rfl lwOk (by rw [List.length_map, sizeLine_eq]; omega)).less (LSub.refl _)
        (LSub.cons (by rfl) (LSub.cons (by rw [← em]; rfl) (LSub.cons (by rfl) (LSub.cons (by rfl) (LSub.cons (by rfl) (LSub.cons (by rfl) (LSub.cons (by rfl) (LSub.cons (by rfl) (LSub.cons (by rfl) (LSub.nil _))))))))))
    exact Exs.cons s0 (Exs.cons s1 (Exs.cons s2 Exs.nil))
end
end Mine
end
section
open PySem PySem.W PyProof.Rows PySem.Spec PySem.Calls
set_option maxRecDepth 100000
set_option maxHeartbeats 4000000
namespace Mine
def fFl (D : List Int) : PV → PV
  | .int k => .int (minL (D.drop k.toNat))
  | p => p
def fSk (D : List Int) : PV → PV
  | .int k => .int (-(minL (D.take (k.toNat + 1))))
  | p => p
def ptLess (l : List Nat) : PV → Bool
  | .int k => l.getD k.toNat 0 == 41 && openW (repl40 l k.toNat) == k
  | _ => false
abbrev flV (ns : List Int) : Str × PV := (Str.ofString "floors", .list (ns.map .int))
abbrev skV (ns : List Int) : Str × PV := (Str.ofString "sinks", .list (ns.map .int))
abbrev fiV (n : Nat) : Str × PV := (Str.ofString "first", .int (n : Int))
abbrev leV (ns : List Int) : Str × PV := (Str.ofString "less", .list (ns.map .int))
theorem map_range_all {n : Nat} (g : Nat → Int) (f : PV → PV) (h : ∀ k : Nat, f (.int (k : Int)) = .int (g k)) : ((rangePV (n : Int)).filter fun _ => true).map f = ((List.range n).map g).map .int := by
  rw [List.filter_eq_self.mpr (by intros; rfl)]
  unfold rangePV
  rw [Int.toNat_natCast, List.map_map, List.map_map]
  exact List.map_congr_left fun k _ => h k
section
variable {prog : Program} {w : World} {h₀ : Heap} {mg mb : Str → Option Value} {A : Around} {env : Env} {loc : Loc} {L f : Addr} {cd : Value}
theorem cs6 (T : Tops h₀ mg mb) (r : Room A) {Γ : Loc} {l : List Nat} {sz : Nat} {s : Int} (h2 : sz ≤ 5) (hl : l.length = sz) (hs : Γ.lookup (Str.ofString "size") = some (.int (sz : Int))) (hd : Γ.lookup (Str.ofString "depths") = some (.own none ((dps s l).map .int))) :
    Ex prog w h₀ A (lwEnv L f cd) Γ (cbS 6) .next (flV (floorsW s l) :: Γ) := by
  have hdl := dps_len l s
  have e : ((rangePV ((sz + 1 : Nat) : Int)).filter fun _ => true).map (fFl (dps s l)) = (floorsW s l).map .int := by
    rw [map_range_all (fun k => minL ((dps s l).drop k)) _ (fun k => rfl)]
    unfold floorsW; rw [hl]
  show Ex _ _ _ _ _ _ _ _ ((Str.ofString "floors", .list ((floorsW s l).map .int)) :: Γ)
  rw [← e]
  refine Ex.comp (loc' := [depV (dps s l)]) (xs := rangePV ((sz + 1 : Nat) : Int)) ?_ (EvW.range T.base (Ev.builtin T.base lwOk T.nrange T.brange (by rfl)) (Ev.bin (Ev.local lwOk hs) Ev.int OpB.succ) r.h (by omega) (by omega)) lwOk (by rfl) (by rfl) (by decide) (by rfl) (by decide) (by rfl) (by rfl) (by simp [rangePV, sizeLine_eq]; omega)
  refine ⟨?_, ?_, ?_, ?_, ?_⟩
  · exact look1 ⟨hd, by rfl, by rfl, by rfl⟩
  · intro p hp; obtain ⟨k, _, rfl⟩ := mem_range hp; rfl
  · intro C p hp; exact .inl ⟨rfl, rfl⟩
  · intro C p hp _
    obtain ⟨k, hk, rfl⟩ := mem_range hp
    have es : sliceL ((dps s l).map PV.int) (some ((k : Nat) : Int)) none none = ((dps s l).drop k).map .int := by rw [sliceL_from, List.map_drop]
    have hne : (dps s l).drop k ≠ [] := by
      intro z
      have := congrArg List.length z
      rw [List.length_drop, hdl] at this
      simp at this; omega
    show Ev _ _ _ _ _ _ _ (.int (minL ((dps s l).drop ((k : Int)).toNat)))
    rw [Int.toNat_natCast]
    exact Ev.callB (Ev.builtin T.base (compEnvOk lwOk (by rfl)) T.nmin T.bmin (by rfl)) (EvArgs.cons (Ev.slice_list (Ev.local (compEnvOk lwOk (by rfl)) (by rfl)) rfl (EvP.some (Ev.local (compEnvOk lwOk (by rfl)) (by rfl))) EvP.none EvP.none (by simp) (by rw [List.length_map, sizeLine_eq]; omega)) EvArgs.nil) (OpF.min_ints r.h (congrArg some es) hne)
  · intro p hp _; obtain ⟨k, _, rfl⟩ := mem_range hp; rfl
theorem cs8 (T : Tops h₀ mg mb) (r : Room A) {Γ : Loc} {l : List Nat} {sz : Nat} {s : Int} (h2 : sz ≤ 5) (hl : l.length = sz) (hs : Γ.lookup (Str.ofString "size") = some (.int (sz : Int))) (hd : Γ.lookup (Str.ofString "depths") = some (.own none ((dps s l).map .int))) :
    Ex prog w h₀ A (lwEnv L f cd) Γ (cbS 8) .next (skV (sinksW s l) :: Γ) := by
  have hdl := dps_len l s
  have e : ((rangePV ((sz + 1 : Nat) : Int)).filter fun _ => true).map (fSk (dps s l)) = (sinksW s l).map .int := by
    rw [map_range_all (fun k => -(minL ((dps s l).take (k + 1)))) _ (fun k => rfl)]
    unfold sinksW; rw [hl]
  show Ex _ _ _ _ _ _ _ _ ((Str.ofString "sinks", .list ((sinksW s l).map .int)) :: Γ)
  rw [← e]
  refine Ex.comp (loc' := [depV (dps s l)]) (xs := rangePV ((sz + 1 : Nat) : Int)) ?_ (EvW.range T.base (Ev.builtin T.base lwOk T.nrange T.brange (by rfl)) (Ev.bin (Ev.local lwOk hs) Ev.int OpB.succ) r.h (by omega) (by omega)) lwOk (by rfl) (by rfl) (by decide) (by rfl) (by decide) (by rfl) (by rfl) (by simp [rangePV, sizeLine_eq]; omega)
  refine ⟨?_, ?_, ?_, ?_, ?_⟩
  · exact look1 ⟨hd, by rfl, by rfl, by rfl⟩
  · intro p hp; obtain ⟨k, _, rfl⟩ := mem_range hp; rfl
  · intro C p hp; exact .inl ⟨rfl, rfl⟩
  · intro C p hp _
    obtain ⟨k, hk, rfl⟩ := mem_range hp
    have es : sliceL ((dps s l).map PV.int) none (some ((k + 1 : Nat) : Int)) none = ((dps s l).take (k + 1)).map .int := by rw [sliceL_upto, List.map_take]
    have hne : (dps s l).take (k + 1) ≠ [] := by
      intro z
      have := congrArg List.length z
      rw [List.length_take, hdl] at this
      simp at this
    show Ev _ _ _ _ _ _ _ (.int (-(minL ((dps s l).take (((k : Int)).toNat + 1)))))
    rw [Int.toNat_natCast]
    exact Ev.un (Ev.callB (Ev.builtin T.base (compEnvOk lwOk (by rfl)) T.nmin T.bmin (by rfl)) (EvArgs.cons (Ev.slice_list (Ev.local (compEnvOk lwOk (by rfl)) (by rfl)) rfl EvP.none (EvP.some (Ev.bin (Ev.local (compEnvOk lwOk (by rfl)) (by rfl)) Ev.int OpB.succ)) EvP.none (by simp) (by rw [List.length_map, sizeLine_eq]; omega)) EvArgs.nil) (OpF.min_ints r.h (congrArg some es) hne)) OpU.neg_int
  · intro p hp _; obtain ⟨k, _, rfl⟩ := mem_range hp; rfl
theorem cs10 (T : Tops h₀ mg mb) (r : Room A) {Γ : Loc} {l : List Nat} {sz : Nat} (h2 : sz ≤ 5) (hl : l.length = sz) (hs : Γ.lookup (Str.ofString "size") = some (.int (sz : Int))) (hd : Γ.lookup (Str.ofString "word") = some (.str (W l))) :
    Ex prog w h₀ A (lwEnv L f cd) Γ (cbS 10) .next (leV ((lessW l).map fun (k : Nat) => (k : Int)) :: Γ) := by
  have e : ((rangePV (sz : Int)).filter (ptLess l)).map (fun p => p) = ((lessW l).map fun (k : Nat) => (k : Int)).map .int := by
    unfold rangePV lessW
    rw [Int.toNat_natCast, List.filter_map, List.map_id', List.map_map, hl]
    rfl
  show Ex _ _ _ _ _ _ _ _ ((Str.ofString "less", .list (((lessW l).map fun (k : Nat) => (k : Int)).map .int)) :: Γ)
  rw [← e]
  refine Ex.comp (loc' := [wordV l]) (xs := rangePV (sz : Int)) ?_ (EvW.range T.base (Ev.builtin T.base lwOk T.nrange T.brange (by rfl)) (Ev.local lwOk hs) r.h (by omega) (by omega)) lwOk (by rfl) (by rfl) (by decide) (by rfl) (by decide) (by rfl) (by rfl) (by simp [rangePV, sizeLine_eq]; omega)
  refine ⟨?_, ?_, ?_, ?_, ?_⟩
  · exact look1 ⟨hd, by rfl, by rfl, by rfl⟩
  · intro p hp; obtain ⟨k, _, rfl⟩ := mem_range hp; rfl
  · intro C p hp
    obtain ⟨k, hk, rfl⟩ := mem_range hp
    refine .inr ⟨_, rfl, ?_⟩
    have hz := take_drop_len l k (by omega)
    have hz' : (l.take k ++ [40]).length + (l.drop (k + 1)).length ≤ 1000 := by simp at hz ⊢; omega
    have hz'' : (l.take k).length + [40].length ≤ 1000 := by simp; omega
    have hc : (W l).cps[((k : Int)).toNat]? = some (l.getD k 0) := by
      rw [Int.toNat_natCast, W_at, List.getD_eq_getElem?_getD, List.getElem?_eq_getElem (by omega)]; rfl
    have hlen : (repl40 l k).length ≤ 1000 := by rw [← repl40_eq, List.length_append]; exact hz'
    show EvT _ _ _ _ _ _ _ (l.getD ((k : Int)).toNat 0 == 41 && openW (repl40 l ((k : Int)).toNat) == (k : Int))
    rw [Int.toNat_natCast]
    have op := openP (prog := prog) (w := w) T r hlen
    cases q : (l.getD k 0 == 41) with
    | false =>
      rw [Bool.false_and]
      exact EvT.and_ff (EvT.cmp' (Ev.item_str (Ev.local (compEnvOk lwOk (by rfl)) (by rfl)) (Ev.local (compEnvOk lwOk (by rfl)) (by rfl)) (by omega) (by omega) hc) Ev.shutC OpC.eq_str (by rw [sign_eq]; exact q))
    | true =>
      rw [Bool.true_and]
      refine EvT.and_tt (EvT.cmp' (Ev.item_str (Ev.local (compEnvOk lwOk (by rfl)) (by rfl)) (Ev.local (compEnvOk lwOk (by rfl)) (by rfl)) (by omega) (by omega) hc) Ev.shutC OpC.eq_str (by rw [sign_eq]; exact q)) (EvT.cmp' (Ev.callF (Ev.global T.base (compEnvOk lwOk (by rfl)) T.glaw_open (by rfl)) T.flaw_open.isFn (EvArgs.cons (p := .str (W (repl40 l k))) ?_ EvArgs.nil) rfl op) (Ev.local (compEnvOk lwOk (by rfl)) (by rfl)) OpC.eq_int rfl)
      rw [← repl40_eq]
      exact Ev.bin (Ev.bin (Ev.upto (Ev.local (compEnvOk lwOk (by rfl)) (by rfl)) (Ev.local (compEnvOk lwOk (by rfl)) (by rfl)) (by omega)) Ev.openC (OpB.addW hz'')) (Ev.fromAt (Ev.local (compEnvOk lwOk (by rfl)) (by rfl)) (Ev.bin (Ev.local (compEnvOk lwOk (by rfl)) (by rfl)) Ev.int OpB.succ) (by omega)) (OpB.addW hz')
  · intro C p hp hpt
    obtain ⟨k, hk, rfl⟩ := mem_range hp
    exact Ev.local (compEnvOk lwOk (by rfl)) (by rfl)
  · intro p hp _; obtain ⟨k, _, rfl⟩ := mem_range hp; rfl
end
end Mine
end
section
open PySem PySem.W PyProof.Rows PySem.Spec PySem.Calls
set_option maxRecDepth 100000
set_option maxHeartbeats 4000000
namespace Mine
section
variable {prog : Program} {w : World} {h₀ : Heap} {mg mb : Str → Option Value} {A : Around} {env : Env} {loc : Loc} {L f : Addr} {cd : Value}
theorem x_turn (T : Tops h₀ mg mb) (r : Room A) {sz : Nat} {dr : List Int} {lv : List (List Nat)} {x : Int} (h1 : 3 ≤ sz) (h2 : sz ≤ 5) (hw : ∀ y ∈ lv, isW sz y) (hpos : 0 < lv.length) (hl2 : lv.length ≤ 40) (hok : ∀ l ∈ lv, ∀ s : Int, -4 ≤ s → s ≤ 4 → okW s l = true) :
    Exs prog w h₀ A (lwEnv L f cd) [xV x, remV, lvV lv, szV sz, drV dr] (forBody (lwS 12)) .next [remV, lvV lv, szV sz, drV dr] := by
  obtain ⟨i, hi, him⟩ : ∃ i : Nat, i < lv.length ∧ x.fmod (lv.length : Int) = (i : Int) := by
    refine ⟨(x.fmod (lv.length : Int)).toNat, ?_, ?_⟩
    · rw [Int.fmod_eq_emod_of_nonneg _ (by omega)]
      have := Int.emod_lt_of_pos x (show (0 : Int) < lv.length by omega)
      have := Int.emod_nonneg x (show (lv.length : Int) ≠ 0 by omega)
      omega
    · rw [Int.fmod_eq_emod_of_nonneg _ (by omega)]
      have := Int.emod_nonneg x (show (lv.length : Int) ≠ 0 by omega)
      omega
  obtain ⟨s, hs⟩ : ∃ s : Int, (x.fdiv 40).fmod 9 - 4 = s := ⟨_, rfl⟩
  have hs1 : -4 ≤ s ∧ s ≤ 4 := by
    rw [← hs, Int.fmod_eq_emod_of_nonneg _ (by decide)]; omega
  have hlm : lv[i] ∈ lv := List.getElem_mem hi
  have hx0 : (lv.map fun l => PV.str (W l))[((i : Nat) : Int).toNat]? = some (.str (W lv[i])) := by
    rw [Int.toNat_natCast, List.getElem?_map, List.getElem?_eq_getElem hi]; rfl
  have hl := hw _ hlm
  have hkk := hok _ hlm s hs1.1 hs1.2
  generalize lv[i] = l at *
  have hlen := hl.1
  have hdl := dps_len l s
  unfold okW at hkk
  simp only [Bool.and_eq_true, decide_eq_true_eq] at hkk
  obtain ⟨⟨k1, k2⟩, k3⟩ := hkk
  obtain ⟨t', q1, q2, F0⟩ := depth_loop (prog := prog) (w := w) (A := A) (L := L) (f := f) (cd := cd) T r (dr := dr) (lv := lv) (x := x) (s := s) h2 hl l [] #[] rfl .nil (Nat.zero_le _)
  rw [show ([] : List Nat).length = 0 from rfl, hlen, ← rangePV_eq] at F0
  have s0 : Ex prog w h₀ A (lwEnv L f cd) [xV x, remV, lvV lv, szV sz, drV dr] (cbS 0) .next [wordV l, xV x, remV, lvV lv, szV sz, drV dr] :=
    Ex.assign (Ev.item_list (xs := lv.map fun l => PV.str (W l)) (Ev.local lwOk (by rfl)) (Ev.bin (Ev.local lwOk (by rfl)) (Ev.lenLv T.base lwOk T.nlen T.blen (Ev.local lwOk (by rfl)) (by omega) (by rfl)) (OpB.toNat (OpB.mod_int (by omega)) him)) rfl (by omega) (by omega) hx0) lwOk rfl (.inr (by rfl))
  have s1 : Ex prog w h₀ A (lwEnv L f cd) [wordV l, xV x, remV, lvV lv, szV sz, drV dr] (cbS 1) .next [startV s, wordV l, xV x, remV, lvV lv, szV sz, drV dr] := by
    rw [← hs]
    exact Ex.assign (Ev.bin (Ev.bin (Ev.bin (Ev.local lwOk (by rfl)) Ev.int (OpB.fdivS (by decide) (by decide))) Ev.int (OpB.mod_int (by decide))) Ev.int OpB.sub_int) lwOk rfl (.inl (by rfl))
  have s2 : Ex prog w h₀ A (lwEnv L f cd) [startV s, wordV l, xV x, remV, lvV lv, szV sz, drV dr] (cbS 2) .next [textV #[], startV s, wordV l, xV x, remV, lvV lv, szV sz, drV dr] := Ex.assign Ev.bytes lwOk rfl (.inl (by rfl))
  have s3 : Ex prog w h₀ A (lwEnv L f cd) [textV #[], startV s, wordV l, xV x, remV, lvV lv, szV sz, drV dr] (cbS 3) .next [depV (dps s []), textV #[], startV s, wordV l, xV x, remV, lvV lv, szV sz, drV dr] :=
    Ex.assignOwn (ps := [.int s]) (EvArgs.cons (Ev.local lwOk (by rfl)) EvArgs.nil) lwOk rfl (by rw [sizeLine_eq]; simp) (.inr (by rfl))
  have s4 : Ex prog w h₀ A (lwEnv L f cd) [depV (dps s []), textV #[], startV s, wordV l, xV x, remV, lvV lv, szV sz, drV dr] (cbS 4) .next [textV t', depV (dps s l), startV s, wordV l, xV x, remV, lvV lv, szV sz, drV dr] :=
    Ex.for_ (EvI.range T.base (Ev.builtin T.base lwOk T.nrange T.brange (by rfl)) (Ev.local lwOk (by rfl)) r.h (by omega) (by omega)) lwOk (.inl (by rfl)) (F0.lessIn (LSub.cons (by rfl) (LSub.cons (by rfl) (LSub.cons (by rfl) (LSub.cons (by rfl) (LSub.cons (by rfl) (LSub.cons (by rfl) (LSub.cons (by rfl) (LSub.cons (by rfl) (LSub.cons (by rfl) (LSub.nil _)))))))))))
  have hgd : ((dps s l).map PV.int)[((sz : Nat) : Int).toNat]? = some (.int ((dps s l).getD l.length 0)) := by
    rw [Int.toNat_natCast, List.getElem?_map, List.getElem?_eq_getElem (by omega), List.getD_eq_getElem?_getD, List.getElem?_eq_getElem (by omega)]
    simp [hlen]
  have pc := paren1 (prog := prog) (w := w) (A := A) T.fparen_depth T.t37 T.base T.gquoted T.pat (by have := r.d; omega) q1 (by omega) (by omega)
  have s5 : Ex prog w h₀ A (lwEnv L f cd) [textV t', depV (dps s l), startV s, wordV l, xV x, remV, lvV lv, szV sz, drV dr] (cbS 5) .next [textV t', depV (dps s l), startV s, wordV l, xV x, remV, lvV lv, szV sz, drV dr] :=
    Ex.if_ff (EvT.cmp' (b' := false) (Ev.callF (Ev.global T.base lwOk T.gparen_depth (by rfl)) T.fparen_depth.isFn (EvArgs.cons (Ev.local lwOk (by rfl)) EvArgs.nil) rfl pc) (Ev.bin (Ev.item_list (xs := (dps s l).map .int) (Ev.local lwOk (by rfl)) (Ev.local lwOk (by rfl)) rfl (by omega) (by omega) hgd) (Ev.local lwOk (by rfl)) OpB.sub_int) OpC.ne_int (by rw [k1]; simp)) Exs.nil
  have s6 := cs6 (prog := prog) (w := w) (A := A) (L := L) (f := f) (cd := cd) T r (Γ := [textV t', depV (dps s l), startV s, wordV l, xV x, remV, lvV lv, szV sz, drV dr]) (l := l) (s := s) h2 hlen (by rfl) (by rfl)
  have hfl : (floorsW s l).length = sz + 1 := by unfold floorsW; simp [hlen]
  have hf0 : ((floorsW s l).map PV.int)[(0 : Int).toNat]? = some (.int ((floorsW s l).getD 0 0)) := by
    show ((floorsW s l).map PV.int)[0]? = _
    rw [List.getElem?_map, List.getElem?_eq_getElem (by omega), List.getD_eq_getElem?_getD, List.getElem?_eq_getElem (by omega)]; rfl
  have br := bisect_right_ints (prog := prog) (w := w) (A := A) T.fbisect_right T.t54 T.k55 T.base T.nlen T.blen (by have := r.d; omega) (floorsW s l) (by omega) ((floorsW s l).getD 0 0)
  have s7 : Ex prog w h₀ A (lwEnv L f cd) [flV (floorsW s l), textV t', depV (dps s l), startV s, wordV l, xV x, remV, lvV lv, szV sz, drV dr] (cbS 7) .next [depV (dps s l), wordV l, remV, lvV lv, szV sz, drV dr] :=
    (Ex.if_ff (EvT.cmp' (b' := false) (Ev.bin (Ev.callF (Ev.global T.base lwOk T.gbisect_right (by rfl)) T.fbisect_right.isFn (EvArgs.cons (Ev.local lwOk (by rfl)) (EvArgs.cons (Ev.item_list (xs := (floorsW s l).map .int) (Ev.local lwOk (by rfl)) Ev.int rfl (by decide) (by decide) hf0) EvArgs.nil)) rfl br) Ev.int OpB.sub_int) (Ev.callF (Ev.global T.base lwOk T.glaw_open (by rfl)) T.flaw_open.isFn (EvArgs.cons (Ev.local lwOk (by rfl)) EvArgs.nil) rfl (openP T r (by omega))) OpC.ne_int (by rw [k2]; simp)) Exs.nil).less (LSub.refl _)
      (LSub.cons (by rfl) (LSub.cons (by rfl) (LSub.cons (by rfl) (LSub.cons (by rfl) (LSub.cons (by rfl) (LSub.cons (by rfl) (LSub.nil _)))))))
  have s8 := cs8 (prog := prog) (w := w) (A := A) (L := L) (f := f) (cd := cd) T r (Γ := [depV (dps s l), wordV l, remV, lvV lv, szV sz, drV dr]) (l := l) (s := s) h2 hlen (by rfl) (by rfl)
  have hsk : (sinksW s l).length = sz + 1 := by unfold sinksW; simp [hlen]
  have hs0 : ((sinksW s l).map PV.int)[((sz : Nat) : Int).toNat]? = some (.int ((sinksW s l).getD l.length 0)) := by
    rw [Int.toNat_natCast, List.getElem?_map, List.getElem?_eq_getElem (by omega), List.getD_eq_getElem?_getD, List.getElem?_eq_getElem (by omega)]
    simp [hlen]
  have bl := bisect_left_ints (prog := prog) (w := w) (A := A) T.fbisect_left T.t63 T.k64 T.base T.nlen T.blen (by have := r.d; omega) (sinksW s l) (by omega) ((sinksW s l).getD l.length 0)
  have s9 : Ex prog w h₀ A (lwEnv L f cd) [skV (sinksW s l), depV (dps s l), wordV l, remV, lvV lv, szV sz, drV dr] (cbS 9) .next [fiV (firstW s l), wordV l, remV, lvV lv, szV sz, drV dr] :=
    (Ex.assign (Ev.callF (Ev.global T.base lwOk T.gbisect_left (by rfl)) T.fbisect_left.isFn (EvArgs.cons (Ev.local lwOk (by rfl)) (EvArgs.cons (Ev.item_list (xs := (sinksW s l).map .int) (Ev.local lwOk (by rfl)) (Ev.local lwOk (by rfl)) rfl (by omega) (by omega) hs0) EvArgs.nil)) rfl bl) lwOk rfl (.inl (by rfl))).less (LSub.refl _)
      (LSub.cons (by rfl) (LSub.cons (by rfl) (LSub.cons (by rfl) (LSub.cons (by rfl) (LSub.cons (by rfl) (LSub.cons (by rfl) (LSub.nil _)))))))
  have s10 := cs10 (prog := prog) (w := w) (A := A) (L := L) (f := f) (cd := cd) T r (Γ := [fiV (firstW s l), wordV l, remV, lvV lv, szV sz, drV dr]) (l := l) h2 hlen (by rfl) (by rfl)
  have s11 : Ex prog w h₀ A (lwEnv L f cd) [leV ((lessW l).map fun (k : Nat) => (k : Int)), fiV (firstW s l), wordV l, remV, lvV lv, szV sz, drV dr] (cbS 11) .next [remV, lvV lv, szV sz, drV dr] := by
    generalize hfw : firstW s l = fw at *
    have em : asL (.list (List.replicate (if (1 : Int) < (fw : Int) then (1 : Int) else (fw : Int)).toNat [PV.int ((fw : Int) - 1)]).flatten) = some ((if fw = 0 then [] else [(fw : Int) - 1]).map PV.int) := by
      show some _ = some _
      congr 1
      by_cases q : fw = 0
      · subst q; rfl
      · by_cases q2 : fw = 1
        · subst q2; rfl
        · rw [if_pos (by omega), if_neg q]; rfl
    refine (Ex.if_ff (EvT.cmp' (b' := false) (Ev.local lwOk (by rfl)) (Ev.bin (Ev.list (EvArgs.cons (Ev.bin (Ev.local lwOk (by rfl)) Ev.int OpB.sub_int) EvArgs.nil) rfl (by rw [sizeLine_eq]; simp)) (Ev.callB (Ev.builtin T.base lwOk T.nmin T.bmin (by rfl)) (EvArgs.cons (Ev.local lwOk (by rfl)) (EvArgs.cons Ev.int EvArgs.nil)) (OpF.min_two r.h)) (OpB.mul_list rfl (by simp) ?_ ?_ ?_)) (OpC.ne_ints rfl em r.u) ?_) Exs.nil).less (LSub.refl _) (LSub.cons (by rfl) (LSub.cons (by rfl) (LSub.cons (by rfl) (LSub.cons (by rfl) (LSub.nil _)))))
    · split <;> omega
    · split <;> simp <;> omega
    · split <;> omega
    · rw [k3]; simp
  exact Exs.cons s0 (Exs.cons s1 (Exs.cons s2 (Exs.cons s3 (Exs.cons s4 (Exs.cons s5 (Exs.cons s6 (Exs.cons s7 (Exs.cons s8 (Exs.cons s9 (Exs.cons s10 (Exs.cons s11 Exs.nil)))))))))))
theorem x_loop (T : Tops h₀ mg mb) (r : Room A) {sz : Nat} {dr : List Int} {lv : List (List Nat)} (h1 : 3 ≤ sz) (h2 : sz ≤ 5) (hw : ∀ y ∈ lv, isW sz y) (hpos : 0 < lv.length) (hl2 : lv.length ≤ 40) (hok : ∀ l ∈ lv, ∀ s : Int, -4 ≤ s → s ≤ 4 → okW s l = true) : ∀ xs : List Int,
    ForS prog w h₀ A (lwEnv L f cd) (Str.ofString "x") (forBody (lwS 12)) (forElse (lwS 12)) [remV, lvV lv, szV sz, drV dr] (xs.map .int) .next [remV, lvV lv, szV sz, drV dr]
  | [] => .done Exs.nil
  | _ :: xs => .turn rfl (x_turn T r h1 h2 hw hpos hl2 hok) (x_loop T r h1 h2 hw hpos hl2 hok xs)
theorem st12 (T : Tops h₀ mg mb) (r : Room A) {sz : Nat} {dr : List Int} {lv : List (List Nat)} (h1 : 3 ≤ sz) (h2 : sz ≤ 5) (hw : ∀ y ∈ lv, isW sz y) (hpos : 0 < lv.length) (hl2 : lv.length ≤ 40) (hok : ∀ l ∈ lv, ∀ s : Int, -4 ≤ s → s ≤ 4 → okW s l = true) (hdr : dr.length ≤ 100) :
    Ex prog w h₀ A (lwEnv L f cd) [remV, lvV lv, szV sz, drV dr] (lwS 12) .next [remV, lvV lv, szV sz, drV dr] := by
  have F0 := x_loop (prog := prog) (w := w) (A := A) (L := L) (f := f) (cd := cd) T r (dr := dr) h1 h2 hw hpos hl2 hok (dr.drop 2)
  have e : sliceL (dr.map PV.int) (some ((2 : Nat) : Int)) none none = (dr.drop 2).map .int := by rw [sliceL_from, List.map_drop]
  rw [← e] at F0
  exact Ex.for_ (EvI.list (p := .none) (Ev.slice_list (Ev.local lwOk (by rfl)) rfl (EvP.some Ev.int) EvP.none EvP.none (by simp) (by rw [List.length_map, sizeLine_eq]; omega)) r.h) lwOk (.inl (by rfl)) F0
end
end Mine
end
section
open PySem PySem.W PyProof.Rows PySem.Spec PySem.Calls
set_option maxRecDepth 100000
set_option maxHeartbeats 8000000
namespace Mine
section
variable {prog : Program} {w : World} {h₀ : Heap} {mg mb : Str → Option Value} {A : Around} {env : Env} {loc : Loc} {L f : Addr} {cd : Value}
theorem drawn_len (ns : List Int) : (drawnN ns).length = 5 := by
  unfold drawnN
  have : spareN.length = 5 := rfl
  rw [List.length_append, List.length_map, List.length_drop, List.length_take, this]
  omega
theorem law_body (T : Tops h₀ mg mb) (r : Room A) {ns : List Int} (hn : ns.length ≤ 100) : ∃ l', Exs prog w h₀ A (lwEnv L f cd) [(Str.ofString "script", .list (ns.map .int))] (fb 20) (.ret (.bool true)) l' := by
  have hl := drawn_len ns
  obtain ⟨d0, e0⟩ : ∃ d, (drawnN ns)[0]? = some d := ⟨_, List.getElem?_eq_getElem (by omega)⟩
  obtain ⟨d1, e1⟩ : ∃ d, (drawnN ns)[1]? = some d := ⟨_, List.getElem?_eq_getElem (by omega)⟩
  have hst0 := st0 (prog := prog) (w := w) (A := A) (L := L) (f := f) (cd := cd) T r hn
  generalize drawnN ns = dr at *
  obtain ⟨sz, hsz⟩ : ∃ sz : Nat, 3 + d0.fmod 3 = (sz : Int) := ⟨(3 + d0.fmod 3).toNat, by rw [Int.fmod_eq_emod_of_nonneg _ (by decide)]; omega⟩
  have h1 : 3 ≤ sz ∧ sz ≤ 5 := by rw [Int.fmod_eq_emod_of_nonneg _ (by decide)] at hsz; omega
  have nn : ∀ (a : Int) (b : Nat), 0 < b → ∃ c : Nat, c < b ∧ a.fmod (b : Int) = (c : Int) := fun a b hb => by
    refine ⟨(a.fmod (b : Int)).toNat, ?_, ?_⟩
    · rw [Int.fmod_eq_emod_of_nonneg _ (by omega)]
      have := Int.emod_lt_of_pos a (show (0 : Int) < b by omega)
      have := Int.emod_nonneg a (show (b : Int) ≠ 0 by omega)
      omega
    · rw [Int.fmod_eq_emod_of_nonneg _ (by omega)]
      have := Int.emod_nonneg a (show (b : Int) ≠ 0 by omega)
      omega
  obtain ⟨c, hc, hcm⟩ := nn (d0.fdiv 3) sz (by omega)
  obtain ⟨tn, ht, htm⟩ := nn (d1.fdiv 10) sz (by omega)
  obtain ⟨sh, hs, hsm⟩ := nn (d1.fdiv 50) 7 (by omega)
  have hpos := level_pos h1.1 h1.2 hc
  obtain ⟨cut, hcut, hcutm⟩ := nn d1 (levelW sz c).length hpos
  have hA := lawA h1.1 h1.2 hc hcut
  have hB := lawB h1.1 h1.2 hc ht
  have hw : ∀ y ∈ levelW sz c, isW sz y := fun y hy => level_isW hy
  have hl2 : (levelW sz c).length ≤ 40 := by
    refine Nat.le_trans (levelW_size sz c) ?_
    exact Nat.le_trans (Nat.pow_le_pow_right (by omega) h1.2) (by decide)
  have hok : ∀ l ∈ levelW sz c, ∀ s : Int, -4 ≤ s → s ≤ 4 → okW s l = true := fun l hl s a b => lawC h1.1 h1.2 hc hl a b
  have s2 := st2 (prog := prog) (w := w) (A := A) (L := L) (f := f) (cd := cd) T r e0 (by omega) h1.2 hcm
  generalize levelW sz c = lv at *
  have s5 := st5 (prog := prog) (w := w) (A := A) (L := L) (f := f) (cd := cd) T r (dr := dr) (sz := sz) (cut := cut) (lv := lv) hl2
  rw [hA] at s5
  have s13 : Ex prog w h₀ A (lwEnv L f cd) [remV, lvV lv, szV sz, drV dr] (lwS 13) (.ret (.bool true)) [remV, lvV lv, szV sz, drV dr] := Ex.ret Ev.bool rfl
  refine ⟨[remV, lvV lv, szV sz, drV dr], ?_⟩
  show Exs _ _ _ _ _ _ [lwS 0, lwS 1, lwS 2, lwS 3, lwS 4, lwS 5, lwS 6, lwS 7, lwS 8, lwS 9, lwS 10, lwS 11, lwS 12, lwS 13] _ _
  exact Exs.cons hst0 (Exs.cons (st1 e0 hsz) (Exs.cons s2 (Exs.cons (st3 T e1 hpos (by omega) hcutm) (Exs.cons st4 (Exs.cons s5 (Exs.cons (st6 r hw hl2) (Exs.cons (st7 (by rfl) (by rfl) e1 (by omega) htm) (Exs.cons (st8 (by rfl) e1 hsm)
    (Exs.cons st9 (Exs.cons (st10 T r h1.1 h1.2 hs ht hB hw hl2) (Exs.cons st11 (Exs.cons (st12 T r h1.1 h1.2 hw hpos hl2 hok (by omega)) (Exs.stop s13)))))))))))))
theorem law_spec (T : Tops h₀ mg mb) (hd : A.depth + 40 < recursionLimit) (r : ∀ L cd, Room (A.deeper (lwEnv L 125 cd))) {ns : List Int} (hn : ns.length ≤ 100) : Calls prog w h₀ A 125 [.list (ns.map .int)] [] (.bool true) := by
  intro G s vs kvs Q base S hv hk g
  have key : ∀ L cd, ∃ l', Exs prog w h₀ (A.deeper (lwEnv L 125 cd)) (lwEnv L 125 cd) [(Str.ofString "script", .list (ns.map .int))] (fb 20) (.ret (.bool true)) l' := fun L cd => law_body T (r L cd) hn
  have hb : ∀ L cd, Exs prog w h₀ (A.deeper (lwEnv L 125 cd)) (lwEnv L 125 cd) [(Str.ofString "script", .list (ns.map .int))] (fb 20) (.ret (.bool true)) [] := fun L cd => by
    obtain ⟨l', h⟩ := key L cd
    exact h.less (LSub.refl _) (LSub.nil _)
  refine Calls.intro (r := .ret (.bool true)) T.flaw T.base (by omega) (l := [(Str.ofString "script", .list (ns.map .int))]) (l' := []) (BindsP.pos1 ?_ (by rfl)) hb G s vs kvs Q base S hv hk g
  rintro ⟨nm, qn, ps, bd, sc, gl, cl, df, kd, doc, pm, an, cd, ct, bi⟩ v h1 h2 h3
  simp only at h1 h2 h3
  subst h1 h2 h3
  rfl
theorem well_ints {P : Params} {h : Heap} {G : Reg} : ∀ {ns : List Int} {vs : List Value}, WellAll P h vs (ofPys (ns.map PyData.int)) → VRs G (ns.map .int) vs
  | [], _, h => by cases h; exact .nil
  | n :: ns, _, h => by
    cases h with
    | cons h1 h2 =>
      cases h1
      exact .cons (.int _ _) (well_ints h2)
theorem room_caller : ∀ L cd, Room (callerA.deeper (lwEnv L 125 cd)) := fun L cd => ⟨rfl, Nat.le_of_ble_eq_true rfl, Nat.le_of_ble_eq_true rfl, fun f L cd => Nat.le_of_ble_eq_true rfl⟩
end
end Mine
end
section
open PySem PySem.W PyProof.Rows PySem.Spec PySem.Calls
set_option maxRecDepth 100000
set_option maxHeartbeats 8000000
namespace Mine
theorem holds : PySem.Challenge.rw_wu0036_01.Holds := MineHd (by
  k_fill
  intro w s₀ s₁ mg mb G Y fa o pm cd doc dV kV ho hd hcd hD hmg hg args vals as hpre hlay hrd hwl hlo
  have KX := kIn_of Y
  refine Ground.open G ?_
  intro T B D TE TW
  have TP := tops_of KX T
  have efa : fa = 125 := by
    have h := TP.glaw
    have h2 : mg (Str.ofString "law") = some (.ref fa) := hmg
    rw [h2] at h
    cases h
    rfl
  subst efa
  wrow_args hpre hlay hrd hwl hlo
  rename_i ns _ _ _ _ _ _ _ a vs0 _ _ _ w1 _ _ _ hlen _
  have w1' : Well w.params s₁.heap (.ref a) (.list (ofPys (ns.map PyData.int))) := w1
  cases w1' with
  | @list _ vs _ hget hall =>
    refine wp_no (law_spec TP (Nat.le_of_ble_eq_true rfl) room_caller (by omega) (fun b => s₁.heap.get? b) s₁ [.ref a] [] _ (fun b o e => e) (fun b o e => e) (.cons (.list (n := 0) hget (well_ints hall)) .nil) .nil fun G' h' tk v k hv => ?_)
    cases hv
    exact GoodW.toG ⟨.inl ⟨_, .bool true, [], rfl, fun _ => rfl, .bool true, (by first | kernel_rfl | with_unfolding_all rfl | simp [PySem.Challenge.rw_wu0036_01, OpenLaw.row, RowW.claim]), fun _ => ⟨.nil, fun _ h => nomatch h⟩⟩, k.2.1, rfl, hg⟩)
end Mine
theorem PySem.Challenge.cw_wu0036_01_holds : PySem.Challenge.rw_wu0036_01.Holds :=
  Mine.holds
end
