import PyProof.Rows.All
import Wide.All
import OpenK.AllK
import Wide.FinOn
import PySem.Challenge.RW_bd0043_01
set_option Elab.async false
section
open PySem PySem.W PyProof.Rows PySem.Calls
namespace Mine

/-- values as the plain side sees them -/
inductive PV where
  | none
  | bool (b : Bool)
  | int (i : Int)
  | str (s : Str)
  | tup (xs : List PV)
  | tok (xs : List PV)
  | lst (xs : List PV)
  | ml (k : Nat)

structure PS where
  vars : List (Str × PV)
  muts : List (List PV)

noncomputable def Keep (h h' : Heap) : Prop := ∀ b o, h.get? b = some o → h'.get? b = some o
theorem Keep.refl (h : Heap) : Keep h h := fun _ _ e => e
theorem Keep.trans {a b c : Heap} (x : Keep a b) (y : Keep b c) : Keep a c := fun d o e => y d o (x d o e)
theorem Keep.push (h : Heap) (o : Obj) : Keep h (h.push o) := fun _ _ e => Heap.get?_push_of_some o e
noncomputable def Pres (W : List Addr) (h h' : Heap) : Prop := ∀ b o, b ∉ W → h.get? b = some o → h'.get? b = some o
theorem Keep.pres {W : List Addr} {h h' : Heap} (x : Keep h h') : Pres W h h' := fun b o _ e => x b o e
theorem Pres.trans {W : List Addr} {a b c : Heap} (x : Pres W a b) (y : Pres W b c) : Pres W a c := fun d o n e => y d o n (x d o n e)
theorem Pres.mono {W W' : List Addr} {a b : Heap} (x : Pres W a b) (h : ∀ c ∈ W, c ∈ W') : Pres W' a b := fun d o n e => x d o (fun m => n (h d m)) e
theorem keep_extBut {h h' : Heap} (x : Heap.ExtBut h.objs.size h h') : Keep h h' := fun b o e => x b o (Nat.ne_of_lt (Heap.lt_size e)) e

noncomputable abbrev tupO (vs : List Value) : Obj := { cls := .type "tuple", data := .seq vs.toArray }
structure Cx where
  cls : Addr
  ex : List Addr
/-- an address that no change touches -/
noncomputable def Free (C : Cx) (ρ : List Addr) (a : Addr) : Prop := a ∉ ρ ∧ a ∉ C.ex

noncomputable abbrev tokO (C d : Addr) (vs : List Value) : Obj := { cls := .ref C, dict := some d, data := .seq vs.toArray }

mutual
inductive VR (C : Cx) (ρ : List Addr) (h : Heap) : PV → Value → Prop
  | none : VR C ρ h .none .none
  | bool (b : Bool) : VR C ρ h (.bool b) (.bool b)
  | int (i : Int) (t : Tok) : VR C ρ h (.int i) (.int i t)
  | str (x : Str) (t : Tok) : VR C ρ h (.str x) (.str x t)
  | tup {xs : List PV} {a : Addr} {vs : List Value} (ha : h.get? a = some (tupO vs)) (hn : Free C ρ a) (hv : VRs C ρ h xs vs) : VR C ρ h (.tup xs) (.ref a)
  | tok {xs : List PV} {a d : Addr} {vs : List Value} (ha : h.get? a = some (tokO C.cls d vs)) (hn : Free C ρ a) (hv : VRs C ρ h xs vs) : VR C ρ h (.tok xs) (.ref a)
  | lst {xs : List PV} {a : Addr} {vs : List Value} (ha : h.IsList a vs.toArray) (hn : Free C ρ a) (hv : VRs C ρ h xs vs) : VR C ρ h (.lst xs) (.ref a)
  | ml {k : Nat} {a : Addr} (ha : ρ[k]? = some a) : VR C ρ h (.ml k) (.ref a)
inductive VRs (C : Cx) (ρ : List Addr) (h : Heap) : List PV → List Value → Prop
  | nil : VRs C ρ h [] []
  | cons {x : PV} {v : Value} {xs : List PV} {vs : List Value} (hx : VR C ρ h x v) (hxs : VRs C ρ h xs vs) : VRs C ρ h (x :: xs) (v :: vs)
end

noncomputable abbrev NoDict (o : Obj) : Prop := ∃ vs n, o.data = .seq vs n
/-- what a change of the heap and of the mutable lists must keep -/
structure Step0 (C : Cx) (ρ ρ' : List Addr) (h h' : Heap) : Prop where
  keep : ∀ b o, Free C ρ b → NoDict o → h.get? b = some o → h'.get? b = some o
  new : ∀ b ∈ ρ', b ∈ ρ ∨ h.get? b = none
  pre : ∀ (k : Nat) (a : Addr), ρ[k]? = some a → ρ'[k]? = some a
structure Step (C : Cx) (ρ ρ' : List Addr) (h h' : Heap) : Prop extends Step0 C ρ ρ' h h' where
  dom : ∀ b, (h.get? b).isSome = true → (h'.get? b).isSome = true

theorem Step0.off' {C : Cx} {ρ ρ' : List Addr} {h h' : Heap} (S : Step0 C ρ ρ' h h') {a : Addr} {o : Obj} (e : h.get? a = some o) (n : a ∉ ρ) : a ∉ ρ' := fun m => by
  rcases S.new a m with q | q
  · exact n q
  · rw [q] at e; cases e
theorem Step0.off {C : Cx} {ρ ρ' : List Addr} {h h' : Heap} (S : Step0 C ρ ρ' h h') {a : Addr} {o : Obj} (e : h.get? a = some o) (n : Free C ρ a) : Free C ρ' a := ⟨S.off' e n.1, n.2⟩

theorem noDict_tup (vs : List Value) : NoDict (tupO vs) := ⟨_, _, rfl⟩
theorem noDict_tok (C d : Addr) (vs : List Value) : NoDict (tokO C d vs) := ⟨_, _, rfl⟩
theorem Step0.list {C : Cx} {ρ ρ' : List Addr} {h h' : Heap} (S : Step0 C ρ ρ' h h') {a : Addr} {its : Array Value} (ha : h.IsList a its) (hn : Free C ρ a) : h'.IsList a its := by
  obtain ⟨o, e, hc, n, hd⟩ := ha
  exact ⟨o, S.keep _ o hn ⟨_, _, hd⟩ e, hc, n, hd⟩
theorem Step0.listOff {C : Cx} {ρ ρ' : List Addr} {h h' : Heap} (S : Step0 C ρ ρ' h h') {a : Addr} {its : Array Value} (ha : h.IsList a its) (hn : Free C ρ a) : Free C ρ' a := by
  obtain ⟨o, e, _⟩ := ha
  exact S.off e hn
mutual
theorem VR.step0 {C : Cx} {ρ ρ' : List Addr} {h h' : Heap} (S : Step0 C ρ ρ' h h') : ∀ {x : PV} {v : Value}, VR C ρ h x v → VR C ρ' h' x v
  | _, _, .none => .none
  | _, _, .bool b => .bool b
  | _, _, .int i t => .int i t
  | _, _, .str x t => .str x t
  | _, _, .tup ha hn hv => .tup (S.keep _ _ hn (noDict_tup _) ha) (S.off ha hn) (VRs.step0 S hv)
  | _, _, .tok ha hn hv => .tok (S.keep _ _ hn (noDict_tok _ _ _) ha) (S.off ha hn) (VRs.step0 S hv)
  | _, _, .lst ha hn hv => .lst (S.list ha hn) (S.listOff ha hn) (VRs.step0 S hv)
  | _, _, .ml ha => .ml (S.pre _ _ ha)
theorem VRs.step0 {C : Cx} {ρ ρ' : List Addr} {h h' : Heap} (S : Step0 C ρ ρ' h h') : ∀ {xs : List PV} {vs : List Value}, VRs C ρ h xs vs → VRs C ρ' h' xs vs
  | _, _, .nil => .nil
  | _, _, .cons hx hxs => .cons (VR.step0 S hx) (VRs.step0 S hxs)
end

theorem Step.off' {C : Cx} {ρ ρ' : List Addr} {h h' : Heap} (S : Step C ρ ρ' h h') {a : Addr} {o : Obj} (e : h.get? a = some o) (n : a ∉ ρ) : a ∉ ρ' := S.toStep0.off' e n
theorem Step.off {C : Cx} {ρ ρ' : List Addr} {h h' : Heap} (S : Step C ρ ρ' h h') {a : Addr} {o : Obj} (e : h.get? a = some o) (n : Free C ρ a) : Free C ρ' a := S.toStep0.off e n
theorem Step.list {C : Cx} {ρ ρ' : List Addr} {h h' : Heap} (S : Step C ρ ρ' h h') {a : Addr} {its : Array Value} (ha : h.IsList a its) (hn : Free C ρ a) : h'.IsList a its := S.toStep0.list ha hn
theorem Step.listOff {C : Cx} {ρ ρ' : List Addr} {h h' : Heap} (S : Step C ρ ρ' h h') {a : Addr} {its : Array Value} (ha : h.IsList a its) (hn : Free C ρ a) : Free C ρ' a := S.toStep0.listOff ha hn
theorem VR.step {C : Cx} {ρ ρ' : List Addr} {h h' : Heap} (S : Step C ρ ρ' h h') {x : PV} {v : Value} (r : VR C ρ h x v) : VR C ρ' h' x v := VR.step0 S.toStep0 r
theorem VRs.step {C : Cx} {ρ ρ' : List Addr} {h h' : Heap} (S : Step C ρ ρ' h h') {xs : List PV} {vs : List Value} (r : VRs C ρ h xs vs) : VRs C ρ' h' xs vs := VRs.step0 S.toStep0 r
theorem Step.of_keep {C : Cx} {ρ : List Addr} {h h' : Heap} (k : Keep h h') : Step C ρ ρ h h' := ⟨⟨fun b o _ _ e => k b o e, fun _ m => .inl m, fun _ _ e => e⟩, fun b e => by obtain ⟨o, q⟩ := Option.isSome_iff_exists.mp e; rw [k b o q]; rfl⟩
theorem Step.trans {C : Cx} {ρ ρ' ρ'' : List Addr} {h h' h'' : Heap} (S : Step C ρ ρ' h h') (S' : Step C ρ' ρ'' h' h'') : Step C ρ ρ'' h h'' := by
  refine ⟨⟨fun b o n d e => S'.keep b o (S.off e n) d (S.keep b o n d e), fun b m => ?_, fun k a e => S'.pre k a (S.pre k a e)⟩, fun b e => S'.dom b (S.dom b e)⟩
  rcases S'.toStep0.new b m with q | q
  · exact S.new b q
  · right
    cases e : h.get? b with
    | none => rfl
    | some o =>
      have := S.dom b (by rw [e]; rfl)
      rw [q] at this; cases this
theorem VR.keep {C : Cx} {ρ : List Addr} {h h' : Heap} {x : PV} {v : Value} (r : VR C ρ h x v) (k : Keep h h') : VR C ρ h' x v := r.step (.of_keep k)
theorem VRs.keep {C : Cx} {ρ : List Addr} {h h' : Heap} {xs : List PV} {vs : List Value} (r : VRs C ρ h xs vs) (k : Keep h h') : VRs C ρ h' xs vs := r.step (.of_keep k)

section lists
variable {C : Cx} {ρ : List Addr} {h : Heap}
theorem VRs.length : ∀ {xs : List PV} {vs : List Value}, VRs C ρ h xs vs → vs.length = xs.length
  | _, _, .nil => rfl
  | _, _, .cons _ r => by simp [VRs.length r]
theorem VRs.append : ∀ {xs : List PV} {vs : List Value} {ys : List PV} {us : List Value}, VRs C ρ h xs vs → VRs C ρ h ys us → VRs C ρ h (xs ++ ys) (vs ++ us)
  | _, _, _, _, .nil, r => r
  | _, _, _, _, .cons a b, r => .cons a (b.append r)
theorem VRs.get : ∀ {xs : List PV} {vs : List Value}, VRs C ρ h xs vs → ∀ {i : Nat} {x : PV}, xs[i]? = some x → ∃ v, vs[i]? = some v ∧ VR C ρ h x v
  | _, _, .nil, i, x, e => by simp at e
  | _, _, .cons a b, 0, x, e => by
    simp at e; subst e; exact ⟨_, rfl, a⟩
  | _, _, .cons a b, i + 1, x, e => by
    simp only [List.getElem?_cons_succ] at e
    obtain ⟨v, hv, r⟩ := b.get e
    exact ⟨v, by simpa using hv, r⟩
theorem VRs.get' : ∀ {xs : List PV} {vs : List Value}, VRs C ρ h xs vs → ∀ {i : Nat} {v : Value}, vs[i]? = some v → ∃ x, xs[i]? = some x ∧ VR C ρ h x v
  | _, _, .nil, i, x, e => by simp at e
  | _, _, .cons a b, 0, x, e => by
    simp at e; subst e; exact ⟨_, rfl, a⟩
  | _, _, .cons a b, i + 1, x, e => by
    simp only [List.getElem?_cons_succ] at e
    obtain ⟨v, hv, r⟩ := b.get' e
    exact ⟨v, by simpa using hv, r⟩
theorem VRs.dropLast : ∀ {xs : List PV} {vs : List Value}, VRs C ρ h xs vs → VRs C ρ h xs.dropLast vs.dropLast
  | _, _, .nil => .nil
  | _, _, .cons _ .nil => .nil
  | _, _, .cons a (.cons b c) => .cons a (VRs.dropLast (.cons b c))
end lists

/-- the mutable lists -/
structure Mu (h₀ : Heap) (C : Cx) (ρ : List Addr) (muts : List (List PV)) (h : Heap) : Prop where
  len : ρ.length = muts.length
  mu : ∀ (k : Nat) (xs : List PV), muts[k]? = some xs → ∃ (a : Addr) (vs : List Value), ρ[k]? = some a ∧ h.PlainList a vs.toArray ∧ VRs C ρ h xs vs
  nd : ρ.Nodup
  off : ∀ a ∈ ρ, h₀.get? a = none
  exd : ∀ a ∈ C.ex, (h.get? a).isSome = true
structure Rl (h₀ : Heap) (C : Cx) (ρ : List Addr) (L : Addr) (P : PS) (h : Heap) : Prop extends Mu h₀ C ρ P.muts h where
  fr : ∃ m, Fr h₀ L h m ∧ ∀ x v, P.vars.lookup x = some v → ∃ u, m x = some u ∧ VR C ρ h v u
  nL : L ∉ ρ

theorem Mu.keep {h₀ : Heap} {C : Cx} {ρ : List Addr} {muts : List (List PV)} {h h' : Heap} (R : Mu h₀ C ρ muts h) (k : Keep h h') : Mu h₀ C ρ muts h' := by
  obtain ⟨len, mu, nd, off, exd⟩ := R
  refine ⟨len, fun j xs e => ?_, nd, off, fun a m => (Step.of_keep (C := C) (ρ := ρ) k).dom a (exd a m)⟩
  obtain ⟨a, vs, b, ⟨n, c⟩, d⟩ := mu j xs e
  exact ⟨a, vs, b, ⟨n, k _ _ c⟩, d.keep k⟩
theorem Rl.keep {h₀ : Heap} {C : Cx} {ρ : List Addr} {L : Addr} {P : PS} {h h' : Heap} (R : Rl h₀ C ρ L P h) (k : Keep h h') : Rl h₀ C ρ L P h' := by
  obtain ⟨M, ⟨m, F, hv⟩, nL⟩ := R
  refine ⟨M.keep k, ⟨m, F.keeps k, fun x v e => ?_⟩, nL⟩
  obtain ⟨u, a, b⟩ := hv x v e
  exact ⟨u, a, b.keep k⟩

mutual
noncomputable def toP : PV → Option PyData
  | .none => some .none
  | .bool b => some (.bool b)
  | .int i => some (.int i)
  | .str s => some (.str s)
  | .tup xs => match toPs xs with | some ds => some (.tuple ds) | none => none
  | .lst xs => match toPs xs with | some ds => some (.list ds) | none => none
  | .tok _ => none
  | .ml _ => none
noncomputable def toPs : List PV → Option (List PyData)
  | [] => some []
  | x :: xs => match toP x, toPs xs with | some d, some ds => some (d :: ds) | _, _ => none
end

mutual
theorem VR.reads {C : Cx} {ρ : List Addr} {h : Heap} : ∀ {x : PV} {v : Value}, VR C ρ h x v → ∀ {d : PyData}, toP x = some d → ∃ as, Reads h v d as
  | _, _, .none, d, e => by simp only [toP, Option.some.injEq] at e; subst e; exact ⟨_, .none⟩
  | _, _, .bool b, d, e => by simp only [toP, Option.some.injEq] at e; subst e; exact ⟨_, .bool b⟩
  | _, _, .int i t, d, e => by simp only [toP, Option.some.injEq] at e; subst e; exact ⟨_, .int i t⟩
  | _, _, .str x t, d, e => by simp only [toP, Option.some.injEq] at e; subst e; exact ⟨_, .str x t⟩
  | _, _, .tup (xs := xs) ha hn hv, d, e => by
    simp only [toP] at e
    cases q : toPs xs with
    | none => rw [q] at e; cases e
    | some ds =>
      rw [q] at e; cases e
      obtain ⟨as, r⟩ := VRs.reads hv q
      exact ⟨as, .tuple ha rfl rfl r⟩
  | _, _, .lst (xs := xs) ha hn hv, d, e => by
    simp only [toP] at e
    cases q : toPs xs with
    | none => rw [q] at e; cases e
    | some ds =>
      rw [q] at e; cases e
      obtain ⟨as, r⟩ := VRs.reads hv q
      obtain ⟨o, ho, hc, n, hd⟩ := ha
      exact ⟨_, .list ho hc hd r⟩
  | _, _, .tok _ _ _, d, e => by simp [toP] at e
  | _, _, .ml _, d, e => by simp [toP] at e
theorem VRs.reads {C : Cx} {ρ : List Addr} {h : Heap} : ∀ {xs : List PV} {vs : List Value}, VRs C ρ h xs vs → ∀ {ds : List PyData}, toPs xs = some ds → ∃ as, ReadsAll h vs ds as
  | _, _, .nil, ds, e => by simp only [toPs, Option.some.injEq] at e; subst e; exact ⟨_, .nil⟩
  | _, _, .cons (x := x) (xs := xs) hx hxs, ds, e => by
    simp only [toPs] at e
    cases q : toP x with
    | none => rw [q] at e; cases e
    | some d =>
      cases q' : toPs xs with
      | none => rw [q, q'] at e; cases e
      | some ds' =>
        rw [q, q'] at e; cases e
        obtain ⟨as, r⟩ := VR.reads hx q
        obtain ⟨bs, r'⟩ := VRs.reads hxs q'
        exact ⟨_, .cons r r'⟩
end
/-- data of a value, a mutable list's too -/
noncomputable def dataOf (P : PS) : PV → Option PyData
  | .ml k => match P.muts[k]? with
    | some xs => match toPs xs with | some ds => some (.list ds) | none => none
    | none => none
  | x => toP x
theorem Rl.reads {h₀ : Heap} {C : Cx} {ρ : List Addr} {L : Addr} {P : PS} {h : Heap} (R : Rl h₀ C ρ L P h) {x : PV} {v : Value} {d : PyData} (hx : VR C ρ h x v) (e : dataOf P x = some d) : ∃ as, Reads h v d as := by
  cases hx with
  | ml ha =>
    rename_i k a
    simp only [dataOf] at e
    cases q : P.muts[k]? with
    | none => rw [q] at e; cases e
    | some xs =>
      rw [q] at e
      dsimp only at e
      cases q' : toPs xs with
      | none => rw [q'] at e; cases e
      | some ds =>
        rw [q'] at e; cases e
        obtain ⟨a', vs, b, ⟨n, c⟩, r⟩ := R.mu k xs q
        rw [ha] at b; cases b
        obtain ⟨as, r'⟩ := r.reads q'
        exact ⟨_, .list c rfl rfl r'⟩
  | none => exact VR.reads (C := C) (ρ := ρ) (h := h) .none e
  | bool b => exact VR.reads (C := C) (ρ := ρ) (h := h) (.bool b) e
  | int i t => exact VR.reads (C := C) (ρ := ρ) (h := h) (.int i t) e
  | str s t => exact VR.reads (C := C) (ρ := ρ) (h := h) (.str s t) e
  | tup a b c => exact VR.reads (.tup a b c) e
  | tok a b c => exact VR.reads (.tok a b c) e
  | lst a b c => exact VR.reads (.lst a b c) e
end Mine

end
section
open PySem PySem.W PyProof.Rows PySem.Calls
namespace Mine

noncomputable abbrev CV (α : Type) := Option (α × Prop)

/-- what a text's globals are worth -/
structure Tb where
  gv : Str → Option PV
  ga : Str → Str → Option PV
  fn : Str → List PV → CV PV
  nd : Nat := 0

noncomputable def binP (op : Operator) (a b : PV) : CV PV := match op, a, b with
  | .Add, .int x, .int y => some (.int (x + y), True)
  | .Add, .str x, .str y => some (.str (x ++ y), x.length + y.length ≤ sizeLine)
  | .Add, .lst xs, .lst ys => some (.lst (xs ++ ys), xs.length + ys.length ≤ sizeLine)
  | .Sub, .int x, .int y => some (.int (x - y), True)
  | .Mult, .int x, .int y => some (.int (x * y), IntMulOk x y)
  | .Mult, .str x, .int n => some (.str (Txt.mul x n), MulOk x n)
  | .Mod, .int x, .int y => some (.int (x.fmod y), y ≠ 0)
  | .FloorDiv, .int x, .int y => some (.int (x.fdiv y), y ≠ 0 ∧ Builtin.divisionGoesByPylong x y = false)
  | _, _, _ => none

noncomputable def cmpP (P : PS) (op : CmpOp) (a b : PV) : CV Bool := match op with
  | .Eq => match dataOf P a, dataOf P b with
    | some d, some e => some (PyData.eqv d e, SeqAt.shaped d = true ∧ SeqAt.shaped e = true)
    | _, _ => none
  | .NotEq => match dataOf P a, dataOf P b with
    | some d, some e => some (!PyData.eqv d e, SeqAt.shaped d = true ∧ SeqAt.shaped e = true)
    | _, _ => none
  | .Lt => match a, b with
    | .int x, .int y => some (decide (x < y), True)
    | _, _ => none
  | .Gt => match a, b with
    | .int x, .int y => some (decide (y < x), True)
    | _, _ => none
  | .In => match a, b with
    | .str y, .str x => some (Txt.contains x y, True)
    | _, _ => none
  | _ => none

noncomputable def truthP (P : PS) : PV → CV Bool
  | .bool b => some (b, True)
  | .ml k => match P.muts[k]? with
    | some xs => some (!xs.isEmpty, (xs.length : Int) < 2 ^ 63)
    | none => none
  | _ => none

noncomputable def lenP (P : PS) : PV → CV PV
  | .str s => some (.int s.length, (s.length : Int) < 2 ^ 63)
  | .lst xs => some (.int xs.length, (xs.length : Int) < 2 ^ 63)
  | .ml k => match P.muts[k]? with
    | some xs => some (.int xs.length, (xs.length : Int) < 2 ^ 63)
    | none => none
  | _ => none

noncomputable def idxP (P : PS) (o i : PV) : CV PV := match o, i with
  | .str s, .int i => some (.str (Txt.item s i), fitsSsize i = true ∧ -(s.length : Int) ≤ i ∧ i < s.length)
  | .lst xs, .int i => some (xs.getD i.toNat .none, 0 ≤ i ∧ i < xs.length ∧ i < 2 ^ 63)
  | .ml k, .int i => match P.muts[k]? with
    | some xs => some (xs.getD i.toNat .none, 0 ≤ i ∧ i < xs.length ∧ i < 2 ^ 63)
    | none => none
  | .tok xs, .int i => some (xs.getD i.toNat .none, 0 ≤ i ∧ i < xs.length ∧ i < 2 ^ 63)
  | _, _ => none

noncomputable def intOf : PV → Int
  | .int i => i
  | _ => 0

noncomputable def callP (T : Tb) (P : PS) (f : Str) (vs : List PV) : CV PV :=
  if f = "len" then (match vs with | [v] => lenP P v | _ => none)
  else if f = "abs" then (match vs with | [.int i] => some (.int (if i < 0 then -i else i), True) | _ => none)
  else if f = "int" then (match vs with | [v] => some (.int (intOf v), ∃ i, v = .int i) | _ => none)
  else T.fn f vs

noncomputable def methP (nm : Str) (o : PV) : CV PV := match o with
  | .str s => if nm = "isalpha" then some (.bool (Txt.isalpha s), True) else if nm = "isdigit" then some (.bool (Txt.isdigit s), True) else none
  | _ => none

noncomputable def evs (ev : Expr → CV PV) : List Expr → CV (List PV)
  | [] => some ([], True)
  | e :: r => match ev e, evs ev r with
    | some (v, c), some (vs, d) => some (v :: vs, c ∧ d)
    | _, _ => none

noncomputable def tvAnd (tv : Expr → CV Bool) : List Expr → CV Bool
  | [] => some (true, True)
  | e :: r => match tv e, tvAnd tv r with
    | some (b, c), some (b', d) => some (b && b', c ∧ (b = true → d))
    | _, _ => none
noncomputable def tvOr (tv : Expr → CV Bool) : List Expr → CV Bool
  | [] => some (false, True)
  | e :: r => match tv e, tvOr tv r with
    | some (b, c), some (b', d) => some (b || b', c ∧ (b = false → d))
    | _, _ => none

noncomputable def cmpE (ev : Expr → CV PV) (P : PS) (l : Expr) (op : CmpOp) (r : Expr) : CV Bool :=
  if behindInMarks op r then none else match ev l, ev r with
  | some (a, c), some (b, d) => match cmpP P op a b with
    | some (x, e) => some (x, c ∧ d ∧ e)
    | none => none
  | _, _ => none

/-- a base of a method's call that is no call itself -/
noncomputable def plainBase : Expr → Bool
  | .Name .. => true
  | .Subscript .. => true
  | _ => false

noncomputable def isGlob (sc : Scope) (x : Str) : Bool := sc.names.lookup x == some .globalImplicit && !(x == ("__debug__" : Str))
noncomputable def isLoc (sc : Scope) (x : Str) : Bool := sc.names.lookup x == some .local && !(x == ("__debug__" : Str))

noncomputable def evStep (T : Tb) (sc : Scope) (P : PS) (ev : Expr → CV PV) (tv : Expr → CV Bool) (e : Expr) : CV PV := match e with
  | .Constant c _ _ => match c with
    | .none => some (.none, True)
    | .bool b => some (.bool b, True)
    | .int i => some (.int i, True)
    | .str s => some (.str s, True)
    | _ => none
  | .Name x _ =>
    if isLoc sc x then (match P.vars.lookup x with | some v => some (v, True) | none => none)
    else if isGlob sc x then (match T.gv x with | some v => some (v, True) | none => none)
    else none
  | .IfExp t b o _ => match tv t, ev b, ev o with
    | some (c, ct), some (x, cx), some (y, cy) => some (if c then x else y, ct ∧ (c = true → cx) ∧ (c = false → cy))
    | _, _, _ => none
  | .BoolOp op es _ => match op, es with
    | .And, [a, b] => match ev a, ev b with
      | some (.bool x, cx), some (.bool y, cy) => some (.bool (x && y), cx ∧ cy)
      | _, _ => none
    | _, _ => none
  | .Compare l ops rs _ => match ops, rs with
    | [op], [r] => match cmpE ev P l op r with
      | some (b, c) => some (.bool b, c)
      | none => none
    | _, _ => none
  | .BinOp l op r _ => match ev l, ev r with
    | some (a, c), some (b, d) => match binP op a b with
      | some (x, e) => some (x, c ∧ d ∧ e)
      | none => none
    | _, _ => none
  | .Call f args ks pos => match f, ks with
    | .Attribute o nm apos, [] => match args with
      | [] => if plainBase o && (apos.endLine == pos.line) then (match ev o with
          | some (v, c) => (match methP nm v with | some (x, d) => some (x, c ∧ d) | none => none)
          | none => none) else none
      | _ => none
    | .Name f _, [] =>
      if isGlob sc f then (match evs ev args with
        | some (vs, c) => (match callP T P f vs with | some (x, d) => some (x, c ∧ d) | none => none)
        | none => none)
      else none
    | _, _ => none
  | .Attribute v a _ => match v with
    | .Name x _ => if isGlob sc x then (match T.ga x a with | some v => some (v, True) | none => none) else none
    | _ => none
  | .Subscript v s _ => match s with
    | .Slice lo up st _ => match lo, up, st, v with
      | none, some (.UnaryOp .USub (.Constant (.int 1) _ _) _), none, .Name _ _ => match ev v with
        | some (.lst xs, c) => some (.lst xs.dropLast, c ∧ xs.length ≤ sizeLine)
        | _ => none
      | _, _, _, _ => none
    | _ => match ev v, ev s with
      | some (o, c), some (i, d) => match idxP P o i with
        | some (x, e) => some (x, c ∧ d ∧ e)
        | none => none
      | _, _ => none
  | .List es _ => match es with
    | [] => none
    | es => match evs ev es with
      | some (vs, c) => some (.lst vs, c ∧ vs.length ≤ sizeLine)
      | none => none
  | .Tuple es _ _ => match evs ev es with
    | some (vs, c) => some (.tup vs, c ∧ vs.length ≤ sizeLine)
    | none => none
  | _ => none

noncomputable def tvStep (P : PS) (ev : Expr → CV PV) (tv : Expr → CV Bool) (e : Expr) : CV Bool := match e with
  | .UnaryOp .Not x _ => match tv x with | some (b, c) => some (!b, c) | none => none
  | .BoolOp op es _ => match op with | .And => tvAnd tv es | .Or => tvOr tv es
  | .IfExp .. => none
  | .Compare l ops rs _ => match ops, rs with
    | [op], [r] => cmpE ev P l op r
    | _, _ => none
  | e => match ev e with
    | some (v, c) => match truthP P v with | some (b, d) => some (b, c ∧ d) | none => none
    | none => none

noncomputable def EV (T : Tb) (sc : Scope) (P : PS) : Nat → (Expr → CV PV) × (Expr → CV Bool)
  | 0 => (fun _ => none, fun _ => none)
  | n + 1 => (evStep T sc P (EV T sc P n).1 (EV T sc P n).2, tvStep P (EV T sc P n).1 (EV T sc P n).2)
noncomputable abbrev evP (T : Tb) (sc : Scope) (n : Nat) (P : PS) (e : Expr) : CV PV := (EV T sc P n).1 e
noncomputable abbrev tvP (T : Tb) (sc : Scope) (n : Nat) (P : PS) (e : Expr) : CV Bool := (EV T sc P n).2 e

noncomputable def notSlice : Expr → Bool
  | .Slice .. => false
  | _ => true

/-- room enough -/
structure Rm (k : Nat) (A : Around) : Prop where
  hh : A.handled = none
  depth : A.depth + k < recursionLimit
  units : A.units + 8 * k + 128 < cLine
theorem Rm.less {k j : Nat} {A : Around} (r : Rm k A) (h : j ≤ k) : Rm j A := ⟨r.hh, by have := r.depth; omega, by have := r.units; omega⟩

/-- what the top gives -/
structure Gd (prog : Program) (w : World) (h₀ : Heap) (K : Addr) (T : Tb) (mg mb : Str → Option Value) : Prop where
  g : h₀.Ns mainGlobals mg
  b : h₀.Ns builtinsNs mb
  nolimit : h₀.NoLimit
  bn : ∀ x : String, x ∈ ["len", "abs"] → mg (Str.ofString x) = none ∧ mb (Str.ofString x) = some (.builtin x)
  bt : ∀ x : String, x ∈ ["int", "bool", "list", "zip", "range", "tuple"] → mg (Str.ofString x) = none ∧ mb (Str.ofString x) = some (.type x)
  gv : ∀ x v, T.gv x = some v → ∃ u, mg x = some u ∧ ∀ C ρ h, VR C ρ h v u
  ga : ∀ x a v, T.ga x a = some v → ∃ c, mg x = some (.ref c) ∧ ∀ (A : Around) (s : Shared) (Q : Value → Shared → Prop) (E : Value → Shared → Prop), Keep h₀ s.heap →
    (∀ u tk, (∀ C ρ h, VR C ρ h v u) → Q u { s with toks := tk }) → wpAny (model prog w) A (getAttr (.ref c) a true) Q E s
  fn : ∀ f vs v c, T.fn f vs = some (v, c) → c → ∃ a, mg f = some (.ref a) ∧
    (∀ h, Keep h₀ h → ∃ k, (k = Keeper.frame ∨ k = Keeper.machine ∨ k = Keeper.boundFrame) ∧ Looks (model prog w) h (keeperOf (.ref a)) k) ∧
    ∀ (A : Around) (C : Cx) (ρ : List Addr) (us : List Value) (s : Shared) (Q : Value → Shared → Prop) (E : Value → Shared → Prop), Rm T.nd A → Keep h₀ s.heap → h₀.objs.size ≤ s.heap.objs.size → C.cls = K → (∀ a, Free C ρ a ∨ (s.heap.get? a).isSome = true) → VRs C ρ s.heap vs us →
      (∀ u h' tk, Keep s.heap h' → VR C ρ h' v u → Q u { s with heap := h', toks := tk }) → wpAny (model prog w) A (call (.ref a) us) Q E s
  ti : ∀ (A : Around) (s : Shared) (a d : Addr) (vs : List Value) (k : Int) (u : Tok) (x : Value) (value slice : Expr) (Q : Value → Shared → Prop) (E : Value → Shared → Prop), Keep h₀ s.heap → s.heap.get? a = some (tokO K d vs) →
    notSlice slice = true → 0 ≤ k → k < 2 ^ 63 → vs[k.toNat]? = some x → (∀ h' tk, Keep s.heap h' → Q x { s with heap := h', toks := tk }) → wpAny (model prog w) A (subscriptTail value slice (.ref a) (.int k u)) Q E s
  tu : ∀ (A : Around) (s : Shared) (a d : Addr) (vs : List Value) (n : Nat) (Q : List Value → Shared → Prop) (E : Value → Shared → Prop), A.handled = none → Keep h₀ s.heap → s.heap.get? a = some (tokO K d vs) → vs.length = n →
    (∀ h' tk, Keep s.heap h' → Q vs { s with heap := h', toks := tk }) → wpAny (model prog w) A (unpackItems (.ref a) n none) Q E s
  fnName : ∀ f vs v c, T.fn f vs = some (v, c) → f ≠ "len" ∧ f ≠ "abs" ∧ f ≠ "int"

end Mine

end
section
open PySem PySem.W PyProof.Rows PySem.Calls
set_option maxRecDepth 100000
namespace Mine

noncomputable abbrev Out (C : Cx) (ρ : List Addr) (s : Shared) (v : PV) (Q : Value → Shared → Prop) : Prop := ∀ u h' tk, Keep s.heap h' → VR C ρ h' v u → Q u { s with heap := h', toks := tk }

section
variable {prog : Program} {w : World} {A : Around} {E : Value → Shared → Prop} {s : Shared} {C : Cx} {ρ : List Addr} {L : Addr} {h₀ : Heap} {P : PS}

theorem not_in_of_none {ρ : List Addr} {h : Heap} (hr : ∀ a ∈ ρ, (h.get? a).isSome = true) : h.objs.size ∉ ρ := fun m => by
  have e := hr _ m
  rw [Heap.get?_none_of_le (Nat.le_refl _)] at e
  cases e
theorem Rl.there (R : Rl h₀ C ρ L P s.heap) : ∀ a ∈ ρ, (s.heap.get? a).isSome = true := fun a m => by
  obtain ⟨k, hk⟩ := List.mem_iff_getElem?.mp m
  have hl : k < ρ.length := by
    rcases Nat.lt_or_ge k ρ.length with q | q
    · exact q
    · rw [List.getElem?_eq_none q] at hk; cases hk
  rw [R.len] at hl
  obtain ⟨a', vs, b, ⟨n, c⟩, _⟩ := R.mu k _ (List.getElem?_eq_getElem hl)
  rw [hk] at b; cases b
  rw [c]; rfl
theorem fresh_not (R : Rl h₀ C ρ L P s.heap) : Free C ρ s.heap.objs.size := ⟨not_in_of_none R.there, not_in_of_none R.exd⟩
theorem Rl.dom (R : Rl h₀ C ρ L P s.heap) (a : Addr) : Free C ρ a ∨ (s.heap.get? a).isSome = true := by
  by_cases h1 : a ∈ ρ
  · exact .inr (R.there a h1)
  · by_cases h2 : a ∈ C.ex
    · exact .inr (R.exd a h2)
    · exact .inl ⟨h1, h2⟩

theorem add_lists' {l b : Addr} {vs ws : List Value} {Q : Value → Shared → Prop} (hl : s.heap.IsList l vs.toArray) (hb : s.heap.IsList b ws.toArray)
    (h : Q (.ref s.heap.objs.size) { s with heap := s.heap.push { cls := .type "list", data := .seq (vs ++ ws).toArray } })
    (hsz : vs.length + ws.length ≤ sizeLine) : wpAny (model prog w) A (binaryOp .Add (.ref l) (.ref b)) Q E s := by
  obtain ⟨⟨cls, dd, data, sl⟩, ho, hc, n, hd⟩ := id hl
  obtain ⟨⟨cls2, dd2, data2, sl2⟩, ho2, hc2, n2, hd2⟩ := id hb
  simp only at hc hd hc2 hd2
  subst hc hd hc2 hd2
  have e : vs.toArray ++ ws.toArray = (vs ++ ws).toArray := by simp
  refine concat_meets ⟨_, ho, rfl⟩ ⟨_, ho2, rfl⟩ noFill_list_add seq_list_add PySem.F.slot_list_add PySem.F.entry_list_add (PySem.F.args_list_add_2 _ _) (list_addW l b vs.toArray ws.toArray n n2 dd dd2 sl sl2 (by simpa using hsz)) ⟨ho, ho2, ?_⟩
  rw [e]
  exact h

theorem VR.newList {h : Heap} {xs : List PV} {vs : List Value} (hr : Free C ρ h.objs.size) (hv : VRs C ρ h xs vs) : VR C ρ (h.push { cls := .type "list", data := .seq vs.toArray }) (.lst xs) (.ref h.objs.size) :=
  .lst ⟨_, Heap.get?_push_size _ rfl, rfl, 0, rfl⟩ hr (hv.keep (Keep.push _ _))
theorem VR.newTup {h : Heap} {xs : List PV} {vs : List Value} (hr : Free C ρ h.objs.size) (hv : VRs C ρ h xs vs) : VR C ρ (h.push (tupO vs)) (.tup xs) (.ref h.objs.size) :=
  .tup (Heap.get?_push_size _ rfl) hr (hv.keep (Keep.push _ _))

theorem binP_ok {op : Operator} {a b v : PV} {c : Prop} {x y : Value} (e : binP op a b = some (v, c)) (hc : c) (R : Rl h₀ C ρ L P s.heap) (hx : VR C ρ s.heap a x) (hy : VR C ρ s.heap b y)
    {Q : Value → Shared → Prop} (h : Out C ρ s v Q) : wpAny (model prog w) A (binaryOp op x y) Q E s := by
  unfold binP at e
  split at e <;> first | (cases e; done) | skip
  · cases e; cases hx; cases hy; exact add_int (h _ _ _ (Keep.refl _) (.int _ _))
  · cases e; cases hx; cases hy; exact add_str (fun t tk => h _ _ _ (Keep.refl _) (.str _ _)) hc
  · cases e
    cases hx with
    | lst ha hn hv =>
      cases hy with
      | lst hb hm hw =>
        exact add_lists' ha hb (h _ _ _ (Keep.push _ _) (VR.newList (fresh_not R) (hv.append hw))) (by rw [hv.length, hw.length]; exact hc)
  · cases e; cases hx; cases hy; exact sub_int (h _ _ _ (Keep.refl _) (.int _ _))
  · cases e; cases hx; cases hy; exact mul_int (h _ _ _ (Keep.refl _) (.int _ _)) hc
  · cases e; cases hx; cases hy; exact SB.mul hc fun t k => h _ _ _ (Keep.refl _) (.str _ _)
  · cases e; cases hx; cases hy; exact mod_int' hc (h _ _ _ (Keep.refl _) (.int _ _))
  · cases e; cases hx; cases hy; exact floordiv_int hc.1 (h _ _ _ (Keep.refl _) (.int _ _)) (.inl hc.2)

theorem cmpP_ok {op : CmpOp} {a b : PV} {r : Bool} {c : Prop} {x y : Value} {k : Nat} (e : cmpP P op a b = some (r, c)) (hc : c) (rm : Rm k A) (R : Rl h₀ C ρ L P s.heap) (hx : VR C ρ s.heap a x) (hy : VR C ρ s.heap b y)
    {Q : Value → Shared → Prop} (h : Q (.bool r) s) : wpAny (model prog w) A (compareOp op x y) Q E s := by
  have hu : A.units + 64 < cLine := by have := rm.units; omega
  unfold cmpP at e
  split at e
  · split at e
    · rename_i d d' hd hd'
      cases e
      obtain ⟨as, r1⟩ := R.reads hx hd
      obtain ⟨bs, r2⟩ := R.reads hy hd'
      exact eq_dataH r1 r2 hc.1 hc.2 hu h
    · cases e
  · split at e
    · rename_i d d' hd hd'
      cases e
      obtain ⟨as, r1⟩ := R.reads hx hd
      obtain ⟨bs, r2⟩ := R.reads hy hd'
      exact ne_dataH r1 r2 hc.1 hc.2 hu h
    · cases e
  · split at e
    · cases e; cases hx; cases hy; exact lt_int h
    · cases e
  · split at e
    · cases e; cases hx; cases hy; exact gt_int h
    · cases e
  · split at e
    · cases e; cases hx; cases hy; exact PySem.P.in_str h
    · cases e
  · cases e

theorem truthP_ok {a : PV} {r : Bool} {c : Prop} {x : Value} (e : truthP P a = some (r, c)) (hc : c) (R : Rl h₀ C ρ L P s.heap) (hx : VR C ρ s.heap a x)
    {Q : Bool → Shared → Prop} (h : ∀ tk, Q r { s with toks := tk }) : wpAny (model prog w) A (truthy x) Q E s := by
  unfold truthP at e
  split at e
  · cases e; cases hx; exact wpAny_truthy_bool (h s.toks)
  · rename_i k
    split at e
    · rename_i xs hk
      cases e
      cases hx with
      | ml ha =>
        obtain ⟨a', vs, b, c', d⟩ := R.mu _ xs hk
        rw [ha] at b; cases b
        have hl := d.length
        refine wpAny_truthy_list c'.isList (by rw [List.size_toArray, hl]; exact hc) ?_
        have e : (!vs.toArray.isEmpty) = !xs.isEmpty := by
          cases vs <;> cases xs <;> simp_all
        rw [e]
        exact h _
    · cases e
  · cases e

theorem lenP_ok {a v : PV} {c : Prop} {x : Value} (e : lenP P a = some (v, c)) (hc : c) (R : Rl h₀ C ρ L P s.heap) (hx : VR C ρ s.heap a x)
    {Q : Value → Shared → Prop} (h : Out C ρ s v Q) : wpAny (model prog w) A (call (.builtin "len") [x]) Q E s := by
  unfold lenP at e
  split at e
  · cases e; cases hx; exact len_str (by omega) (h _ _ _ (Keep.refl _) (.int _ _))
  · cases e
    cases hx with
    | lst ha hn hv =>
      have hl := hv.length
      refine call_len_list ha (by rw [List.size_toArray, hl]; exact hc) ?_
      rw [List.size_toArray, hl]
      exact h _ _ _ (Keep.refl _) (.int _ _)
  · split at e
    · rename_i xs hk
      cases e
      cases hx with
      | ml ha =>
        obtain ⟨a', vs, b, c', d⟩ := R.mu _ xs hk
        rw [ha] at b; cases b
        have hl := d.length
        refine call_len_list c'.isList (by rw [List.size_toArray, hl]; exact hc) ?_
        rw [List.size_toArray, hl]
        exact h _ _ _ (Keep.refl _) (.int _ _)
    · cases e
  · cases e

theorem methP_ok {nm : Str} {a v : PV} {c : Prop} {x : Value} {pl : Sem Bool} {pos : Pos} {env : Env} (e : methP nm a = some (v, c)) (hx : VR C ρ s.heap a x)
    {Q : Value → Shared → Prop} (h : Out C ρ s v Q) : wpAny (model prog w) A (getMethod x nm pl) (fun fx s₂ => wpAny (model prog w) A (callWith pos fx.1 fx.2 (backTo pos (starEach [] env)) []) Q E s₂) E s := by
  unfold methP at e
  split at e
  · split at e
    · rename_i q
      subst q
      cases e; cases hx
      exact GM.isalpha (callWith_method0 (SC.isalpha (h _ _ _ (Keep.refl _) (.bool _))))
    · split at e
      · rename_i q
        subst q
        cases e; cases hx
        exact GM.isdigit (callWith_method0 (SC.isdigit (h _ _ _ (Keep.refl _) (.bool _))))
      · cases e
  · cases e
end
end Mine

end
section
open PySem PySem.W PyProof.Rows PySem.Calls
set_option maxRecDepth 100000
namespace Mine

theorem subscripted_plain {slice : Expr} (h : notSlice slice = true) (o i : Value) : subscripted slice false o i = operate [o, i] (getItem o i) := by
  cases slice <;> first | rfl | (cases h; done)
theorem letGo_str (value : Expr) (x : Str) (t : Tok) (r : Value) : letTemporaryGo value (.str x t) r = pure () := by
  cases value <;> rfl

section
variable {prog : Program} {w : World} {A : Around} {E : Value → Shared → Prop} {s : Shared} {C : Cx} {ρ : List Addr} {L : Addr} {h₀ : Heap} {P : PS} {T : Tb} {mg mb : Str → Option Value}

theorem getD_of {xs : List PV} {i : Int} (h1 : i < xs.length) (h0 : 0 ≤ i) : xs[i.toNat]? = some (xs.getD i.toNat .none) := by
  have hl : i.toNat < xs.length := by omega
  rw [List.getElem?_eq_getElem hl, List.getD_eq_getElem?_getD, List.getElem?_eq_getElem hl]; rfl

theorem idxP_ok (G : Gd prog w h₀ C.cls T mg mb) {a i v : PV} {c : Prop} {x y : Value} {value slice : Expr} (e : idxP P a i = some (v, c)) (hc : c) (R : Rl h₀ C ρ L P s.heap) (hx : VR C ρ s.heap a x) (hy : VR C ρ s.heap i y) (hs : notSlice slice = true)
    {Q : Value → Shared → Prop} (h : Out C ρ s v Q) : wpAny (model prog w) A (subscriptTail value slice x y) Q E s := by
  obtain ⟨m, F, _⟩ := R.fr
  unfold idxP at e
  split at e
  · cases e; cases hx; cases hy
    exact item_str hc.1 hc.2.1 hc.2.2 (fun _ => h _ _ _ (Keep.refl _) (.str _ _)) (subscripted_plain hs _ _) (letGo_str _ _ _)
  · cases e
    cases hy
    cases hx with
    | lst ha hn hv =>
      obtain ⟨u, hu, r⟩ := hv.get (getD_of hc.2.1 hc.1)
      exact tail_any ha.typeIs slot_list_getitem.lookup (wpAny_getItem_list ha hc.1 hc.2.2 (by simpa using hu) (h _ _ _ (Keep.refl _) r)) (subscripted_plain hs _ _)
  · split at e
    · rename_i xs hk
      cases e
      cases hy
      cases hx with
      | ml ha =>
        obtain ⟨a', vs, b, c', d⟩ := R.mu _ xs hk
        rw [ha] at b; cases b
        obtain ⟨u, hu, r⟩ := d.get (getD_of hc.2.1 hc.1)
        exact tail_any c'.isList.typeIs slot_list_getitem.lookup (wpAny_getItem_list c'.isList hc.1 hc.2.2 (by simpa using hu) (h _ _ _ (Keep.refl _) r)) (subscripted_plain hs _ _)
    · cases e
  · cases e
    cases hy
    cases hx with
    | tok ha hn hv =>
      obtain ⟨u, hu, r⟩ := hv.get (getD_of hc.2.1 hc.1)
      exact G.ti A s _ _ _ _ _ u value slice _ _ F.keep ha hs hc.1 hc.2.2 hu fun h' tk hk => h _ _ _ hk (r.keep hk)
  · cases e

theorem attributeBase_plain {o : Expr} (h : plainBase o = true) (attr : Str) (env : Env) (whole : Sem Value) : attributeBase o attr env whole = whole := by
  cases o <;> first | rfl | (cases h; done)

theorem methodCall_ok {env : Env} {o : Expr} {nm : Str} {apos pos : Pos} {args : List Expr} {Q : Value → Shared → Prop} (hb : plainBase o = true) (hl : (apos.endLine == pos.line) = true)
    (hf : methodCallForm (args.length + 0) (backTo pos (starEach args env)) [] = true)
    (h : wpAny (model prog w) A (eval o env) (fun ov s₁ => wpAny (model prog w) A (getMethod ov nm (do return (← importBound o env).getD true)) (fun fx s₂ => wpAny (model prog w) A (callWith pos fx.1 fx.2 (backTo pos (starEach args env)) []) Q E s₂) E s₁) E s) :
    wpAny (model prog w) A (eval (.Call (.Attribute o nm apos) args [] pos) env) Q E s := by
  have e : eval (.Call (.Attribute o nm apos) args [] pos) env = (do
    let ov ← attributeBase o nm env (eval o env)
    standAt apos.atName
    methodCall o nm apos pos env ov (args.length + 0) (backTo pos (starEach args env)) []) := rfl
  rw [e, attributeBase_plain hb]
  refine wpAny_bind (wpAny_mono h (fun ov s₁ h₁ => wpAny_bind (wpAny_standAt ?_)) fun _ _ x => x)
  unfold methodCall calleeOf methodCallPos
  rw [hf]
  refine wpAny_bind (wpAny_holding (wpAny_mono h₁ (fun fx s₂ h₂ => ?_) fun _ _ x => x))
  rw [hl]
  exact wpAny_bind (wpAny_pure h₂)

section
variable {sc : Scope} {nm : Str} {a : Addr} {cd : Value} {ev : Expr → CV PV} {tv : Expr → CV Bool}

noncomputable abbrev EvSound (prog : Program) (w : World) (A : Around) (C : Cx) (ρ : List Addr) (L : Addr) (h₀ : Heap) (P : PS) (sc : Scope) (nm : Str) (a : Addr) (cd : Value) (ev : Expr → CV PV) : Prop :=
  ∀ (s : Shared) (e : Expr) (v : PV) (c : Prop), ev e = some (v, c) → c → Rl h₀ C ρ L P s.heap → ∀ (Q : Value → Shared → Prop) (E : Value → Shared → Prop), Out C ρ s v Q → wpAny (model prog w) A (eval e (envOf nm sc L a cd)) Q E s
noncomputable abbrev TvSound (prog : Program) (w : World) (A : Around) (C : Cx) (ρ : List Addr) (L : Addr) (h₀ : Heap) (P : PS) (sc : Scope) (nm : Str) (a : Addr) (cd : Value) (tv : Expr → CV Bool) : Prop :=
  ∀ (s : Shared) (e : Expr) (b : Bool) (c : Prop), tv e = some (b, c) → c → Rl h₀ C ρ L P s.heap → ∀ (Q : Bool → Shared → Prop) (E : Value → Shared → Prop), (∀ h' tk, Keep s.heap h' → Q b { s with heap := h', toks := tk }) →
    wpAny (model prog w) A (isTrue e (envOf nm sc L a cd) (eval e (envOf nm sc L a cd))) Q E s

theorem starEach_cons {e : Expr} {r : List Expr} {env : Env} (h : ∀ x p, e ≠ .Starred x p) : starEach (e :: r) env = (false, eval e env) :: starEach r env := by
  cases e <;> first | rfl | exact absurd rfl (h _ _)

theorem evs_ok (hev : EvSound prog w A C ρ L h₀ P sc nm a cd ev) (hst : ∀ x p, ev (.Starred x p) = none) {pos : Pos} : ∀ (es : List Expr) (s : Shared) (vs : List PV) (c : Prop), evs ev es = some (vs, c) → c → Rl h₀ C ρ L P s.heap →
    ((backTo pos (starEach es (envOf nm sc L a cd))).any (·.1) = false ∧ (backTo pos (starEach es (envOf nm sc L a cd))).length = es.length) ∧
    ∀ (Q : List Value → Shared → Prop) (E : Value → Shared → Prop), (∀ us h' tk, Keep s.heap h' → VRs C ρ h' vs us → Q us { s with heap := h', toks := tk }) → wpAny (model prog w) A (spliced (backTo pos (starEach es (envOf nm sc L a cd)))) Q E s
  | [], s, vs, c, e, hc, R => by
    cases e
    exact ⟨⟨rfl, rfl⟩, fun Q E h => Calls.spliced_nil (h _ _ _ (Keep.refl _) .nil)⟩
  | x :: r, s, vs, c, e, hc, R => by
    simp only [evs] at e
    split at e
    · rename_i v cx vs' cs h1 h2
      cases e
      have hx : ∀ y p, x ≠ .Starred y p := fun y p q => by subst q; rw [hst] at h1; cases h1
      obtain ⟨⟨ha, hb⟩, hq⟩ := evs_ok hev hst (pos := pos) r s vs' cs h2 hc.2 R
      rw [starEach_cons hx]
      refine ⟨⟨?_, ?_⟩, fun Q E h => ?_⟩
      · show (false || (backTo pos (starEach r _)).any (·.1)) = false
        rw [ha]; rfl
      · show (backTo pos (starEach r _)).length + 1 = _
        rw [hb]; rfl
      · refine Calls.spliced_cons (hev s x v cx h1 hc.1 R _ _ fun u h' tk hk hr => ?_)
        obtain ⟨_, hq'⟩ := evs_ok hev hst (pos := pos) r { s with heap := h', toks := tk } vs' cs h2 hc.2 (R.keep hk)
        exact hq' _ _ fun us h'' tk' hk' hrs => h _ _ _ (hk.trans hk') (.cons (hr.keep hk') hrs)
    · cases e

theorem evalArgs_ok {f : Value} (hev : EvSound prog w A C ρ L h₀ P sc nm a cd ev) (hst : ∀ x p, ev (.Starred x p) = none) {pos : Pos} {es : List Expr} {vs : List PV} {c : Prop} (e : evs ev es = some (vs, c)) (hc : c) (R : Rl h₀ C ρ L P s.heap)
    {Q : Args → Shared → Prop} (h : ∀ us h' tk, Keep s.heap h' → VRs C ρ h' vs us → Q ⟨us, []⟩ { s with heap := h', toks := tk }) : wpAny (model prog w) A (evalArgs f true (backTo pos (starEach es (envOf nm sc L a cd))) []) Q E s := by
  have hq := (evs_ok hev hst (pos := pos) es s vs c e hc R).2
  cases es with
  | nil =>
    cases e
    exact evalArgs_nil3 (h _ _ _ (Keep.refl _) .nil)
  | cons x r =>
    have hx : ∀ y p, x ≠ .Starred y p := fun y p q => by
      subst q
      simp only [evs, hst] at e
      cases e
    have hq' := hq (fun us s' => Q ⟨us, []⟩ s') E h
    rw [starEach_cons hx] at hq' ⊢
    exact evalArgs_plain hq'

theorem callWith_ok {f : Value} (hev : EvSound prog w A C ρ L h₀ P sc nm a cd ev) (hst : ∀ x p, ev (.Starred x p) = none) {pos : Pos} {es : List Expr} {vs : List PV} {c : Prop} (e : evs ev es = some (vs, c)) (hc : c) (R : Rl h₀ C ρ L P s.heap)
    (hk : ∀ h, Keep h₀ h → ∃ k, (k = Keeper.frame ∨ k = Keeper.machine ∨ k = Keeper.boundFrame) ∧ Looks (model prog w) h (keeperOf f) k)
    {Q : Value → Shared → Prop} (h : ∀ us h' tk, Keep s.heap h' → VRs C ρ h' vs us → wpAny (model prog w) A (call f us) Q E { s with heap := h', toks := tk }) :
    wpAny (model prog w) A (callWith pos f [] (backTo pos (starEach es (envOf nm sc L a cd))) []) Q E s := by
  obtain ⟨m, F, _⟩ := R.fr
  refine callWith_of (P := fun h => Keep h₀ h) ?_ hk (evalArgs_ok hev hst e hc R fun us h' tk hk hv => ⟨fun b o x => hk _ _ (F.keep b o x), ?_⟩)
  · rw [(evs_ok hev hst (pos := pos) es s vs c e hc R).1.1]; rfl
  · exact h us h' tk hk hv
end
end
end Mine

end
section
open PySem PySem.W PyProof.Rows PySem.Calls
set_option maxRecDepth 100000
namespace Mine

theorem eq_of_beqStr {x y : Str} (h : (x == y) = true) : x = y := by simpa using h

section
variable {prog : Program} {w : World} {A : Around} {s : Shared} {C : Cx} {ρ : List Addr} {L : Addr} {h₀ : Heap} {P : PS} {T : Tb} {mg mb : Str → Option Value}
variable {sc : Scope} {nm : Str} {a : Addr} {cd : Value} {ev : Expr → CV PV} {tv : Expr → CV Bool}

theorem keeper_builtin (id : String) (h : Heap) : ∃ k, (k = Keeper.frame ∨ k = Keeper.machine ∨ k = Keeper.boundFrame) ∧ Looks (model prog w) h (keeperOf (.builtin id)) k := ⟨.machine, .inr (.inl rfl), Looks.now⟩
theorem keeper_type (id : String) (h : Heap) : ∃ k, (k = Keeper.frame ∨ k = Keeper.machine ∨ k = Keeper.boundFrame) ∧ Looks (model prog w) h (keeperOf (.type id)) k := ⟨.machine, .inr (.inl rfl), Looks.now⟩

theorem isLoc_parts {x : Str} (h : isLoc sc x = true) : sc.names.lookup x = some .local ∧ (x == ("__debug__" : Str)) = false := by
  unfold isLoc at h
  rw [Bool.and_eq_true] at h
  exact ⟨by simpa using h.1, by simpa using h.2⟩
theorem isGlob_parts {x : Str} (h : isGlob sc x = true) : sc.names.lookup x = some .globalImplicit ∧ (x == ("__debug__" : Str)) = false := by
  unfold isGlob at h
  rw [Bool.and_eq_true] at h
  exact ⟨by simpa using h.1, by simpa using h.2⟩

theorem name_global (G : Gd prog w h₀ C.cls T mg mb) (hk : sc.kind = .function) {x : Str} {pos : Pos} {v : Value} (R : Rl h₀ C ρ L P s.heap) (hx : isGlob sc x = true) (hv : mg x = some v) {Q : Value → Shared → Prop} {E : Value → Shared → Prop} (h : Q v s) :
    wpAny (model prog w) A (eval (.Name x pos) (envOf nm sc L a cd)) Q E s := by
  obtain ⟨m, F, _⟩ := R.fr
  exact ld_global_at F G.g hv h hk (isGlob_parts hx).1 (isGlob_parts hx).2
theorem name_builtin (G : Gd prog w h₀ C.cls T mg mb) (hk : sc.kind = .function) {x : Str} {pos : Pos} {v : Value} (R : Rl h₀ C ρ L P s.heap) (hx : isGlob sc x = true) (hn : mg x = none) (hv : mb x = some v) {Q : Value → Shared → Prop} {E : Value → Shared → Prop} (h : Q v s) :
    wpAny (model prog w) A (eval (.Name x pos) (envOf nm sc L a cd)) Q E s := by
  obtain ⟨m, F, _⟩ := R.fr
  exact ld_builtin_at F G.g hn G.b hv h hk (isGlob_parts hx).1 (isGlob_parts hx).2

theorem call_ok (G : Gd prog w h₀ C.cls T mg mb) (rm : Rm (T.nd + 12) A) (hk : sc.kind = .function) (hev : EvSound prog w A C ρ L h₀ P sc nm a cd ev) (hst : ∀ x p, ev (.Starred x p) = none) {f : Str} {p pos : Pos} {args : List Expr} {vs : List PV} {c d : Prop} {v : PV}
    (hf : isGlob sc f = true) (e1 : evs ev args = some (vs, c)) (e2 : callP T P f vs = some (v, d)) (hc : c) (hd : d) (R : Rl h₀ C ρ L P s.heap) {Q : Value → Shared → Prop} {E : Value → Shared → Prop} (h : Out C ρ s v Q) :
    wpAny (model prog w) A (eval (.Call (.Name f p) args [] pos) (envOf nm sc L a cd)) Q E s := by
  rw [arm_eval_Call_Name']
  refine wpAny_bind ?_
  show wpAny _ _ _ (fun fv s₁ => wpAny (model prog w) A (callWith pos fv [] (backTo pos (starEach args (envOf nm sc L a cd))) []) Q E s₁) E s
  unfold callP at e2
  split at e2
  · rename_i q
    subst q
    obtain ⟨b1, b2⟩ := G.bn "len" (by simp)
    refine name_builtin G hk R hf b1 b2 ?_
    split at e2
    · rename_i x
      refine callWith_ok hev hst e1 hc R (fun h _ => keeper_builtin _ h) fun us h' tk hkp hv => ?_
      cases hv with
      | cons hx hr =>
        cases hr with
        | nil => exact lenP_ok e2 hd (R.keep hkp) hx fun u h'' tk' hk' r => h _ _ _ (hkp.trans hk') r
    · cases e2
  · split at e2
    · rename_i q
      subst q
      obtain ⟨b1, b2⟩ := G.bn "abs" (by simp)
      refine name_builtin G hk R hf b1 b2 ?_
      split at e2
      · cases e2
        refine callWith_ok hev hst e1 hc R (fun h _ => keeper_builtin _ h) fun us h' tk hkp hv => ?_
        cases hv with
        | cons hx hr =>
          cases hr with
          | nil => cases hx; exact call_abs_int fun u tk' => h _ _ _ hkp (.int _ _)
      · cases e2
    · split at e2
      · rename_i q
        subst q
        obtain ⟨b1, b2⟩ := G.bt "int" (by simp)
        refine name_builtin G hk R hf b1 b2 ?_
        split at e2
        · cases e2
          obtain ⟨i, hi⟩ := hd
          refine callWith_ok hev hst e1 hc R (fun h _ => keeper_type _ h) fun us h' tk hkp hv => ?_
          subst hi
          cases hv with
          | cons hx hr =>
            cases hr with
            | nil => cases hx; exact call_int_int (h _ _ _ hkp (.int _ _))
        · cases e2
      · obtain ⟨fa, hg, hkp, hcall⟩ := G.fn _ _ _ _ e2 hd
        refine name_global G hk R hf hg ?_
        refine callWith_ok hev hst e1 hc R hkp fun us h' tk hkp hv => ?_
        obtain ⟨m, F, _⟩ := (R.keep hkp).fr
        exact hcall A C ρ us _ _ _ (rm.less (by omega)) F.keep (Nat.le_trans F.above (Nat.le_of_lt F.ns.lt)) rfl (Rl.dom (s := { s with heap := h', toks := tk }) (R.keep hkp)) hv fun u h'' tk' hk' r => h _ _ _ (hkp.trans hk') r

theorem cmpE_ok {kk : Nat} (rm : Rm kk A) (hev : EvSound prog w A C ρ L h₀ P sc nm a cd ev) {l r : Expr} {op : CmpOp} {b : Bool} {c : Prop} (e : cmpE ev P l op r = some (b, c)) (hc : c) (R : Rl h₀ C ρ L P s.heap) {Q : Value → Shared → Prop} {E : Value → Shared → Prop}
    (h : ∀ h' tk, Keep s.heap h' → Q (.bool b) { s with heap := h', toks := tk }) : behindInMarks op r = false ∧
    wpAny (model prog w) A (eval l (envOf nm sc L a cd)) (fun x s₁ => wpAny (model prog w) A (eval r (envOf nm sc L a cd)) (fun y s₂ => wpAny (model prog w) A (compareOp op x y) Q E s₂) E s₁) E s := by
  unfold cmpE at e
  split at e
  · cases e
  · rename_i hb
    refine ⟨by simpa using hb, ?_⟩
    split at e
    · rename_i x cx y cy h1 h2
      split at e
      · rename_i z cz h3
        cases e
        refine hev s l x cx h1 hc.1 R _ _ fun u h' tk hk hr => ?_
        refine hev _ r y cy h2 hc.2.1 (R.keep hk) _ _ fun u' h'' tk' hk' hr' => ?_
        exact cmpP_ok h3 hc.2.2 rm (R.keep (hk.trans hk')) (hr.keep hk') hr' (h _ _ (hk.trans hk'))
      · cases e
    · cases e

theorem tvAnd_ok (htv : TvSound prog w A C ρ L h₀ P sc nm a cd tv) {pos : Pos} {whole : Sem Value} : ∀ (es : List Expr) (s : Shared) (b : Bool) (c : Prop), tvAnd tv es = some (b, c) → c → Rl h₀ C ρ L P s.heap → ∀ (Q : Bool → Shared → Prop) (E : Value → Shared → Prop),
    (∀ h' tk, Keep s.heap h' → Q b { s with heap := h', toks := tk }) → wpAny (model prog w) A (isTrue (.BoolOp .And es pos) (envOf nm sc L a cd) whole) Q E s
  | [], s, b, c, e, hc, R, Q, E, h => by cases e; exact isTrue_and_nil (h _ _ (Keep.refl _))
  | x :: r, s, b, c, e, hc, R, Q, E, h => by
    simp only [tvAnd] at e
    split at e
    · rename_i b1 c1 b2 c2 h1 h2
      cases e
      refine isTrue_and (htv s x b1 c1 h1 hc.1 R _ _ fun h' tk hk => ?_)
      cases b1 with
      | true =>
        simp only [if_true]
        exact tvAnd_ok htv r _ b2 c2 h2 (hc.2 rfl) (R.keep hk) _ _ fun h'' tk' hk' => h _ _ (hk.trans hk')
      | false =>
        simp only [Bool.false_eq_true, if_false]
        exact h _ _ hk
    · cases e
theorem tvOr_ok (htv : TvSound prog w A C ρ L h₀ P sc nm a cd tv) {pos : Pos} {whole : Sem Value} : ∀ (es : List Expr) (s : Shared) (b : Bool) (c : Prop), tvOr tv es = some (b, c) → c → Rl h₀ C ρ L P s.heap → ∀ (Q : Bool → Shared → Prop) (E : Value → Shared → Prop),
    (∀ h' tk, Keep s.heap h' → Q b { s with heap := h', toks := tk }) → wpAny (model prog w) A (isTrue (.BoolOp .Or es pos) (envOf nm sc L a cd) whole) Q E s
  | [], s, b, c, e, hc, R, Q, E, h => by cases e; exact isTrue_or_nil (h _ _ (Keep.refl _))
  | x :: r, s, b, c, e, hc, R, Q, E, h => by
    simp only [tvOr] at e
    split at e
    · rename_i b1 c1 b2 c2 h1 h2
      cases e
      refine isTrue_or (htv s x b1 c1 h1 hc.1 R _ _ fun h' tk hk => ?_)
      cases b1 with
      | false =>
        simp only [Bool.false_eq_true, if_false]
        exact tvOr_ok htv r _ b2 c2 h2 (hc.2 rfl) (R.keep hk) _ _ fun h'' tk' hk' => h _ _ (hk.trans hk')
      | true =>
        simp only [if_true]
        exact h _ _ hk
    · cases e

theorem isTrue_else {M : Model} {A : Around} {E : Value → Shared → Prop} {s : Shared} {env : Env} {e : Expr} {whole : Sem Value} {Q : Bool → Shared → Prop}
    (h1 : ∀ x p, e ≠ .UnaryOp .Not x p) (h2 : ∀ o es p, e ≠ .BoolOp o es p) (h3 : ∀ t b o p, e ≠ .IfExp t b o p) (h4 : ∀ l o r p, e ≠ .Compare l o r p)
    (h : wpAny M A whole (fun v s₁ => wpAny M A (truthy v) Q E s₁) E s) : wpAny M A (isTrue e env whole) Q E s := by
  refine isTrue_plain h ?_
  cases e with
  | UnaryOp op x p => cases op <;> first | rfl | exact absurd rfl (h1 _ _)
  | BoolOp => exact absurd rfl (h2 _ _ _)
  | IfExp => exact absurd rfl (h3 _ _ _ _)
  | Compare => exact absurd rfl (h4 _ _ _ _)
  | _ => rfl

theorem tvStep_ok {kk : Nat} (rm : Rm kk A) (hev : EvSound prog w A C ρ L h₀ P sc nm a cd ev) (htv : TvSound prog w A C ρ L h₀ P sc nm a cd tv) : TvSound prog w A C ρ L h₀ P sc nm a cd (tvStep P ev tv) := by
  intro s e b c he hc R Q E h
  unfold tvStep at he
  split at he
  · split at he
    · rename_i b' c' h1
      cases he
      exact isTrue_not (htv s _ b' _ h1 hc R _ _ h)
    · cases he
  · split at he
    · exact tvAnd_ok htv _ s b c he hc R Q E h
    · exact tvOr_ok htv _ s b c he hc R Q E h
  · cases he
  · split at he
    · obtain ⟨hb, hw⟩ := cmpE_ok (nm := nm) (a := a) (cd := cd) (E := E) (Q := fun v s₁ => wpAny (model prog w) A (truthy v) Q E s₁) rm hev he hc R fun h' tk hk => wpAny_truthy_bool (h _ _ hk)
      exact wpAny_isTrue_Compare1 hw hb
    · cases he
  · rename_i n1 n2 n3 n4
    split at he
    · rename_i v cv h1
      split at he
      · rename_i b' d h2
        cases he
        refine isTrue_else (fun x p => n1 x p) (fun o es p => n2 o es p) (fun t b o p => n3 t b o p) (fun l o r p => n4 l o r p) ?_
        refine hev s _ v cv h1 hc.1 R _ _ fun u h' tk hk hr => ?_
        exact truthP_ok h2 hc.2 (R.keep hk) hr fun tk' => h _ _ hk
      · cases he
    · cases he
end
end Mine

end
section
open PySem PySem.W PyProof.Rows PySem.Calls
set_option maxRecDepth 100000
namespace Mine
section
variable {prog : Program} {w : World} {A : Around} {s : Shared} {C : Cx} {ρ : List Addr} {L : Addr} {h₀ : Heap} {P : PS} {T : Tb} {mg mb : Str → Option Value}
variable {sc : Scope} {nm : Str} {a : Addr} {cd : Value} {ev : Expr → CV PV} {tv : Expr → CV Bool}

theorem Constant_int' {M : Model} {A : Around} {E : Value → Shared → Prop} {s : Shared} {env : Env} {i : Int} {k : Nat} {pos : Pos} {Q : Value → Shared → Prop} (h : Q (.int i s.toks) { s with toks := s.toks + 1 }) :
    wpAny M A (eval (.Constant (.int i) k pos) env) Q E s := wpAny_Constant_int h

theorem VRs.new_list {Q : Value → Shared → Prop} {E : Value → Shared → Prop} {M : Model} {xs : List PV} {vs : List Value} (R : Rl h₀ C ρ L P s.heap) (hv : VRs C ρ s.heap xs vs) (hl : xs.length ≤ sizeLine) (h : Out C ρ s (.lst xs) Q) : wpAny M A (newList vs) Q E s :=
  wpAny_newList (h _ _ _ (Keep.push _ _) (VR.newList (fresh_not R) hv)) (by rw [hv.length]; exact hl)
theorem VRs.new_tup {Q : Value → Shared → Prop} {E : Value → Shared → Prop} {M : Model} {xs : List PV} {vs : List Value} (R : Rl h₀ C ρ L P s.heap) (hv : VRs C ρ s.heap xs vs) (hl : xs.length ≤ sizeLine) (h : Out C ρ s (.tup xs) Q) : wpAny M A (newTuple vs) Q E s :=
  wpAny_newTuple (h _ _ _ (Keep.push _ _) (VR.newTup (fresh_not R) hv)) (by rw [hv.length]; exact hl)

theorem slice_ok (R : Rl h₀ C ρ L P s.heap) {xs : List PV} {x : Value} {value : Expr} {p1 p2 p3 : Pos} {k : Nat} (hx : VR C ρ s.heap (.lst xs) x) (hl : xs.length ≤ sizeLine) (hn : ∀ r, letTemporaryGo value x r = pure ()) {Q : Value → Shared → Prop} {E : Value → Shared → Prop} {env : Env} (h : Out C ρ s (.lst xs.dropLast) Q) :
    wpAny (model prog w) A (eval (.Slice none (some (.UnaryOp .USub (.Constant (.int 1) k p1) p2)) none p3) env) (fun i s₂ => wpAny (model prog w) A (subscriptTail value (.Slice none (some (.UnaryOp .USub (.Constant (.int 1) k p1) p2)) none p3) x i) Q E s₂) E s := by
  cases hx with
  | lst ha hnm hv =>
    rename_i l vs
    refine wpAny_Slice ?_
    rw [evalPart_none, evalPart_some]
    refine wpAny_pure (UnaryOp_ (Constant_int' (PyProof.Rows.neg_int ?_)))
    refine wpAny_pure ?_
    have e : slicePick vs.toArray none (some (-1)) none = vs.dropLast.toArray := by
      show slicePick vs.toArray none (some (-((1 : Nat) : Int))) none = _
      rw [slicePick_butLast vs.toArray 1 (Nat.le_refl _)]
      simp [List.dropLast_eq_take]
    refine slice_listK (s := { s with toks := s.toks + 1 + 1 }) (vl := .none) (vu := .int (-1) (s.toks + 1)) (lo := none) (hi := some (-1)) (items := vs.toArray) ha .none (.int _ _) ?_ rfl hn (by rw [List.size_toArray, hv.length]; exact hl)
    rw [e]
    have hz : (s.heap.push { cls := .type "slice", data := .fields #[.none, .int (-1) (s.toks + 1), .none] }).objs.size = s.heap.objs.size + 1 := Heap.size_push ..
    have k1 : Keep s.heap (s.heap.push { cls := .type "slice", data := .fields #[.none, .int (-1) (s.toks + 1), .none] }) := Keep.push _ _
    have := h (.ref (s.heap.objs.size + 1)) ((s.heap.push { cls := .type "slice", data := .fields #[.none, .int (-1) (s.toks + 1), .none] }).push { cls := .type "list", data := .seq vs.dropLast.toArray }) (s.toks + 1 + 1) (k1.trans (Keep.push _ _))
    refine this ?_
    rw [← hz]
    exact VR.newList (fresh_not (s := { s with heap := s.heap.push { cls := .type "slice", data := .fields #[.none, .int (-1) (s.toks + 1), .none] } }) (R.keep k1)) ((hv.keep k1).dropLast)

theorem evStep_ok (G : Gd prog w h₀ C.cls T mg mb) (rm : Rm (T.nd + 12) A) (hk : sc.kind = .function) (hev : EvSound prog w A C ρ L h₀ P sc nm a cd ev) (htv : TvSound prog w A C ρ L h₀ P sc nm a cd tv) (hst : ∀ x p, ev (.Starred x p) = none) :
    EvSound prog w A C ρ L h₀ P sc nm a cd (evStep T sc P ev tv) := by
  intro s e v c he hc R Q E h
  unfold evStep at he
  split at he
  · -- constants
    split at he <;> first | (cases he; done) | skip
    · cases he; exact Constant_none (h _ _ _ (Keep.refl _) .none)
    · cases he; exact Constant_bool (h _ _ _ (Keep.refl _) (.bool _))
    · cases he; exact wpAny_Constant_int (h _ _ _ (Keep.refl _) (.int _ _))
    · cases he; exact Constant_str (h _ _ _ (Keep.refl _) (.str _ _))
  · -- names
    split at he
    · rename_i hl
      split at he
      · rename_i v' hv
        cases he
        obtain ⟨m, F, hm⟩ := R.fr
        obtain ⟨u, hu, r⟩ := hm _ _ hv
        exact ld F hu (h _ _ _ (Keep.refl _) r) hk (isLoc_parts hl).1 (isLoc_parts hl).2
      · cases he
    · split at he
      · rename_i hg
        split at he
        · rename_i v' hv
          cases he
          obtain ⟨u, hu, r⟩ := G.gv _ _ hv
          exact name_global G hk R hg hu (h _ _ _ (Keep.refl _) (r _ _ _))
        · cases he
      · cases he
  · -- conditional expressions
    split at he
    · rename_i b ct x cx y cy h1 h2 h3
      cases he
      refine IfExp_ (htv s _ b ct h1 hc.1 R _ _ fun h' tk hkp => ?_)
      cases b with
      | true =>
        simp only [if_true] at h ⊢
        exact hev _ _ x cx h2 (hc.2.1 rfl) (R.keep hkp) _ _ fun u h'' tk' hk' r => h _ _ _ (hkp.trans hk') r
      | false =>
        simp only [Bool.false_eq_true, if_false] at h ⊢
        exact hev _ _ y cy h3 (hc.2.2 rfl) (R.keep hkp) _ _ fun u h'' tk' hk' r => h _ _ _ (hkp.trans hk') r
    · cases he
  · -- and
    split at he
    · split at he
      · rename_i x cx y cy h1 h2
        cases he
        refine BoolOp_and (hev s _ _ cx h1 hc.1 R _ _ fun u h' tk hkp r => ?_)
        cases r
        refine wpAny_truthy_bool ?_
        cases x with
        | true =>
          simp only [if_true]
          refine BoolOp_one (hev _ _ _ cy h2 hc.2 (R.keep hkp) _ _ fun u h'' tk' hk' r => h _ _ _ (hkp.trans hk') ?_)
          rw [Bool.true_and]; exact r
        | false =>
          simp only [Bool.false_eq_true, if_false]
          exact h _ _ _ hkp (.bool _)
      · cases he
    · cases he
  · -- comparisons
    split at he
    · split at he
      · rename_i b c' h1
        cases he
        obtain ⟨hb, hw⟩ := cmpE_ok (nm := nm) (a := a) (cd := cd) (E := E) (Q := Q) rm hev h1 hc R fun h' tk hkp => h _ _ _ hkp (.bool _)
        exact wpAny_Compare1 hw hb
      · cases he
    · cases he
  · -- binary operations
    split at he
    · rename_i x cx y cy h1 h2
      split at he
      · rename_i z cz h3
        cases he
        refine wpAny_BinOp (hev s _ x cx h1 hc.1 R _ _ fun u h' tk hkp r => ?_)
        refine hev _ _ y cy h2 hc.2.1 (R.keep hkp) _ _ fun u' h'' tk' hk' r' => ?_
        exact binP_ok h3 hc.2.2 (R.keep (hkp.trans hk')) (r.keep hk') r' fun u'' h3 tk3 hk3 r3 => h _ _ _ ((hkp.trans hk').trans hk3) r3
      · cases he
    · cases he
  · -- calls
    split at he
    · split at he
      · split at he
        · rename_i o nm' apos _ hl
          split at he
          · rename_i x cx h1
            split at he
            · rename_i z cz h2
              cases he
              rw [Bool.and_eq_true] at hl
              refine methodCall_ok hl.1 hl.2 rfl (hev s _ x cx h1 hc.1 R _ _ fun u h' tk hkp r => ?_)
              exact methP_ok h2 r fun u' h'' tk' hk' r' => h _ _ _ (hkp.trans hk') r'
            · cases he
          · cases he
        · cases he
      · cases he
    · split at he
      · rename_i hg
        split at he
        · rename_i vs cs h1
          split at he
          · rename_i z cz h2
            cases he
            exact call_ok G rm hk hev hst hg h1 h2 hc.1 hc.2 R h
          · cases he
        · cases he
      · cases he
    · cases he
  · -- attributes
    split at he
    · split at he
      · rename_i hg
        split at he
        · rename_i v' hv
          cases he
          obtain ⟨c', hc', hr⟩ := G.ga _ _ _ hv
          obtain ⟨m, F, _⟩ := R.fr
          exact Attribute_Name_ (name_global G hk R hg hc' (hr _ _ _ _ F.keep fun u tk r => h _ _ _ (Keep.refl _) (r _ _ _)))
        · cases he
      · cases he
    · cases he
  · -- subscripts
    split at he
    · split at he
      · split at he
        · rename_i xs cx h1
          cases he
          refine Subscript_ (hev s _ _ cx h1 hc.1 R _ _ fun u h' tk hkp r => ?_)
          exact slice_ok (R.keep hkp) r hc.2 (fun _ => rfl) fun u' h'' tk' hk' r' => h _ _ _ (hkp.trans hk') r'
        · cases he
      · cases he
    · rename_i hns
      split at he
      · rename_i x cx y cy h1 h2
        split at he
        · rename_i z cz h3
          cases he
          refine Subscript_ (hev s _ x cx h1 hc.1 R _ _ fun u h' tk hkp r => ?_)
          refine hev _ _ y cy h2 hc.2.1 (R.keep hkp) _ _ fun u' h'' tk' hk' r' => ?_
          refine idxP_ok G h3 hc.2.2 (R.keep (hkp.trans hk')) (r.keep hk') r' ?_ fun u'' h3 tk3 hk3 r3 => h _ _ _ ((hkp.trans hk').trans hk3) r3
          unfold notSlice
          split
          · exact absurd rfl (hns _ _ _ _)
          · rfl
        · cases he
      · cases he
  · -- list displays
    split at he
    · cases he
    · split at he
      · rename_i vs cs h1
        cases he
        refine List_ ((evs_ok hev hst _ s vs cs h1 hc.1 R).2 _ _ fun us h' tk hkp hv => ?_)
        exact VRs.new_list (R.keep hkp) hv hc.2 fun u h'' tk' hk' r => h _ _ _ (hkp.trans hk') r
      · cases he
  · -- tuple displays
    split at he
    · rename_i vs cs h1
      cases he
      refine Tuple_ ((evs_ok hev hst _ s vs cs h1 hc.1 R).2 _ _ fun us h' tk hkp hv => ?_)
      exact VRs.new_tup (R.keep hkp) hv hc.2 fun u h'' tk' hk' r => h _ _ _ (hkp.trans hk') r
    · cases he
  · cases he

theorem EV_ok (G : Gd prog w h₀ C.cls T mg mb) (rm : Rm (T.nd + 12) A) (hk : sc.kind = .function) : ∀ n, EvSound prog w A C ρ L h₀ P sc nm a cd (evP T sc n P) ∧ TvSound prog w A C ρ L h₀ P sc nm a cd (tvP T sc n P) ∧ ∀ x p, evP T sc n P (.Starred x p) = none
  | 0 => ⟨fun _ _ _ _ e => (nomatch e), fun _ _ _ _ e => (nomatch e), fun _ _ => rfl⟩
  | n + 1 => by
    obtain ⟨h1, h2, h3⟩ := EV_ok G rm hk n
    exact ⟨evStep_ok G rm hk h1 h2 h3, tvStep_ok rm h1 h2, fun _ _ => rfl⟩
theorem evP_ok (G : Gd prog w h₀ C.cls T mg mb) (rm : Rm (T.nd + 12) A) (hk : sc.kind = .function) (n : Nat) {e : Expr} {v : PV} {c : Prop} (he : evP T sc n P e = some (v, c)) (hc : c) (R : Rl h₀ C ρ L P s.heap) {Q : Value → Shared → Prop} {E : Value → Shared → Prop} (h : Out C ρ s v Q) :
    wpAny (model prog w) A (eval e (envOf nm sc L a cd)) Q E s := (EV_ok G rm hk n).1 s e v c he hc R Q E h
theorem tvP_ok (G : Gd prog w h₀ C.cls T mg mb) (rm : Rm (T.nd + 12) A) (hk : sc.kind = .function) (n : Nat) {e : Expr} {b : Bool} {c : Prop} (he : tvP T sc n P e = some (b, c)) (hc : c) (R : Rl h₀ C ρ L P s.heap) {Q : Bool → Shared → Prop} {E : Value → Shared → Prop} (h : ∀ h' tk, Keep s.heap h' → Q b { s with heap := h', toks := tk }) :
    wpAny (model prog w) A (isTrue e (envOf nm sc L a cd) (eval e (envOf nm sc L a cd))) Q E s := (EV_ok G rm hk n).2.1 s e b c he hc R Q E h
end
end Mine

end
section
open PySem PySem.W PyProof.Rows PySem.Calls
set_option maxRecDepth 100000
namespace Mine

noncomputable def setv (x : Str) (v : PV) : List (Str × PV) → List (Str × PV)
  | [] => [(x, v)]
  | p :: r => if p.1 = x then (x, v) :: r else p :: setv x v r
theorem lookup_setv (x y : Str) (v : PV) : ∀ l : List (Str × PV), (setv x v l).lookup y = if y = x then some v else l.lookup y
  | [] => by
    by_cases h : y = x
    · subst h; simp [setv, List.lookup]
    · have q : (y == x) = false := by simpa using h
      simp [setv, List.lookup, h, q]
  | (z, u) :: r => by
    unfold setv
    by_cases hz : z = x
    · subst hz
      by_cases h : y = z
      · subst h; simp [List.lookup]
      · have : (y == z) = false := by simpa using h
        simp [List.lookup, h, this]
    · rw [if_neg hz]
      by_cases hy : y = z
      · subst hy; simp [List.lookup, hz]
      · have : (y == z) = false := by simpa using hy
        simp only [List.lookup, this]
        exact lookup_setv x y v r
noncomputable def sets : List Str → List PV → List (Str × PV) → List (Str × PV)
  | x :: xs, v :: vs, l => sets xs vs (setv x v l)
  | _, _, l => l

section
variable {prog : Program} {w : World} {A : Around} {s : Shared} {C : Cx} {ρ : List Addr} {L : Addr} {h₀ h h' : Heap} {P : PS}

theorem step_sameBut {m : Str → Option Value} (F : Fr h₀ L h m) (hL : (h'.get? L).isSome = true) (hs : Heap.SameBut L h h') : Step C ρ ρ h h' := by
  refine ⟨⟨fun b o _ d e => ?_, fun _ m => .inl m, fun _ _ e => e⟩, fun b e => ?_⟩
  · by_cases q : b = L
    · subst q
      obtain ⟨o', es, ep, ho, hd, _⟩ := F.ns
      rw [e] at ho; cases ho
      obtain ⟨_, _, hd'⟩ := d; rw [hd] at hd'; cases hd'
    · exact (hs.2 b q).trans e
  · by_cases q : b = L
    · rw [q]; exact hL
    · rw [hs.2 b q]; exact e

theorem Mu.step_other {muts : List (List PV)} (R : Mu h₀ C ρ muts h) (S : Step C ρ ρ h h') (hk : ∀ a ∈ ρ, ∀ o, h.get? a = some o → h'.get? a = some o) : Mu h₀ C ρ muts h' := by
  obtain ⟨len, mu, nd, off, exd⟩ := R
  refine ⟨len, fun j xs e => ?_, nd, off, fun a m => S.dom a (exd a m)⟩
  obtain ⟨a, vs, b, ⟨n, c⟩, d⟩ := mu j xs e
  exact ⟨a, vs, b, ⟨n, hk a (List.mem_of_getElem? b) _ c⟩, d.step S⟩

theorem Rl.set {x : Str} {u : Value} {v : PV} {m : Str → Option Value} (R : Rl h₀ C ρ L P h) (F : Fr h₀ L h m) (hm : ∀ y z, P.vars.lookup y = some z → ∃ q, m y = some q ∧ VR C ρ h z q)
    (hn : h'.Ns L (fun y => if y = x then some u else m y)) (hs : Heap.SameBut L h h') (r : VR C ρ h v u) : Rl h₀ C ρ L ⟨setv x v P.vars, P.muts⟩ h' ∧ Step C ρ ρ h h' ∧ Pres (L :: ρ) h h' := by
  have S : Step C ρ ρ h h' := step_sameBut F (by obtain ⟨o, _, _, ho, _⟩ := hn; rw [ho]; rfl) hs
  refine ⟨⟨R.toMu.step_other S fun a ha o e => (hs.2 a fun q => R.nL (q ▸ ha)).trans e, ⟨_, F.set hn hs, fun y z e => ?_⟩, R.nL⟩, S, fun b o n e => (hs.2 b fun q => n (by rw [q]; exact .head _)).trans e⟩
  rw [lookup_setv] at e
  by_cases q : y = x
  · rw [if_pos q] at e; cases e
    exact ⟨u, by simp [q], r.step S⟩
  · rw [if_neg q] at e
    obtain ⟨z', a, b⟩ := hm y z e
    exact ⟨z', by simp [q, a], b.step S⟩

theorem store_ok {sc : Scope} {nm : Str} {a : Addr} {cd : Value} {M : Model} (hk : sc.kind = .function) {x : Str} (hx : isLoc sc x = true) {v : PV} {u : Value} (R : Rl h₀ C ρ L P s.heap) (r : VR C ρ s.heap v u) {Q : Unit → Shared → Prop} {E : Value → Shared → Prop}
    (hq : ∀ h' tk, Rl h₀ C ρ L ⟨setv x v P.vars, P.muts⟩ h' → Step C ρ ρ s.heap h' → Pres (L :: ρ) s.heap h' → Q () { s with heap := h', toks := tk }) :
    wpAny M A (storeName (envOf nm sc L a cd) x u) Q E s := by
  obtain ⟨m, F, hm⟩ := R.fr
  refine wpAny_storeName_local (env := envOf nm sc L a cd) (isLoc_parts hx).1 F.ns (fun h' hn hs => ?_) (by show (sc.kind == .class || (sc.kind == .module && L != mainGlobals)) = false; rw [hk]; rfl)
  obtain ⟨a1, a2, a3⟩ := R.set F hm hn hs r
  exact hq _ _ a1 a2 a3

/-- a list of stores: each is the store of a name -/
inductive StoresN (env : Env) : List (Value → Sem Unit) → List Str → Prop
  | nil : StoresN env [] []
  | cons {t : Value → Sem Unit} {x : Str} {ts : List (Value → Sem Unit)} {xs : List Str} (h : ∀ (M : Model) (A : Around) (Q : Unit → Shared → Prop) (E : Value → Shared → Prop) (s : Shared) (v : Value), wpAny M A (storeName env x v) Q E s → wpAny M A (t v) Q E s)
      (r : StoresN env ts xs) : StoresN env (t :: ts) (x :: xs)

theorem pres_trans {ρ' : List Addr} {h'' : Heap} (S : Step C ρ ρ' h h') (x : Pres (L :: ρ) h h') (y : Pres (L :: ρ') h' h'') : Pres (L :: ρ) h h'' := fun b o n e => by
  refine y b o (fun m => ?_) (x b o n e)
  rcases List.mem_cons.mp m with q | q
  · exact n (by rw [q]; exact .head _)
  · rcases S.new b q with q | q
    · exact n (.tail _ q)
    · rw [q] at e; cases e

theorem stores_ok {sc : Scope} {nm : Str} {a : Addr} {cd : Value} {M : Model} (hk : sc.kind = .function) {ts : List (Value → Sem Unit)} {xs : List Str} (H : StoresN (envOf nm sc L a cd) ts xs) : ∀ {vs : List PV} {us : List Value} {P : PS} {s : Shared} {Q : Unit → Shared → Prop} {E : Value → Shared → Prop},
    xs.all (isLoc sc) = true → vs.length = xs.length → Rl h₀ C ρ L P s.heap → VRs C ρ s.heap vs us →
    (∀ h' tk, Rl h₀ C ρ L ⟨sets xs vs P.vars, P.muts⟩ h' → Step C ρ ρ s.heap h' → Pres (L :: ρ) s.heap h' → Q () { s with heap := h', toks := tk }) → wpAny M A (assignInOrder ts us) Q E s := by
  induction H with
  | nil =>
    intro vs us P s Q E hx hl R hv hq
    cases vs with
    | cons => simp at hl
    | nil =>
      cases hv
      exact wpAny_pure (hq s.heap s.toks R (.of_keep (Keep.refl _)) (fun _ _ _ e => e))
  | cons ht _ ih =>
    intro vs us P s Q E hx hl R hv hq
    cases hv with
    | nil => simp at hl
    | cons h1 h2 =>
      rw [List.all_cons, Bool.and_eq_true] at hx
      refine wpAny_bind (wpAny_holding (ht _ _ _ _ _ _ (store_ok hk hx.1 R h1 fun h' tk R' S' Pr' => ?_)))
      refine ih hx.2 (by simpa using hl) R' (h2.step S') fun h'' tk' R'' S'' Pr'' => ?_
      exact hq _ _ R'' (S'.trans S'') (pres_trans S' Pr' Pr'')

noncomputable def tnames : List Expr → Option (List Str)
  | [] => some []
  | .Name x _ :: r => match tnames r with | some xs => some (x :: xs) | none => none
  | _ :: _ => none

theorem storesN_names {env : Env} : ∀ {ts : List Expr} {xs : List Str}, tnames ts = some xs → StoresN env ((assignEach ts env).map (·.2)) xs ∧ (assignEach ts env).length = xs.length ∧ (assignEach ts env).findIdx? (·.1) = none
  | [], xs, e => by cases e; exact ⟨.nil, rfl, rfl⟩
  | .Name x p :: r, xs, e => by
    simp only [tnames] at e
    cases q : tnames r with
    | none => rw [q] at e; cases e
    | some ys =>
      rw [q] at e; cases e
      obtain ⟨a, b, c⟩ := storesN_names (env := env) q
      refine ⟨.cons (fun M A Q E s v h => assign_Name h) a, ?_, ?_⟩
      · show (assignEach r env).length + 1 = _
        rw [b]; rfl
      · show List.findIdx? (·.1) ((false, assign (.Name x p) env) :: assignEach r env) = none
        rw [List.findIdx?_cons, c]; rfl
theorem storesN_binds {env : Env} : ∀ (xs : List Str), StoresN env (xs.map fun n => bindName env n) xs
  | [] => .nil
  | x :: r => .cons (fun _ _ _ _ _ _ h => bindName_ h) (storesN_binds r)
end
end Mine

end
section
open PySem PySem.W PyProof.Rows PySem.Calls
set_option maxRecDepth 100000
namespace Mine

noncomputable def bkOf (sc : Scope) : ScopeKind := if sc.kind.isAnnotationScope then .function else sc.kind
/-- what swappedStores answers, plainly; none: it stops -/
noncomputable def swP (sc : Scope) (ts : List Expr) (value : Expr) : Option (Option (List Str)) := match value with
  | .Tuple vs _ _ =>
    if !(ts.length == 2 || ts.length == 3) || vs.length != ts.length || bkOf sc != .function then some none
    else if vs.any fun | .Starred .. => true | _ => false then some none
    else
      if (ts.filterMap fun
        | .Name id pos => if sc.names.lookup id == some .local && pos.line == (ts.head?.map (·.pos.line)).getD 0 then some id else none
        | _ => none).length != ts.length || (ts.filterMap fun
        | .Name id pos => if sc.names.lookup id == some .local && pos.line == (ts.head?.map (·.pos.line)).getD 0 then some id else none
        | _ => none).eraseDups.length != (ts.filterMap fun
        | .Name id pos => if sc.names.lookup id == some .local && pos.line == (ts.head?.map (·.pos.line)).getD 0 then some id else none
        | _ => none).length then some none
      else if vs.all (foldedForSure 8) then some none
      else if vs.all (constantsAlone 8) then none
      else some (some (ts.filterMap fun
        | .Name id pos => if sc.names.lookup id == some .local && pos.line == (ts.head?.map (·.pos.line)).getD 0 then some id else none
        | _ => none))
  | _ => some none

theorem swP_ok {sc : Scope} {nm : Str} {L a : Addr} {cd : Value} {ts : List Expr} {k : Nat} {tp : Pos} {value : Expr} {r : Option (List Str)} (h : swP sc ts value = some r) :
    swappedStores [.Tuple ts k tp] value (envOf nm sc L a cd) = pure r := by
  unfold swP at h
  split at h
  · rename_i vs k' p'
    unfold swappedStores
    dsimp only
    have hb : (envOf nm sc L a cd).blockKind = bkOf sc := rfl
    rw [hb]
    split at h
    · rename_i q; cases h; exact if_pos q
    · rename_i q; refine (if_neg q).trans ?_
      split at h
      · rename_i q; cases h; exact if_pos q
      · rename_i q; refine (if_neg q).trans ?_
        split at h
        · rename_i q; cases h; exact if_pos q
        · rename_i q; refine (if_neg q).trans ?_
          split at h
          · rename_i q'; cases h; exact if_pos q'
          · rename_i q'; refine (if_neg q').trans ?_
            split at h
            · cases h
            · rename_i q''
              cases h
              exact if_neg q''
  · rename_i hne
    cases h
    unfold swappedStores
    cases value <;> first | rfl | exact absurd rfl (hne _ _ _)

noncomputable def noComp : Expr → Bool
  | .ListComp .. => false
  | .SetComp .. => false
  | .DictComp .. => false
  | _ => true
theorem swapsWith_no {e : Expr} (h : noComp e = true) (t : Option Expr) (l : Nat) (env : Env) : swapsWith e t l env = pure false := by
  cases e <;> first | rfl | (cases h; done)

/-- a value to be assigned: an empty display makes a mutable list -/
noncomputable def evMs (ev : PS → Expr → CV PV) : PS → List Expr → Option (List PV × PS × Prop)
  | P, [] => some ([], P, True)
  | P, e :: r => match e with
    | .List [] _ => match evMs ev ⟨P.vars, P.muts ++ [[]]⟩ r with
      | some (vs, P', c) => some (.ml P.muts.length :: vs, P', c)
      | none => none
    | e => match ev P e, evMs ev P r with
      | some (v, c), some (vs, P', d) => some (v :: vs, P', c ∧ d)
      | _, _ => none
noncomputable def hasNil : List Expr → Bool
  | [] => false
  | .List [] _ :: _ => true
  | _ :: r => hasNil r
noncomputable def evM (ev : PS → Expr → CV PV) (P : PS) (e : Expr) : Option (PV × PS × Prop) := match e with
  | .List [] _ => some (.ml P.muts.length, ⟨P.vars, P.muts ++ [[]]⟩, True)
  | .Tuple es k p => if hasNil es then (match evMs ev P es with
      | some (vs, P', c) => some (.tup vs, P', c ∧ vs.length ≤ sizeLine)
      | none => none)
    else (match ev P (.Tuple es k p) with | some (v, c) => some (v, P, c) | none => none)
  | e => match ev P e with
    | some (v, c) => some (v, P, c)
    | none => none

section
variable {prog : Program} {w : World} {A : Around} {s : Shared} {C : Cx} {ρ : List Addr} {L : Addr} {h₀ h h' : Heap} {P : PS}

theorem step_push {ρ' : List Addr} (R : Rl h₀ C ρ L P h) (o : Obj) : Step C ρ (ρ ++ [h.objs.size]) h (h.push o) := by
  refine ⟨⟨fun b o _ _ e => Heap.get?_push_of_some _ e, fun b m => ?_, fun k a e => ?_⟩, fun b e => ?_⟩
  · rcases List.mem_append.mp m with q | q
    · exact .inl q
    · right; rw [List.mem_singleton.mp q]; exact Heap.get?_none_of_le (Nat.le_refl _)
  · have hl : k < ρ.length := by
      rcases Nat.lt_or_ge k ρ.length with q | q
      · exact q
      · rw [List.getElem?_eq_none q] at e; cases e
    rw [List.getElem?_append_left hl]; exact e
  · obtain ⟨o', q⟩ := Option.isSome_iff_exists.mp e
    rw [Heap.get?_push_of_some _ q]; rfl

theorem Rl.newMut (R : Rl h₀ C ρ L P h) : Rl h₀ C (ρ ++ [h.objs.size]) L ⟨P.vars, P.muts ++ [[]]⟩ (h.push { cls := .type "list", data := .seq ([] : List Value).toArray }) ∧
    Step C ρ (ρ ++ [h.objs.size]) h (h.push { cls := .type "list", data := .seq ([] : List Value).toArray }) := by
  have S := step_push (ρ' := ρ) R { cls := .type "list", data := .seq ([] : List Value).toArray }
  refine ⟨?_, S⟩
  obtain ⟨⟨len, mu, nd, off, exd⟩, ⟨m, F, hm⟩, nL⟩ := id R
  have hf : h.objs.size ∉ ρ := (fresh_not (s := { heap := h }) R).1
  refine ⟨⟨?_, fun k xs e => ?_, ?_, fun a ha => ?_, fun a m => S.dom a (exd a m)⟩, ⟨m, F.push _, fun x v e => ?_⟩, fun m => ?_⟩
  · simp [len]
  · rcases Nat.lt_or_ge k P.muts.length with q | q
    · rw [List.getElem?_append_left q] at e
      obtain ⟨a, vs, b, ⟨n, c⟩, d⟩ := mu k xs e
      exact ⟨a, vs, S.pre _ _ b, ⟨n, Heap.get?_push_of_some _ c⟩, d.step S⟩
    · have hk : k = P.muts.length := by
        rcases Nat.lt_or_ge k (P.muts.length + 1) with q' | q'
        · omega
        · rw [List.getElem?_eq_none (by simpa using q')] at e; cases e
      subst hk
      rw [List.getElem?_append_right (Nat.le_refl _), Nat.sub_self] at e
      cases e
      exact ⟨h.objs.size, [], by rw [← len, List.getElem?_append_right (Nat.le_refl _), Nat.sub_self]; rfl, ⟨0, Heap.get?_push_size _ rfl⟩, .nil⟩
  · exact List.nodup_append.mpr ⟨nd, by simp, fun x hx y hy q => hf (by rw [List.mem_singleton] at hy; rw [← hy, ← q]; exact hx)⟩
  · rcases List.mem_append.mp ha with q | q
    · exact off a q
    · rw [List.mem_singleton.mp q]; exact F.fresh
  · obtain ⟨u, a, b⟩ := hm x v e
    exact ⟨u, a, b.step S⟩
  · rcases List.mem_append.mp m with q | q
    · exact nL q
    · exact absurd F.ns.lt (by rw [List.mem_singleton.mp q]; exact Nat.lt_irrefl _)

theorem new_ml {M : Model} {Q : Value → Shared → Prop} {E : Value → Shared → Prop} (R : Rl h₀ C ρ L P s.heap)
    (hq : ∀ u h' tk ρ', Rl h₀ C ρ' L ⟨P.vars, P.muts ++ [[]]⟩ h' → Step C ρ ρ' s.heap h' → Keep s.heap h' → VR C ρ' h' (.ml P.muts.length) u → Q u { s with heap := h', toks := tk }) : wpAny M A (newList []) Q E s := by
  obtain ⟨R', S⟩ := R.newMut
  refine wpAny_newList (hq _ _ s.toks _ R' S (Keep.push _ _) (.ml ?_)) (Nat.zero_le _)
  rw [← R.len, List.getElem?_append_right (Nat.le_refl _), Nat.sub_self]; rfl

noncomputable abbrev EvSoundP (prog : Program) (w : World) (A : Around) (C : Cx) (L : Addr) (h₀ : Heap) (sc : Scope) (nm : Str) (a : Addr) (cd : Value) (ev : PS → Expr → CV PV) : Prop :=
  ∀ (ρ : List Addr) (P : PS), EvSound prog w A C ρ L h₀ P sc nm a cd (ev P)
variable {sc : Scope} {nm : Str} {a : Addr} {cd : Value} {ev : PS → Expr → CV PV}

theorem evMs_ok (hev : EvSoundP prog w A C L h₀ sc nm a cd ev) (hst : ∀ P x p, ev P (.Starred x p) = none) {pos : Pos} : ∀ (es : List Expr) (ρ : List Addr) (P : PS) (s : Shared) (vs : List PV) (P' : PS) (c : Prop), evMs ev P es = some (vs, P', c) → c → Rl h₀ C ρ L P s.heap →
    ∀ (Q : List Value → Shared → Prop) (E : Value → Shared → Prop), (∀ us h' tk ρ', Rl h₀ C ρ' L P' h' → Step C ρ ρ' s.heap h' → Keep s.heap h' → VRs C ρ' h' vs us → Q us { s with heap := h', toks := tk }) →
    wpAny (model prog w) A (spliced (backTo pos (starEach es (envOf nm sc L a cd)))) Q E s
  | [], ρ, P, s, vs, P', c, e, hc, R, Q, E, h => by
    cases e
    exact Calls.spliced_nil (h _ _ _ _ R (.of_keep (Keep.refl _)) (Keep.refl _) .nil)
  | x :: r, ρ, P, s, vs, P', c, e, hc, R, Q, E, h => by
    unfold evMs at e
    split at e
    · rename_i p0
      split at e
      · rename_i vs' P1 c' h1
        cases e
        rw [starEach_cons (e := .List [] p0) (fun _ _ q => nomatch q)]
        refine Calls.spliced_cons (List_ (Calls.spliced_nil (new_ml R fun u h' tk ρ1 R1 S1 K1 V1 => ?_)))
        refine evMs_ok hev hst r ρ1 _ { s with heap := h', toks := tk } vs' P' c h1 hc R1 _ _ fun us h'' tk' ρ2 R2 S2 K2 V2 => ?_
        exact h _ _ _ _ R2 (S1.trans S2) (K1.trans K2) (.cons (V1.step S2) V2)
      · cases e
    · split at e
      · rename_i v cv vs' P1 c' h1 h2
        cases e
        have hx : ∀ y p, x ≠ .Starred y p := fun y p q => by subst q; rw [hst] at h1; cases h1
        rw [starEach_cons hx]
        refine Calls.spliced_cons (hev ρ P s x v cv h1 hc.1 R _ _ fun u h' tk hk hr => ?_)
        refine evMs_ok hev hst r ρ P { s with heap := h', toks := tk } vs' P' c' h2 hc.2 (R.keep hk) _ _ fun us h'' tk' ρ2 R2 S2 K2 V2 => ?_
        exact h _ _ _ _ R2 ((Step.of_keep hk).trans S2) (hk.trans K2) (.cons (hr.step S2) V2)
      · cases e

theorem evM_ok (hev : EvSoundP prog w A C L h₀ sc nm a cd ev) (hst : ∀ P x p, ev P (.Starred x p) = none) {e : Expr} {v : PV} {P' : PS} {c : Prop} (he : evM ev P e = some (v, P', c)) (hc : c) (R : Rl h₀ C ρ L P s.heap) {Q : Value → Shared → Prop} {E : Value → Shared → Prop}
    (h : ∀ u h' tk ρ', Rl h₀ C ρ' L P' h' → Step C ρ ρ' s.heap h' → Keep s.heap h' → VR C ρ' h' v u → Q u { s with heap := h', toks := tk }) : wpAny (model prog w) A (eval e (envOf nm sc L a cd)) Q E s := by
  unfold evM at he
  split at he
  · cases he
    exact List_ (Calls.spliced_nil (new_ml R h))
  · split at he
    · split at he
      · rename_i vs P1 c1 h1
        cases he
        refine Tuple_ (evMs_ok hev hst _ ρ P s vs P' c1 h1 hc.1 R _ _ fun us h' tk ρ' R1 S1 K1 V1 => ?_)
        refine wpAny_newTuple ?_ (by rw [V1.length]; exact hc.2)
        exact h _ _ _ ρ' (R1.keep (Keep.push _ _)) (S1.trans (.of_keep (Keep.push _ _))) (K1.trans (Keep.push _ _)) (VR.newTup (fresh_not (s := { s with heap := h', toks := tk }) R1) V1)
      · cases he
    · split at he
      · rename_i v1 c1 h1
        cases he
        exact hev ρ P s _ v c h1 hc R _ _ fun u h' tk hk r => h _ _ _ ρ (R.keep hk) (.of_keep hk) hk r
      · cases he
  · split at he
    · rename_i v1 c1 h1
      cases he
      exact hev ρ P s _ v c h1 hc R _ _ fun u h' tk hk r => h _ _ _ ρ (R.keep hk) (.of_keep hk) hk r
    · cases he
end
end Mine

end
section
open PySem PySem.W PyProof.Rows PySem.Calls
set_option maxRecDepth 100000
namespace Mine

inductive Fl where
  | next
  | cont
  | ret (v : PV)
inductive FlR (C : Cx) (ρ : List Addr) (h : Heap) : Fl → Flow → Prop
  | next : FlR C ρ h .next .next
  | cont : FlR C ρ h .cont .cont
  | ret {v : PV} {u : Value} (r : VR C ρ h v u) : FlR C ρ h (.ret v) (.ret u)

noncomputable abbrev XV := Option (PS × Fl × Prop)

noncomputable def exsStep (ex : PS → Stmt → XV) : PS → List Stmt → XV
  | P, [] => some (P, .next, True)
  | P, st :: r => match ex P st with
    | some (P', .next, c) => match exsStep ex P' r with
      | some (P'', f, d) => some (P'', f, c ∧ d)
      | none => none
    | some (P', f, c) => some (P', f, c)
    | none => none

noncomputable def exStep (sc : Scope) (ev : PS → Expr → CV PV) (tv : PS → Expr → CV Bool) (exs : PS → List Stmt → XV) (P : PS) (st : Stmt) : XV := match st with
  | .Assign ts e _ => match ts with
    | [.Name x _] => if isLoc sc x && noComp e then (match evM ev P e with
        | some (v, P', c) => some (⟨setv x v P'.vars, P'.muts⟩, .next, c)
        | none => none) else none
    | [.Tuple es _ _] => match tnames es with
      | some xs => if xs.all (isLoc sc) && noComp e then (match swP sc es e with
        | none => none
        | some sw => match evM ev P e with
          | some (.tup vs, P', c) => if vs.length = xs.length then (match sw with
              | none => some (⟨sets xs vs P'.vars, P'.muts⟩, .next, c)
              | some ys => if ys = xs then some (⟨sets xs.reverse vs.reverse P'.vars, P'.muts⟩, .next, c) else none) else none
          | _ => none) else none
      | none => none
    | _ => none
  | .Expr e _ => match e with
    | .Call (.Attribute (.Name x _) m apos) args [] cpos => if isLoc sc x && (apos.endLine == cpos.line) then (
        if m = "append" then (match args with
          | [e] => match P.vars.lookup x, ev P e with
            | some (.ml k), some (v, c) => (match P.muts[k]? with
              | some xs => some (⟨P.vars, P.muts.set k (xs ++ [v])⟩, .next, c ∧ xs.length ≤ sizeLine)
              | none => none)
            | _, _ => none
          | _ => none)
        else if m = "pop" then (match args with
          | [] => match P.vars.lookup x with
            | some (.ml k) => (match P.muts[k]? with
              | some xs => some (⟨P.vars, P.muts.set k xs.dropLast⟩, .next, xs ≠ [] ∧ xs.length ≤ sizeLine)
              | none => none)
            | _ => none
          | _ => none)
        else none) else none
    | _ => none
  | .If t b o _ => match tv P t with
    | some (true, c) => (match exs P b with | some (P', f, d) => some (P', f, c ∧ d) | none => none)
    | some (false, c) => (match exs P o with | some (P', f, d) => some (P', f, c ∧ d) | none => none)
    | none => none
  | .Return (some e) _ => match ev P e with
    | some (v, c) => some (P, .ret v, c)
    | none => none
  | .Continue _ => some (P, .cont, True)
  | _ => none

section
variable {prog : Program} {w : World} {A : Around} {s : Shared} {C : Cx} {ρ : List Addr} {L : Addr} {h₀ h h' : Heap} {P : PS}

theorem Rl.upd {k : Nat} {a : Addr} {xs : List PV} {vs : List Value} (R : Rl h₀ C ρ L P h) (ha : ρ[k]? = some a) (hl : h'.PlainList a vs.toArray) (hs : Heap.SameBut a h h') (hv : VRs C ρ h xs vs) :
    Rl h₀ C ρ L ⟨P.vars, P.muts.set k xs⟩ h' ∧ Step C ρ ρ h h' ∧ Pres (L :: ρ) h h' := by
  have hm : a ∈ ρ := List.mem_of_getElem? ha
  have S : Step C ρ ρ h h' := by
    refine ⟨⟨fun b o n _ e => (hs.2 b fun q => n.1 (q ▸ hm)).trans e, fun _ m => .inl m, fun _ _ e => e⟩, fun b e => ?_⟩
    by_cases q : b = a
    · obtain ⟨n, c⟩ := hl
      rw [q, c]; rfl
    · rw [hs.2 b q]; exact e
  obtain ⟨⟨len, mu, nd, off, exd⟩, ⟨m, F, hvr⟩, nL⟩ := id R
  refine ⟨⟨⟨by rw [List.length_set]; exact len, fun j ys e => ?_, nd, off, fun a m => S.dom a (exd a m)⟩, ⟨m, ⟨?_, fun b o e => ?_, F.above⟩, fun x v e => ?_⟩, nL⟩, S, fun b o n e => ?_⟩
  · by_cases q : k = j
    · subst q
      rw [List.getElem?_set] at e
      simp only [if_true] at e
      split at e
      · cases e; exact ⟨a, vs, ha, hl, hv.step S⟩
      · cases e
    · rw [List.getElem?_set_ne q] at e
      obtain ⟨b, us, hb, ⟨n, c⟩, d⟩ := mu j ys e
      refine ⟨b, us, hb, ⟨n, (hs.2 b fun z => ?_).trans c⟩, d.step S⟩
      subst z
      have h1 : k < ρ.length := by
        rcases Nat.lt_or_ge k ρ.length with q | q
        · exact q
        · rw [List.getElem?_eq_none q] at ha; cases ha
      exact q ((List.getElem?_inj h1 nd).mp (ha.trans hb.symm))
  · exact F.ns.sameBut hs fun q => nL (q ▸ hm)
  · exact (hs.2 b fun q => by rw [← q] at hm; rw [off b hm] at e; cases e).trans (F.keep b o e)
  · obtain ⟨u, c, d⟩ := hvr x v e
    exact ⟨u, c, d.step S⟩
  · exact (hs.2 b fun q => n (by rw [q]; exact .tail _ hm)).trans e

noncomputable abbrev SOut (C : Cx) (ρ : List Addr) (L : Addr) (h₀ : Heap) (s : Shared) (P' : PS) (f : Fl) (Q : Flow → Shared → Prop) : Prop :=
  ∀ fl h' tk ρ', Rl h₀ C ρ' L P' h' → Step C ρ ρ' s.heap h' → Pres (L :: ρ) s.heap h' → FlR C ρ' h' f fl → Q fl { s with heap := h', toks := tk }

variable {sc : Scope} {nm : Str} {a : Addr} {cd : Value} {ev : PS → Expr → CV PV} {tv : PS → Expr → CV Bool}
noncomputable abbrev TvSoundP (prog : Program) (w : World) (A : Around) (C : Cx) (L : Addr) (h₀ : Heap) (sc : Scope) (nm : Str) (a : Addr) (cd : Value) (tv : PS → Expr → CV Bool) : Prop :=
  ∀ (ρ : List Addr) (P : PS), TvSound prog w A C ρ L h₀ P sc nm a cd (tv P)
noncomputable abbrev ExSound (prog : Program) (w : World) (A : Around) (C : Cx) (L : Addr) (h₀ : Heap) (sc : Scope) (nm : Str) (a : Addr) (cd : Value) (ex : PS → Stmt → XV) : Prop :=
  ∀ (ρ : List Addr) (P : PS) (s : Shared) (st : Stmt) (P' : PS) (f : Fl) (c : Prop), ex P st = some (P', f, c) → c → Rl h₀ C ρ L P s.heap → ∀ (Q : Flow → Shared → Prop) (E : Value → Shared → Prop), SOut C ρ L h₀ s P' f Q → wpAny (model prog w) A (exec st (envOf nm sc L a cd)) Q E s
noncomputable abbrev ExsSound (prog : Program) (w : World) (A : Around) (C : Cx) (L : Addr) (h₀ : Heap) (sc : Scope) (nm : Str) (a : Addr) (cd : Value) (exs : PS → List Stmt → XV) : Prop :=
  ∀ (ρ : List Addr) (P : PS) (s : Shared) (st : List Stmt) (P' : PS) (f : Fl) (c : Prop), exs P st = some (P', f, c) → c → Rl h₀ C ρ L P s.heap → ∀ (Q : Flow → Shared → Prop) (E : Value → Shared → Prop), SOut C ρ L h₀ s P' f Q → wpAny (model prog w) A (execs st (envOf nm sc L a cd)) Q E s

theorem exsStep_ok {ex : PS → Stmt → XV} (hex : ExSound prog w A C L h₀ sc nm a cd ex) : ExsSound prog w A C L h₀ sc nm a cd (exsStep ex) := by
  intro ρ P s sts
  induction sts generalizing ρ P s with
  | nil =>
    intro P' f c e hc R Q E h
    cases e
    exact wpAny_execs_nil (h _ s.heap s.toks ρ R (.of_keep (Keep.refl _)) (fun _ _ _ e => e) .next)
  | cons st r ih =>
    intro P' f c e hc R Q E h
    unfold exsStep at e
    split at e
    · rename_i P1 c1 h1
      split at e
      · rename_i P2 f2 c2 h2
        cases e
        refine wpAny_execs_cons (hex ρ P s st P1 .next c1 h1 hc.1 R _ _ fun fl h' tk ρ1 R1 S1 Pr1 F1 => ?_)
        cases F1
        exact ih ρ1 P1 { s with heap := h', toks := tk } _ _ _ h2 hc.2 R1 _ _ fun fl h'' tk' ρ2 R2 S2 Pr2 F2 => h _ _ _ _ R2 (S1.trans S2) (pres_trans S1 Pr1 Pr2) F2
      · cases e
    · rename_i P1 f1 c1 hne h1
      cases e
      refine wpAny_execs_cons (hex ρ P s st P' f c h1 hc R _ _ fun fl h' tk ρ1 R1 S1 Pr1 F1 => ?_)
      cases F1 with
      | next => first | exact (hne _ _ rfl).elim | exact (hne rfl).elim | exact absurd rfl (hne _)
      | cont => exact h _ _ _ _ R1 S1 Pr1 .cont
      | ret r => exact h _ _ _ _ R1 S1 Pr1 (.ret r)
    · cases e

theorem swapsSole_no {e : Expr} (h : noComp e = true) (t : Expr) (l : Nat) (env : Env) : swapsWithSole [t] e l env = pure false := by
  show swapsWith e (some t) l env = pure false
  exact swapsWith_no h _ _ _
theorem pres_keep {W : List Addr} (k : Keep h h') : Pres W h h' := fun b o _ e => k b o e

theorem sizes_pop {vs : List Value} (hne : vs ≠ []) : ∃ y, vs.toArray[vs.toArray.size - 1]? = some y ∧ vs.toArray.eraseIdxIfInBounds (vs.toArray.size - 1) = vs.dropLast.toArray := by
  obtain ⟨p, y, rfl⟩ : ∃ p y, vs = p ++ [y] := ⟨vs.dropLast, vs.getLast hne, (List.dropLast_concat_getLast hne).symm⟩
  have hk : (p ++ [y]).toArray.size - 1 = p.length := by rw [List.size_toArray, List.length_append]; rfl
  refine ⟨y, by rw [hk]; simp, ?_⟩
  rw [hk]
  have := kl_erase p [] y
  rw [List.append_nil] at this
  rw [this]; simp

theorem exStep_ok (hk : sc.kind = .function) (hev : EvSoundP prog w A C L h₀ sc nm a cd ev) (hst : ∀ P x p, ev P (.Starred x p) = none) (htv : TvSoundP prog w A C L h₀ sc nm a cd tv) (hh : A.handled = none) {exs : PS → List Stmt → XV} (hexs : ExsSound prog w A C L h₀ sc nm a cd exs) :
    ExSound prog w A C L h₀ sc nm a cd (exStep sc ev tv exs) := by
  intro ρ P s st P' f c e hc R Q E h
  unfold exStep at e
  split at e
  · -- assignments
    split at e
    · split at e
      · rename_i hx
        rw [Bool.and_eq_true] at hx
        split at e
        · rename_i v P1 c1 h1
          cases e
          refine wpAny_Assign_Name ?_ (swapsWith_no hx.2 _ _ _)
          refine evM_ok hev hst h1 hc R fun u h' tk ρ1 R1 S1 K1 V1 => ?_
          refine store_ok hk hx.1 R1 V1 fun h'' tk' R2 S2 Pr2 => ?_
          exact h _ _ _ _ R2 (S1.trans S2) (pres_trans S1 (pres_keep K1) Pr2) .next
        · cases e
      · cases e
    · rename_i es k tp
      split at e
      · rename_i xs hn
        split at e
        · rename_i hx
          rw [Bool.and_eq_true] at hx
          split at e
          · cases e
          · rename_i sw hsw
            split at e
            · rename_i vs P1 c1 h1
              split at e
              · rename_i hlen
                obtain ⟨st1, st2, st3⟩ := storesN_names (env := envOf nm sc L a cd) hn
                split at e
                · cases e
                  refine Assign_Tuple ?_ (swapsSole_no hx.2 _ _ _) (swP_ok hsw)
                  refine evM_ok hev hst h1 hc R fun u h' tk ρ1 R1 S1 K1 V1 => ?_
                  cases V1 with
                  | tup ha hnm hv =>
                    rename_i ta us
                    refine assign_Tuple_tuple hh (items := us.toArray) ⟨_, ha, rfl, 0, rfl⟩ (by rw [st2, List.size_toArray, hv.length, hlen]) st3 fun h'' he => ?_
                    have K2 : Keep h' h'' := keep_extBut he
                    refine stores_ok hk st1 hx.1 hlen (R1.keep K2) (hv.keep K2) fun h3 tk3 R3 S3 Pr3 => ?_
                    exact h _ _ _ _ R3 ((S1.trans (.of_keep K2)).trans S3) (pres_trans S1 (pres_keep K1) (pres_trans (C := C) (Step.of_keep (C := C) K2) (pres_keep K2) Pr3)) .next
                · split at e
                  · rename_i ys hys
                    cases e
                    subst hys
                    refine Assign_Tuple_swapped ?_ (swapsSole_no hx.2 _ _ _) (swP_ok hsw)
                    refine evM_ok hev hst h1 hc R fun u h' tk ρ1 R1 S1 K1 V1 => ?_
                    cases V1 with
                    | tup ha hnm hv =>
                      rename_i ta us
                      have hul : ys.length = us.toArray.size := by rw [List.size_toArray, hv.length, hlen]
                      rw [hul]
                      refine unpackItems_tuple hh (items := us.toArray) ⟨_, ha, rfl, 0, rfl⟩ fun h'' he => ?_
                      have K2 : Keep h' h'' := keep_extBut he
                      have hrev : ∀ {xs : List PV} {vs : List Value}, VRs C ρ1 h'' xs vs → VRs C ρ1 h'' xs.reverse vs.reverse := by
                        intro xs vs q
                        induction xs generalizing vs with
                        | nil => cases q; exact .nil
                        | cons x xs ih =>
                          cases q with
                          | cons a b => rw [List.reverse_cons, List.reverse_cons]; exact (ih b).append (.cons a .nil)
                      refine stores_ok hk (storesN_binds ys.reverse) (by rw [List.all_reverse]; exact hx.1) (by rw [List.length_reverse, List.length_reverse]; exact hlen) (R1.keep K2) (hrev (hv.keep K2)) fun h3 tk3 R3 S3 Pr3 => ?_
                      exact h _ _ _ _ R3 ((S1.trans (.of_keep K2)).trans S3) (pres_trans S1 (pres_keep K1) (pres_trans (C := C) (Step.of_keep (C := C) K2) (pres_keep K2) Pr3)) .next
                  · cases e
              · cases e
            · cases e
        · cases e
      · cases e
    · cases e
  · -- expressions
    have hint : interactive (envOf nm sc L a cd) = false := by
      unfold interactive
      show (sc.kind == .module && _) = false
      rw [hk]; rfl
    split at e
    · rename_i x xp m apos args cpos
      split at e
      · rename_i hx
        rw [Bool.and_eq_true] at hx
        obtain ⟨mm, F, hm⟩ := id R.fr
        split at e
        · rename_i hmn
          subst hmn
          split at e
          · rename_i ea
            split at e
            · rename_i k v c1 hl h1
              split at e
              · rename_i xs hxs
                cases e
                have hns : ∀ y p, ea ≠ .Starred y p := fun y p q => by subst q; rw [hst] at h1; cases h1
                obtain ⟨q, hq, r⟩ := hm _ _ hl
                cases r with
                | ml hr =>
                  rename_i la
                  obtain ⟨la', vs, b, hpl, hv⟩ := R.mu _ xs hxs
                  rw [hr] at b; cases b
                  refine wpAny_Expr_any ?_ hint rfl
                  refine methodCall_ok rfl hx.2 (by rw [starEach_cons hns]; rfl) ?_
                  refine ld F hq ?_ hk (isLoc_parts hx.1).1 (isLoc_parts hx.1).2
                  refine getMethod_list_of slot_list_append PySem.type_list_append hpl.isList (by obtain ⟨n, q⟩ := hpl; exact ⟨_, q, rfl⟩) ?_
                  refine callWith_method1 ?_ (starEach_cons hns) rfl
                  rw [starEach_cons hns]
                  refine Calls.spliced_cons (hev ρ P s ea v c1 h1 hc.1 R _ _ fun u h' tk hkp ru => Calls.spliced_nil ?_)
                  have hpl' : h'.PlainList la vs.toArray := by obtain ⟨n, q⟩ := hpl; exact ⟨n, hkp _ _ q⟩
                  refine wpAny_list_append_plain hpl' (fun h'' hl'' hs'' => ?_) (by rw [List.size_toArray, hv.length]; exact hc.2)
                  rw [show vs.toArray.push u = (vs ++ [u]).toArray by simp] at hl''
                  obtain ⟨a1, a2, a3⟩ := (R.keep hkp).upd hr hl'' hs'' ((hv.keep hkp).append (.cons ru .nil))
                  exact h _ _ _ _ a1 ((Step.of_keep hkp).trans a2) (pres_trans (C := C) (Step.of_keep hkp) (pres_keep hkp) a3) .next
              · cases e
            · cases e
          · cases e
        · split at e
          · rename_i hmn
            subst hmn
            split at e
            · split at e
              · rename_i k hl
                split at e
                · rename_i xs hxs
                  cases e
                  obtain ⟨q, hq, r⟩ := hm _ _ hl
                  cases r with
                  | ml hr =>
                    rename_i la
                    obtain ⟨la', vs, b, hpl, hv⟩ := R.mu _ xs hxs
                    rw [hr] at b; cases b
                    have hvn : vs ≠ [] := fun q => by subst q; have q2 := hv.length; exact hc.1 (List.eq_nil_of_length_eq_zero q2.symm)
                    obtain ⟨y, hy, hpop⟩ := sizes_pop hvn
                    refine wpAny_Expr_any ?_ hint rfl
                    refine methodCall_ok rfl hx.2 rfl ?_
                    refine ld F hq ?_ hk (isLoc_parts hx.1).1 (isLoc_parts hx.1).2
                    refine getMethod_list_of PySem.F.slot_list_pop PySem.F.type_list_pop hpl.isList (by obtain ⟨n, q⟩ := hpl; exact ⟨_, q, rfl⟩) ?_
                    obtain ⟨n, hn⟩ := hpl
                    refine PySem.P.pop_list (n := n) hn hy ?_ (by rw [List.size_toArray, hv.length]; exact hc.2)
                    have hs : Heap.SameBut la s.heap (s.heap.update la (Obj.mapSeq fun xs => xs.eraseIdxIfInBounds (vs.toArray.size - 1))) := Heap.SameBut.update ..
                    have hl2 : (s.heap.update la (Obj.mapSeq fun xs => xs.eraseIdxIfInBounds (vs.toArray.size - 1))).PlainList la vs.dropLast.toArray := by
                      have q2 := PySem.IsL.update (h := s.heap) (l := la) (items := vs.toArray) (n := n) hn (fun xs => xs.eraseIdxIfInBounds (vs.toArray.size - 1))
                      exact ⟨if (vs.toArray.eraseIdxIfInBounds (vs.toArray.size - 1)).size == vs.toArray.size then n else n + 1, by rw [← hpop]; exact q2⟩
                    obtain ⟨a1, a2, a3⟩ := R.upd hr hl2 hs hv.dropLast
                    exact h _ _ s.toks _ a1 a2 a3 .next
                · cases e
              · cases e
            · cases e
          · cases e
      · cases e
    · cases e
  · -- if
    rename_i t b o p
    split at e
    · rename_i c1 h1
      split at e
      · rename_i P1 f1 d1 h2
        cases e
        refine wpAny_If (htv ρ P s t true c1 h1 hc.1 R _ _ fun h' tk hkp => ?_)
        simp only [if_true]
        exact hexs ρ P { s with heap := h', toks := tk } b _ _ _ h2 hc.2 (R.keep hkp) _ _ fun fl h'' tk' ρ2 R2 S2 Pr2 F2 => h _ _ _ _ R2 ((Step.of_keep hkp).trans S2) (pres_trans (C := C) (Step.of_keep hkp) (pres_keep hkp) Pr2) F2
      · cases e
    · rename_i c1 h1
      split at e
      · rename_i P1 f1 d1 h2
        cases e
        refine wpAny_If (htv ρ P s t false c1 h1 hc.1 R _ _ fun h' tk hkp => ?_)
        simp only [Bool.false_eq_true, if_false]
        exact hexs ρ P { s with heap := h', toks := tk } o _ _ _ h2 hc.2 (R.keep hkp) _ _ fun fl h'' tk' ρ2 R2 S2 Pr2 F2 => h _ _ _ _ R2 ((Step.of_keep hkp).trans S2) (pres_trans (C := C) (Step.of_keep hkp) (pres_keep hkp) Pr2) F2
      · cases e
    · cases e
  · -- return
    split at e
    · rename_i v c1 h1
      cases e
      exact wpAny_Return_some (hev ρ P s _ v c h1 hc R _ _ fun u h' tk hkp r => h _ _ _ _ (R.keep hkp) (.of_keep hkp) (pres_keep hkp) (.ret r))
    · cases e
  · cases e
    exact wpAny_Continue (h _ s.heap s.toks _ R (.of_keep (Keep.refl _)) (fun _ _ _ e => e) .cont)
  · cases e

noncomputable def EX (T : Tb) (sc : Scope) (k : Nat) : Nat → PS → Stmt → XV
  | 0 => fun _ _ => none
  | n + 1 => exStep sc (evP T sc k) (tvP T sc k) (exsStep (EX T sc k n))
noncomputable abbrev exsP (T : Tb) (sc : Scope) (k n : Nat) (P : PS) (sts : List Stmt) : XV := exsStep (EX T sc k n) P sts

theorem EX_ok {T : Tb} {mg mb : Str → Option Value} (G : Gd prog w h₀ C.cls T mg mb) (rm : Rm (T.nd + 12) A) (hk : sc.kind = .function) (k : Nat) : ∀ n, ExSound prog w A C L h₀ sc nm a cd (EX T sc k n)
  | 0 => fun _ _ _ _ _ _ _ e => nomatch e
  | n + 1 => exStep_ok hk (fun _ _ => (EV_ok G rm hk k).1) (fun P x p => (EV_ok (prog := prog) (w := w) (A := A) (C := C) (ρ := ([] : List Addr)) (L := L) (h₀ := h₀) (P := P) (nm := nm) (a := a) (cd := cd) G rm hk k).2.2 x p) (fun _ _ => (EV_ok G rm hk k).2.1) rm.hh (exsStep_ok (EX_ok G rm hk k n))
theorem exsP_ok {T : Tb} {mg mb : Str → Option Value} (G : Gd prog w h₀ C.cls T mg mb) (rm : Rm (T.nd + 12) A) (hk : sc.kind = .function) (k n : Nat) {sts : List Stmt} {P' : PS} {f : Fl} {c : Prop} (e : exsP T sc k n P sts = some (P', f, c)) (hc : c) (R : Rl h₀ C ρ L P s.heap)
    {Q : Flow → Shared → Prop} {E : Value → Shared → Prop} (h : SOut C ρ L h₀ s P' f Q) : wpAny (model prog w) A (execs sts (envOf nm sc L a cd)) Q E s := exsStep_ok (EX_ok G rm hk k n) ρ P s sts P' f c e hc R Q E h
end
end Mine

end
section
open PySem PySem.W PyProof.Rows PySem.Calls
set_option maxRecDepth 100000
namespace Mine

/-- a loop's target takes a value -/
noncomputable def asgP (sc : Scope) (target : Expr) (x : PV) (P : PS) : Option PS := match target with
  | .Name n _ => if isLoc sc n then some ⟨setv n x P.vars, P.muts⟩ else none
  | .Tuple es _ _ => match tnames es with
    | some xs => if xs.all (isLoc sc) then (match x with
      | .tup vs => if vs.length = xs.length then some ⟨sets xs vs P.vars, P.muts⟩ else none
      | .tok vs => if vs.length = xs.length then some ⟨sets xs vs P.vars, P.muts⟩ else none
      | _ => none) else none
    | none => none
  | _ => none

section
variable {prog : Program} {w : World} {A : Around} {s : Shared} {C : Cx} {ρ : List Addr} {L : Addr} {h₀ h h' : Heap} {P : PS}
variable {sc : Scope} {nm : Str} {a : Addr} {cd : Value} {T : Tb} {mg mb : Str → Option Value}

theorem asgP_ok (G : Gd prog w h₀ C.cls T mg mb) (hh : A.handled = none) (hk : sc.kind = .function) {target : Expr} {x : PV} {u : Value} {P' : PS} (e : asgP sc target x P = some P') (R : Rl h₀ C ρ L P s.heap) (r : VR C ρ s.heap x u) {Q : Unit → Shared → Prop} {E : Value → Shared → Prop}
    (h : ∀ h' tk, Rl h₀ C ρ L P' h' → Step C ρ ρ s.heap h' → Pres (L :: ρ) s.heap h' → Q () { s with heap := h', toks := tk }) : wpAny (model prog w) A (assign target (envOf nm sc L a cd) u) Q E s := by
  unfold asgP at e
  split at e
  · split at e
    · rename_i hx
      cases e
      exact assign_Name (store_ok hk hx R r h)
    · cases e
  · split at e
    · rename_i xs hn
      split at e
      · rename_i hx
        obtain ⟨st1, st2, st3⟩ := storesN_names (env := envOf nm sc L a cd) hn
        split at e
        · split at e
          · rename_i vs hlen
            cases e
            cases r with
            | tup ha hnm hv =>
              rename_i ta us
              refine assign_Tuple_tuple hh (items := us.toArray) ⟨_, ha, rfl, 0, rfl⟩ (by rw [st2, List.size_toArray, hv.length, hlen]) st3 fun h'' he => ?_
              have K2 : Keep s.heap h'' := keep_extBut he
              exact stores_ok hk st1 hx hlen (R.keep K2) (hv.keep K2) fun h3 tk3 R3 S3 Pr3 => h _ _ R3 ((Step.of_keep (C := C) K2).trans S3) (pres_trans (C := C) (Step.of_keep (C := C) K2) (pres_keep K2) Pr3)
          · cases e
        · split at e
          · rename_i vs hlen
            cases e
            cases r with
            | tok ha hnm hv =>
              rename_i ta td us
              obtain ⟨m, F, _⟩ := id R.fr
              show wpAny _ _ (do standAt _; unpack (.ref ta) (assignEach _ (envOf nm sc L a cd))) Q E s
              refine wpAny_bind (wpAny_standAt ?_)
              unfold unpack
              rw [st2, st3]
              refine wpAny_bind (wpAny_holding (G.tu A s ta _ us xs.length _ _ hh F.keep ha (by rw [hv.length, hlen]) fun h'' tk K2 => ?_))
              exact stores_ok (s := { s with heap := h'', toks := tk }) hk st1 hx hlen (R.keep K2) (hv.keep K2) fun h3 tk3 R3 S3 Pr3 => h _ _ R3 ((Step.of_keep (C := C) K2).trans S3) (pres_trans (C := C) (Step.of_keep (C := C) K2) (pres_keep K2) Pr3)
          · cases e
        · cases e
      · cases e
    · cases e
  · cases e

/-- what a list of statements does, from a state on -/
noncomputable def Tri (prog : Program) (w : World) (A : Around) (C : Cx) (L : Addr) (h₀ : Heap) (sc : Scope) (nm : Str) (a : Addr) (cd : Value) (sts : List Stmt) (P : PS) (post : PS → Fl → Prop) : Prop :=
  ∀ (ρ : List Addr) (s : Shared) (Q : Flow → Shared → Prop) (E : Value → Shared → Prop), Rl h₀ C ρ L P s.heap → (∀ P' f, post P' f → SOut C ρ L h₀ s P' f Q) → wpAny (model prog w) A (execs sts (envOf nm sc L a cd)) Q E s

/-- fewer names known -/
noncomputable def Sub (P' P : PS) : Prop := P'.muts = P.muts ∧ ∀ x v, P'.vars.lookup x = some v → P.vars.lookup x = some v
theorem Rl.sub {P' : PS} (R : Rl h₀ C ρ L P h) (hs : Sub P' P) : Rl h₀ C ρ L P' h := by
  obtain ⟨M, ⟨m, F, hm⟩, nL⟩ := R
  exact ⟨hs.1 ▸ M, ⟨m, F, fun x v e => hm x v (hs.2 x v e)⟩, nL⟩

theorem Tri.sub {sts : List Stmt} {P : PS} {post post' : PS → Fl → Prop} (t : Tri prog w A C L h₀ sc nm a cd sts P post) (hp : ∀ P' f, post P' f → ∃ P'', Sub P'' P' ∧ post' P'' f) : Tri prog w A C L h₀ sc nm a cd sts P post' :=
  fun ρ s Q E R h => t ρ s Q E R fun P' f hpf => by
    obtain ⟨P'', hs, hp'⟩ := hp P' f hpf
    exact fun fl h' tk ρ' R' S' Pr' F' => h P'' f hp' fl h' tk ρ' (R'.sub hs) S' Pr' F'
theorem Tri.pre {sts : List Stmt} {P P₀ : PS} {post : PS → Fl → Prop} (hs : Sub P₀ P) (t : Tri prog w A C L h₀ sc nm a cd sts P₀ post) : Tri prog w A C L h₀ sc nm a cd sts P post := fun ρ s Q E R h => t ρ s Q E (R.sub hs) h
theorem Tri.nil {P : PS} {post : PS → Fl → Prop} (h : post P .next) : Tri prog w A C L h₀ sc nm a cd [] P post :=
  fun ρ s Q _ R hp => wpAny_execs_nil (hp _ _ h _ s.heap s.toks ρ R (.of_keep (Keep.refl _)) (fun _ _ _ e => e) .next)
theorem Tri.run (G : Gd prog w h₀ C.cls T mg mb) (rm : Rm (T.nd + 12) A) (hk : sc.kind = .function) (k n : Nat) {sts : List Stmt} {P' : PS} {f : Fl} {c : Prop} {post : PS → Fl → Prop} (e : exsP T sc k n P sts = some (P', f, c)) (hc : c) (h : post P' f) : Tri prog w A C L h₀ sc nm a cd sts P post :=
  fun _ _ _ _ R hp => exsP_ok G rm hk k n e hc R (hp _ _ h)
theorem Tri.cons {st : Stmt} {r : List Stmt} {P : PS} {post : PS → Fl → Prop} (t : Tri prog w A C L h₀ sc nm a cd [st] P fun P' f => (f = .next ∧ Tri prog w A C L h₀ sc nm a cd r P' post) ∨ (f ≠ .next ∧ post P' f)) : Tri prog w A C L h₀ sc nm a cd (st :: r) P post :=
  fun ρ s Q E R h => by
    have q := t ρ s (fun f s' => match f with | .next => wpAny (model prog w) A (execs r (envOf nm sc L a cd)) Q E s' | f => Q f s') E R fun P' f hpf => ?_
    · refine wpAny_execs_cons ?_
      have e : execs [st] (envOf nm sc L a cd) = (do match ← exec st (envOf nm sc L a cd) with | .next => execs [] (envOf nm sc L a cd) | f => pure f) := rfl
      rw [e] at q
      have q' : wpAny (model prog w) A (exec st (envOf nm sc L a cd) >>= fun f => pure f) (fun f s' => match f with | .next => wpAny (model prog w) A (execs r (envOf nm sc L a cd)) Q E s' | f => Q f s') E s := by
        refine Eq.mp ?_ q
        congr 1
        refine congrArg (fun k => exec st (envOf nm sc L a cd) >>= k) (funext fun f => ?_)
        cases f <;> rfl
      rwa [bind_pure] at q'
    · intro fl h' tk ρ' R' S' Pr' F'
      rcases hpf with ⟨rfl, t2⟩ | ⟨hne, hp⟩
      · cases F'
        exact t2 ρ' { s with heap := h', toks := tk } Q E R' fun P2 f2 hp2 fl2 h2 tk2 ρ2 R2 S2 Pr2 F2 => h P2 f2 hp2 fl2 h2 tk2 ρ2 R2 (S'.trans S2) (pres_trans S' Pr' Pr2) F2
      · cases F' with
        | next => exact absurd rfl hne
        | cont => exact h _ _ hp _ _ _ _ R' S' Pr' .cont
        | ret r => exact h _ _ hp _ _ _ _ R' S' Pr' (.ret r)
theorem Tri.If (G : Gd prog w h₀ C.cls T mg mb) (rm : Rm (T.nd + 12) A) (hk : sc.kind = .function) (k : Nat) {t : Expr} {b o : List Stmt} {pos : Pos} {c : Bool} {cc : Prop} {P : PS} {post : PS → Fl → Prop} (e : tvP T sc k P t = some (c, cc)) (hc : cc)
    (h1 : c = true → Tri prog w A C L h₀ sc nm a cd b P post) (h2 : c = false → Tri prog w A C L h₀ sc nm a cd o P post) : Tri prog w A C L h₀ sc nm a cd [.If t b o pos] P post :=
  fun ρ s Q E R h => by
    refine wpAny_execs_cons (wpAny_If (tvP_ok G rm hk k e hc R fun h' tk K => ?_))
    have fin : ∀ sts, Tri prog w A C L h₀ sc nm a cd sts P post → wpAny (model prog w) A (execs sts (envOf nm sc L a cd)) (fun f s' => match f with | .next => wpAny (model prog w) A (execs [] (envOf nm sc L a cd)) Q E s' | f => Q f s') E { s with heap := h', toks := tk } := fun sts t =>
      t ρ _ _ _ (R.keep K) fun P' f hp fl h2 tk2 ρ2 R2 S2 Pr2 F2 => by
        have := h P' f hp fl h2 tk2 ρ2 R2 ((Step.of_keep K).trans S2) (pres_trans (C := C) (Step.of_keep K) (pres_keep K) Pr2) F2
        cases fl with
        | next => exact wpAny_execs_nil this
        | _ => exact this
    cases c with
    | true => simp only [if_true]; exact fin _ (h1 rfl)
    | false => simp only [Bool.false_eq_true, if_false]; exact fin _ (h2 rfl)
end
end Mine

end
section
open PySem PySem.W PyProof.Rows PySem.Calls
set_option maxRecDepth 100000
namespace Mine

section
variable {prog : Program} {w : World} {A : Around} {s : Shared} {C : Cx} {ρ : List Addr} {L : Addr} {h₀ h h' : Heap} {P : PS}
variable {sc : Scope} {nm : Str} {a : Addr} {cd : Value} {T : Tb} {mg mb : Str → Option Value}

theorem pres_transZ {Z ρ' : List Addr} {h'' : Heap} (S : Step C ρ ρ' h h') (x : Pres (Z ++ ρ) h h') (y : Pres (Z ++ ρ') h' h'') : Pres (Z ++ ρ) h h'' := fun b o n e => by
  refine y b o (fun m => ?_) (x b o n e)
  rcases List.mem_append.mp m with q | q
  · exact n (List.mem_append_left _ q)
  · rcases S.new b q with q | q
    · exact n (List.mem_append_right _ q)
    · rw [q] at e; cases e

theorem Step0.trans' {ρ' ρ'' : List Addr} {h'' : Heap} (S : Step0 C ρ ρ' h h') (dom : ∀ b, (h.get? b).isSome = true → (h'.get? b).isSome = true) (S' : Step0 C ρ' ρ'' h' h'') : Step0 C ρ ρ'' h h'' := by
  refine ⟨fun b o n d e => S'.keep b o (S.off e n) d (S.keep b o n d e), fun b m => ?_, fun k a e => S'.pre k a (S.pre k a e)⟩
  rcases S'.new b m with q | q
  · exact S.new b q
  · right
    cases e : h.get? b with
    | none => rfl
    | some o =>
      have := dom b (by rw [e]; rfl)
      rw [q] at this; cases this

/-- an iterator that a loop walks -/
structure Itr (prog : Program) (w : World) (A : Around) (h₀ : Heap) (C C' : Cx) (L : Addr) (target : Expr) (I : Addr) (W : List Addr) (n : Nat) (x : Nat → PV) (ok : PS → Prop) (St : Nat → List Addr → Heap → Prop) : Prop where
  stay : ∀ i ρ ρ' h h', St i ρ h → Step C ρ ρ' h h' → Pres (L :: ρ) h h' → St i ρ' h'
  item : ∀ i ρ P (s : Shared) (Q : Value → Shared → Prop) (E : Value → Shared → Prop), i < n → ok P → St i ρ s.heap → Rl h₀ C ρ L P s.heap →
    (∀ u h' tk, Rl h₀ C ρ L P h' → Step C ρ ρ s.heap h' → Pres W s.heap h' → VR C ρ h' (x i) u → St (i + 1) ρ h' → Q u { s with heap := h', toks := tk }) →
    wpAny (model prog w) A (pyNext (.ref I)) (fun r s₁ => ∃ v, r = some v ∧ wpAny (model prog w) A (letOwnedTupleGo target (.ref I) v) (fun _ s₂ => Q v s₂) E s₁) E s
  done : ∀ ρ P (s : Shared) (Q : Shared → Prop) (E : Value → Shared → Prop), ok P → St n ρ s.heap → Rl h₀ C ρ L P s.heap →
    (∀ h' tk, Rl h₀ C' ρ L P h' → Step0 C ρ ρ s.heap h' → Pres W s.heap h' → Q { s with heap := h', toks := tk }) → wpAny (model prog w) A (pyNext (.ref I)) (fun r s₁ => r = none ∧ Q s₁) E s

theorem loop_ok (G : Gd prog w h₀ C.cls T mg mb) (hh : A.handled = none) (hk : sc.kind = .function) {target : Expr} {I : Addr} {W : List Addr} {n : Nat} {x : Nat → PV} {ok : PS → Prop} {St : Nat → List Addr → Heap → Prop} {body : List Stmt}
    {C' : Cx} (It : Itr prog w A h₀ C C' L target I W n x ok St) (J : Nat → PS → Prop) (hok : ∀ i P, J i P → ok P)
    (hbody : ∀ i P, i < n → J i P → ∃ P1, asgP sc target (x i) P = some P1 ∧ Tri prog w A C L h₀ sc nm a cd body P1 fun P' f => (f = .next ∨ f = .cont) ∧ J (i + 1) P')
    {R : Result → Shared → Prop} (h0 : St 0 ρ s.heap) (hJ : J 0 P) (hR : Rl h₀ C ρ L P s.heap)
    (hq : ∀ P' h' tk ρ', J n P' → Rl h₀ C' ρ' L P' h' → Step0 C ρ ρ' s.heap h' → (∀ b, b ∉ W → (s.heap.get? b).isSome = true → (h'.get? b).isSome = true) → Pres ((L :: W) ++ ρ) s.heap h' → R (.ok .next) { s with heap := h', toks := tk }) :
    codeAny (model prog w) A (.forLoop target (.ref I) body [] (envOf nm sc L a cd)) R s := by
  refine codeAny_forLoop_any (fun k s' => ∃ i P' h' tk ρ', k = n - i ∧ i ≤ n ∧ s' = { s with heap := h', toks := tk } ∧ St i ρ' h' ∧ J i P' ∧ Rl h₀ C ρ' L P' h' ∧ Step C ρ ρ' s.heap h' ∧ Pres ((L :: W) ++ ρ) s.heap h') ?_ n
    ⟨0, P, s.heap, s.toks, ρ, by omega, Nat.zero_le _, rfl, h0, hJ, hR, .of_keep (Keep.refl _), fun _ _ _ e => e⟩
  rintro k s' ⟨i, P', h', tk, ρ', rfl, hi, rfl, hst, hj, hr, hs, hp⟩
  have pw : ∀ h1 h2, Pres W h1 h2 → Pres ((L :: W) ++ ρ') h1 h2 := fun h1 h2 q => q.mono fun c m => List.mem_append_left _ (.tail _ m)
  have pl : ∀ h1 h2 (ρ' : List Addr), Pres (L :: ρ') h1 h2 → Pres ((L :: W) ++ ρ') h1 h2 := fun h1 h2 ρ' q => q.mono fun c m => by
    rcases List.mem_cons.mp m with z | z
    · rw [z]; exact .head _
    · exact List.mem_append_right _ z
  by_cases hlt : i < n
  · obtain ⟨P1, hasg, tri⟩ := hbody i P' hlt hj
    refine wpAny_mono (It.item i ρ' P' { s with heap := h', toks := tk } (fun v s₂ => wpAny (model prog w) A (assign target (envOf nm sc L a cd) v) (fun _ s₂ => wpAny (model prog w) A (execs body (envOf nm sc L a cd)) (fun f s₃ => match f with
          | .next | .cont => ∃ m, m < n - i ∧ ∃ i P' h' tk ρ', m = n - i ∧ i ≤ n ∧ s₃ = { s with heap := h', toks := tk } ∧ St i ρ' h' ∧ J i P' ∧ Rl h₀ C ρ' L P' h' ∧ Step C ρ ρ' s.heap h' ∧ Pres ((L :: W) ++ ρ) s.heap h'
          | .brk => R (.ok .next) s₃
          | .ret v => R (.ok (.ret v)) s₃) (notedBy (model prog w) A (envOf nm sc L a cd) fun e s' => R (.error e) s') s₂) (notedBy (model prog w) A (envOf nm sc L a cd) fun e s' => R (.error e) s') s₂) _ hlt (hok i P' hj) hst hr ?_) ?_ fun _ _ e => e
    · intro u h2 tk2 R2 S2 Pr2 V2 St2
      refine asgP_ok G hh hk hasg R2 V2 fun h3 tk3 R3 S3 Pr3 => ?_
      refine tri ρ' { s with heap := h3, toks := tk3 } _ _ R3 fun P4 f hpf fl h4 tk4 ρ4 R4 S4 Pr4 F4 => ?_
      obtain ⟨hf, hj4⟩ := hpf
      have St3 := It.stay _ _ _ _ _ St2 S3 Pr3
      have St4 := It.stay _ _ _ _ _ St3 S4 Pr4
      have hs4 : Step C ρ ρ4 s.heap h4 := ((hs.trans S2).trans S3).trans S4
      have hp4 : Pres ((L :: W) ++ ρ) s.heap h4 := pres_transZ ((hs.trans S2).trans S3) (pres_transZ (hs.trans S2) (pres_transZ hs hp (pw _ _ Pr2)) (pl _ _ _ Pr3)) (pl _ _ _ Pr4)
      rcases hf with rfl | rfl
      · cases F4
        exact ⟨n - (i + 1), by omega, i + 1, P4, h4, tk4, ρ4, rfl, hlt, rfl, St4, hj4, R4, hs4, hp4⟩
      · cases F4
        exact ⟨n - (i + 1), by omega, i + 1, P4, h4, tk4, ρ4, rfl, hlt, rfl, St4, hj4, R4, hs4, hp4⟩
    · rintro r s₁ ⟨v, rfl, hv⟩
      exact hv
  · have hin : i = n := by omega
    subst hin
    refine wpAny_mono (It.done ρ' P' { s with heap := h', toks := tk } (fun s₁ => R (.ok .next) s₁) _ (hok _ _ hj) hst hr ?_) ?_ fun _ _ e => e
    · intro h2 tk2 R2 S2 Pr2
      refine hq P' h2 tk2 ρ' hj R2 (hs.toStep0.trans' (fun b e => hs.dom b e) S2) (fun b n e => ?_) (pres_transZ hs hp (pw _ _ Pr2))
      obtain ⟨o, e'⟩ := Option.isSome_iff_exists.mp (hs.dom b e)
      rw [Pr2 b o n e']; rfl
    · rintro r s₁ ⟨rfl, hr⟩
      exact wpAny_execs_nil hr

/-- objects that are no sequences: an iterator's own -/
theorem step0_iter {W : List Addr} (hW : ∀ b ∈ W, b ∈ C.ex ∨ ∃ o vs, h.get? b = some o ∧ o.data = .fields vs) (hs : Pres W h h') : Step0 C ρ ρ h h' := by
  refine ⟨fun b o f d e => ?_, fun _ m => .inl m, fun _ _ e => e⟩
  by_cases q : b ∈ W
  · rcases hW b q with q | ⟨o', vs, ho, hv⟩
    · exact absurd q f.2
    · obtain ⟨_, _, d⟩ := d
      rw [ho] at e; cases e
      rw [hv] at d; cases d
  · exact hs b o q e
theorem Step0.with (S : Step0 C ρ ρ h h') {W : List Addr} (hs : Pres W h h') (hd : ∀ b ∈ W, ∃ o, h'.get? b = some o) : Step C ρ ρ h h' := by
  refine ⟨S, fun b e => ?_⟩
  by_cases q : b ∈ W
  · obtain ⟨o, hd⟩ := hd b q
    rw [hd]; rfl
  · obtain ⟨o, e'⟩ := Option.isSome_iff_exists.mp e
    rw [hs b o q e']; rfl

theorem Free.sub {C' : Cx} {a : Addr} (f : Free C ρ a) (h : ∀ b ∈ C'.ex, b ∈ C.ex) : Free C' ρ a := ⟨f.1, fun m => f.2 (h _ m)⟩
mutual
theorem VR.weak {C' : Cx} (hc : C'.cls = C.cls) (hx : ∀ b ∈ C'.ex, b ∈ C.ex) : ∀ {x : PV} {v : Value}, VR C ρ h x v → VR C' ρ h x v
  | _, _, .none => .none
  | _, _, .bool b => .bool b
  | _, _, .int i t => .int i t
  | _, _, .str x t => .str x t
  | _, _, .tup ha hn hv => .tup ha (hn.sub hx) (VRs.weak hc hx hv)
  | _, _, .tok ha hn hv => .tok (by rw [hc]; exact ha) (hn.sub hx) (VRs.weak hc hx hv)
  | _, _, .lst ha hn hv => .lst ha (hn.sub hx) (VRs.weak hc hx hv)
  | _, _, .ml ha => .ml ha
theorem VRs.weak {C' : Cx} (hc : C'.cls = C.cls) (hx : ∀ b ∈ C'.ex, b ∈ C.ex) : ∀ {xs : List PV} {vs : List Value}, VRs C ρ h xs vs → VRs C' ρ h xs vs
  | _, _, .nil => .nil
  | _, _, .cons a b => .cons (VR.weak hc hx a) (VRs.weak hc hx b)
end
mutual
/-- an address at which nothing stands is excluded -/
theorem VR.strong {C' : Cx} (hc : C'.cls = C.cls) (hx : ∀ b ∈ C'.ex, b ∈ C.ex ∨ h.get? b = none) : ∀ {x : PV} {v : Value}, VR C ρ h x v → VR C' ρ h x v
  | _, _, .none => .none
  | _, _, .bool b => .bool b
  | _, _, .int i t => .int i t
  | _, _, .str x t => .str x t
  | _, _, .tup ha hn hv => .tup ha ⟨hn.1, fun m => (hx _ m).elim hn.2 fun q => by rw [q] at ha; cases ha⟩ (VRs.strong hc hx hv)
  | _, _, .tok ha hn hv => .tok (by rw [hc]; exact ha) ⟨hn.1, fun m => (hx _ m).elim hn.2 fun q => by rw [q] at ha; cases ha⟩ (VRs.strong hc hx hv)
  | _, _, .lst ha hn hv => .lst ha ⟨hn.1, fun m => (hx _ m).elim hn.2 fun q => by obtain ⟨o, ho, _⟩ := ha; rw [q] at ho; cases ho⟩ (VRs.strong hc hx hv)
  | _, _, .ml ha => .ml ha
theorem VRs.strong {C' : Cx} (hc : C'.cls = C.cls) (hx : ∀ b ∈ C'.ex, b ∈ C.ex ∨ h.get? b = none) : ∀ {xs : List PV} {vs : List Value}, VRs C ρ h xs vs → VRs C' ρ h xs vs
  | _, _, .nil => .nil
  | _, _, .cons a b => .cons (VR.strong hc hx a) (VRs.strong hc hx b)
end

/-- a frame's fact over a change of objects off it -/
theorem Rl.off1 {C' : Cx} (R : Rl h₀ C ρ L P h) (hc : C'.cls = C.cls) (hx : ∀ b ∈ C'.ex, b ∈ C.ex) (S : Step0 C ρ ρ h h') {W : List Addr} (hW : ∀ b ∈ W, b ∉ ρ ∧ b ≠ L ∧ h₀.get? b = none) (hp : Pres W h h') (hex : ∀ b ∈ C'.ex, b ∈ W → ∃ o, h'.get? b = some o) : Rl h₀ C' ρ L P h' := by
  obtain ⟨⟨len, mu, nd, off, exd⟩, ⟨m, F, hm⟩, nL⟩ := R
  refine ⟨⟨len, fun j xs e => ?_, nd, off, fun b hb => ?_⟩, ⟨m, ⟨?_, fun b o e => ?_, F.above⟩, fun x v e => ?_⟩, nL⟩
  · obtain ⟨a, vs, b, ⟨n, c⟩, d⟩ := mu j xs e
    exact ⟨a, vs, b, ⟨n, hp a _ (fun q => (hW a q).1 (List.mem_of_getElem? b)) c⟩, VRs.weak hc hx (VRs.step0 S d)⟩
  · by_cases q : b ∈ W
    · obtain ⟨o, e⟩ := hex b hb q
      rw [e]; rfl
    · obtain ⟨o, e'⟩ := Option.isSome_iff_exists.mp (exd b (hx b hb))
      rw [hp b o q e']; rfl
  · exact F.ns.at' fun o e => hp _ o (fun q => (hW _ q).2.1 rfl) e
  · exact hp b o (fun q => by rw [(hW b q).2.2] at e; cases e) (F.keep b o e)
  · obtain ⟨u, c, d⟩ := hm x v e
    exact ⟨u, c, VR.weak hc hx (VR.step0 S d)⟩
end
end Mine

end
section
open PySem PySem.W PyProof.Rows PySem.Calls
set_option maxRecDepth 100000
namespace Mine

section
variable {prog : Program} {w : World} {A : Around} {s : Shared} {C : Cx} {ρ : List Addr} {L : Addr} {h₀ h h' : Heap} {P : PS}

theorem iter_changed {I : Addr} (R : Rl h₀ C ρ L P h) (hI : I ∉ ρ) (hIL : I ≠ L) (h0 : h₀.get? I = none) (hX : I ∉ C.ex) (hf : ∃ o vs, h.get? I = some o ∧ o.data = .fields vs) (hp : Pres [I] h h') :
    Rl h₀ C ρ L P h' ∧ Step0 C ρ ρ h h' := by
  have S : Step0 C ρ ρ h h' := step0_iter (fun b m => .inr (by rw [List.mem_singleton.mp m]; exact hf)) hp
  exact ⟨R.off1 rfl (fun _ m => m) S (fun b m => by rw [List.mem_singleton.mp m]; exact ⟨hI, hIL, h0⟩) hp fun b hb m => absurd hb (by rw [List.mem_singleton.mp m]; exact hX), S⟩
theorem pres_same {I : Addr} (hs : Heap.SameBut I h h') : Pres [I] h h' := fun b _ n e => (hs.2 b fun q => n (by rw [q]; exact .head _)).trans e
theorem pres_ext {I : Addr} (hs : Heap.ExtBut I h h') : Pres [I] h h' := fun b o n e => hs b o (fun q => n (by rw [q]; exact .head _)) e

theorem listIter_fields {I a : Addr} {i : Nat} (hit : h.IsListIter I a i) : ∃ o vs, h.get? I = some o ∧ o.data = .fields vs := by
  obtain ⟨o, ho, _, hd⟩ := hit; exact ⟨o, _, ho, hd⟩
theorem listIter_here {I a : Addr} {i : Nat} (hit : h.IsListIter I a i) : ∃ o, h.get? I = some o := by
  obtain ⟨o, ho, _⟩ := hit; exact ⟨o, ho⟩
theorem listIter_pres {I a : Addr} {i : Nat} {W : List Addr} (hit : h.IsListIter I a i) (hp : Pres W h h') (n : I ∉ W) : h'.IsListIter I a i := hit.at fun o e => hp _ o n e

theorem Itr.list (hh : A.handled = none) {target : Expr} {I a : Addr} {xs : List PV} {vs : List Value} (hIL : I ≠ L) (h0 : h₀.get? I = none) (hX : I ∉ C.ex) :
    Itr prog w A h₀ C C L target I [I] xs.length (fun i => xs.getD i .none) (fun _ => True)
      (fun i ρ h => h.IsListIter I a i ∧ I ∉ ρ ∧ h.IsList a vs.toArray ∧ Free C ρ a ∧ VRs C ρ h xs vs) where
  stay := fun i ρ ρ' h h' st S Pr => by
    obtain ⟨h1, h2, h3, h4, h5⟩ := st
    obtain ⟨o, ho⟩ := listIter_here h1
    exact ⟨listIter_pres h1 Pr fun m => (List.mem_cons.mp m).elim hIL h2, S.off' ho h2, S.list h3 h4, S.listOff h3 h4, h5.step S⟩
  item := fun i ρ P s Q E hi _ st R K => by
    obtain ⟨h1, h2, h3, h4, h5⟩ := st
    have hx : xs[i]? = some (xs.getD i .none) := by rw [List.getElem?_eq_getElem hi, List.getD_eq_getElem?_getD, List.getElem?_eq_getElem hi]; rfl
    obtain ⟨u, hu, r⟩ := h5.get hx
    refine wpAny_pyNext_list_item h1 h3 (x := u) (by simpa using hu) fun h' hit' hs' => ⟨u, rfl, letGo_listiter hit' ?_⟩
    have hp := pres_same hs'
    obtain ⟨R', S0⟩ := iter_changed R h2 hIL h0 hX (listIter_fields h1) hp
    have S : Step C ρ ρ s.heap h' := S0.with hp fun b m => by rw [List.mem_singleton.mp m]; exact listIter_here hit'
    exact K u h' s.toks R' S hp (r.step S) ⟨hit', h2, S.list h3 h4, h4, h5.step S⟩
  done := fun ρ P s Q E _ st R K => by
    obtain ⟨h1, h2, h3, h4, h5⟩ := st
    refine wpAny_pyNext_list_end hh h1 h3 (by simp [h5.length]) fun h' he => ⟨rfl, ?_⟩
    have hp := pres_ext he
    obtain ⟨R', S0⟩ := iter_changed R h2 hIL h0 hX (listIter_fields h1) hp
    exact K h' s.toks R' S0 hp

theorem Itr.ml (hh : A.handled = none) {target : Expr} {I a : Addr} {k : Nat} {xs : List PV} (hIL : I ≠ L) (h0 : h₀.get? I = none) (hX : I ∉ C.ex) :
    Itr prog w A h₀ C C L target I [I] xs.length (fun i => xs.getD i .none) (fun P => P.muts[k]? = some xs)
      (fun i ρ h => h.IsListIter I a i ∧ I ∉ ρ ∧ ρ[k]? = some a) where
  stay := fun i ρ ρ' h h' st S Pr => by
    obtain ⟨h1, h2, h3⟩ := st
    obtain ⟨o, ho⟩ := listIter_here h1
    exact ⟨listIter_pres h1 Pr fun m => (List.mem_cons.mp m).elim hIL h2, S.off' ho h2, S.pre _ _ h3⟩
  item := fun i ρ P s Q E hi hok st R K => by
    obtain ⟨h1, h2, h3⟩ := st
    obtain ⟨a', vs, b, c, h5⟩ := R.mu k xs hok
    rw [h3] at b; cases b
    have hx : xs[i]? = some (xs.getD i .none) := by rw [List.getElem?_eq_getElem hi, List.getD_eq_getElem?_getD, List.getElem?_eq_getElem hi]; rfl
    obtain ⟨u, hu, r⟩ := h5.get hx
    refine wpAny_pyNext_list_item h1 c.isList (x := u) (by simpa using hu) fun h' hit' hs' => ⟨u, rfl, letGo_listiter hit' ?_⟩
    have hp := pres_same hs'
    obtain ⟨R', S0⟩ := iter_changed R h2 hIL h0 hX (listIter_fields h1) hp
    have S : Step C ρ ρ s.heap h' := S0.with hp fun b m => by rw [List.mem_singleton.mp m]; exact listIter_here hit'
    exact K u h' s.toks R' S hp (r.step S) ⟨hit', h2, h3⟩
  done := fun ρ P s Q E hok st R K => by
    obtain ⟨h1, h2, h3⟩ := st
    obtain ⟨a', vs, b, c, h5⟩ := R.mu k xs hok
    rw [h3] at b; cases b
    refine wpAny_pyNext_list_end hh h1 c.isList (by simp [h5.length]) fun h' he => ⟨rfl, ?_⟩
    have hp := pres_ext he
    obtain ⟨R', S0⟩ := iter_changed R h2 hIL h0 hX (listIter_fields h1) hp
    exact K h' s.toks R' S0 hp

theorem Itr.tup (hh : A.handled = none) {target : Expr} {I a : Addr} {xs : List PV} {vs : List Value} (hIL : I ≠ L) (h0 : h₀.get? I = none) (hX : I ∉ C.ex) :
    Itr prog w A h₀ C C L target I [I] xs.length (fun i => xs.getD i .none) (fun _ => True)
      (fun i ρ h => IsTupIter h I a i ∧ I ∉ ρ ∧ h.get? a = some (tupO vs) ∧ Free C ρ a ∧ VRs C ρ h xs vs) where
  stay := fun i ρ ρ' h h' st S Pr => by
    obtain ⟨⟨o, ho, hc, hd⟩, h2, h3, h4, h5⟩ := st
    exact ⟨⟨o, Pr _ _ (fun m => (List.mem_cons.mp m).elim hIL h2) ho, hc, hd⟩, S.off' ho h2, S.keep _ _ h4 (noDict_tup _) h3, S.off h3 h4, h5.step S⟩
  item := fun i ρ P s Q E hi _ st R K => by
    obtain ⟨h1, h2, h3, h4, h5⟩ := st
    have hx : xs[i]? = some (xs.getD i .none) := by rw [List.getElem?_eq_getElem hi, List.getD_eq_getElem?_getD, List.getElem?_eq_getElem hi]; rfl
    obtain ⟨u, hu, r⟩ := h5.get hx
    refine next_tuple_item h1 (items := vs.toArray) ⟨_, h3, rfl, 0, rfl⟩ (x := u) (by simpa using hu) fun h' hit' hs' => ⟨u, rfl, letGo_tupleiter hit' ?_⟩
    have hp := pres_same hs'
    have hf : ∃ o vs, s.heap.get? I = some o ∧ o.data = .fields vs := by obtain ⟨o, ho, _, hd⟩ := h1; exact ⟨o, _, ho, hd⟩
    obtain ⟨R', S0⟩ := iter_changed R h2 hIL h0 hX hf hp
    have S : Step C ρ ρ s.heap h' := S0.with hp fun b m => by rw [List.mem_singleton.mp m]; obtain ⟨o, ho, _⟩ := hit'; exact ⟨o, ho⟩
    exact K u h' s.toks R' S hp (r.step S) ⟨hit', h2, S.keep _ _ h4 (noDict_tup _) h3, h4, h5.step S⟩
  done := fun ρ P s Q E _ st R K => by
    obtain ⟨h1, h2, h3, h4, h5⟩ := st
    refine next_tuple_end hh h1 (items := vs.toArray) ⟨_, h3, rfl, 0, rfl⟩ (by simp [h5.length]) fun h' he => ⟨rfl, ?_⟩
    have hp := pres_ext he
    have hf : ∃ o vs, s.heap.get? I = some o ∧ o.data = .fields vs := by obtain ⟨o, ho, _, hd⟩ := h1; exact ⟨o, _, ho, hd⟩
    obtain ⟨R', S0⟩ := iter_changed R h2 hIL h0 hX hf hp
    exact K h' s.toks R' S0 hp

theorem Itr.range (hh : A.handled = none) {x : Str} {xp : Pos} {I : Addr} {n : Nat} (hIL : I ≠ L) (h0 : h₀.get? I = none) (hX : I ∉ C.ex) :
    Itr prog w A h₀ C C L (.Name x xp) I [I] n (fun i => .int (i : Int)) (fun _ => True)
      (fun i ρ h => IsRangeIter h I (i : Int) ((n : Int) - i) 1 ∧ I ∉ ρ) where
  stay := fun i ρ ρ' h h' st S Pr => by
    obtain ⟨h1, h2⟩ := st
    exact ⟨Pr _ _ (fun m => (List.mem_cons.mp m).elim hIL h2) h1, S.off' h1 h2⟩
  item := fun i ρ P s Q E hi _ st R K => by
    obtain ⟨h1, h2⟩ := st
    refine wpAny_pyNext_range_item h1 (by omega) fun h' hit' hs' => ⟨_, rfl, wpAny_pure ?_⟩
    have hp := pres_same hs'
    obtain ⟨R', S0⟩ := iter_changed R h2 hIL h0 hX ⟨_, _, h1, rfl⟩ hp
    have S : Step C ρ ρ s.heap h' := S0.with hp fun b m => by rw [List.mem_singleton.mp m]; exact ⟨_, hit'⟩
    refine K _ h' (s.toks + 1) R' S hp (.int _ _) ⟨?_, h2⟩
    have e : (n : Int) - (i : Int) - 1 = (n : Int) - ((i + 1 : Nat) : Int) := by push_cast; omega
    have e' : (i : Int) + 1 = ((i + 1 : Nat) : Int) := by push_cast; rfl
    rw [← e, ← e']
    exact hit'
  done := fun ρ P s Q E _ st R K => by
    obtain ⟨h1, h2⟩ := st
    refine wpAny_pyNext_range_end hh h1 (by omega) fun h' he => ⟨rfl, ?_⟩
    have hp := pres_ext he
    obtain ⟨R', S0⟩ := iter_changed R h2 hIL h0 hX ⟨_, _, h1, rfl⟩ hp
    exact K h' s.toks R' S0 hp
end
end Mine

end
section
open PySem PySem.W PyProof.Rows PySem.Calls
set_option maxRecDepth 100000
namespace Mine

section
variable {prog : Program} {w : World} {A : Around} {s : Shared} {C : Cx} {ρ : List Addr} {L : Addr} {h₀ h h' : Heap} {P : PS}

theorem Itr.zip (hh : A.handled = none) {elts : List Expr} {tk : Nat} {tp : Pos} {z TI TO i1 i2 l1 l2 : Addr} {xs ys : List PV} {vs us : List Value} (D : ZipApart z TI TO i1 i2 l1 l2)
    (hL : ∀ b ∈ [z, TI, TO, i1, i2], b ≠ L ∧ h₀.get? b = none ∧ b ∉ C.ex) :
    Itr prog w A h₀ ⟨C.cls, TO :: C.ex⟩ C L (.Tuple elts tk tp) z [z, TO, i1, i2] (min xs.length ys.length) (fun i => .tup [xs.getD i .none, ys.getD i .none]) (fun _ => True)
      (fun i ρ h => IsZip h z TI TO .none ∧ IsPair h TI (.ref i1) (.ref i2) ∧ (∃ a b, IsPair h TO a b) ∧ h.IsListIter i1 l1 i ∧ h.IsListIter i2 l2 i ∧ h.IsList l1 vs.toArray ∧ h.IsList l2 us.toArray ∧
        Free ⟨C.cls, TO :: C.ex⟩ ρ l1 ∧ Free ⟨C.cls, TO :: C.ex⟩ ρ l2 ∧ VRs ⟨C.cls, TO :: C.ex⟩ ρ h xs vs ∧ VRs ⟨C.cls, TO :: C.ex⟩ ρ h ys us ∧ ∀ b ∈ [z, TI, TO, i1, i2], b ∉ ρ) where
  stay := fun i ρ ρ' h h' st S Pr => by
    obtain ⟨h1, h2, ⟨a, b, h3⟩, h4, h5, h6, h7, h8, h9, h10, h11, h12⟩ := st
    have n : ∀ b ∈ [z, TI, TO, i1, i2], b ∉ L :: ρ := fun b m q => (List.mem_cons.mp q).elim (hL b m).1 (h12 b m)
    have hz := n z (by simp)
    have hTI := n TI (by simp)
    have hTO := n TO (by simp)
    have hi1 := n i1 (by simp)
    have hi2 := n i2 (by simp)
    refine ⟨Pr _ _ hz h1, Pr _ _ hTI h2, ⟨a, b, Pr _ _ hTO h3⟩, listIter_pres h4 Pr hi1, listIter_pres h5 Pr hi2, S.list h6 h8, S.list h7 h9, S.listOff h6 h8, S.listOff h7 h9, h10.step S, h11.step S, fun c m => ?_⟩
    simp only [List.mem_cons, List.mem_nil_iff, or_false] at m
    rcases m with rfl | rfl | rfl | rfl | rfl
    · exact S.off' h1 (h12 _ (by simp))
    · exact S.off' h2 (h12 _ (by simp))
    · exact S.off' h3 (h12 _ (by simp))
    · obtain ⟨o, ho⟩ := listIter_here h4; exact S.off' ho (h12 _ (by simp))
    · obtain ⟨o, ho⟩ := listIter_here h5; exact S.off' ho (h12 _ (by simp))
  item := fun i ρ P s Q E hi _ st R K => by
    obtain ⟨h1, h2, ⟨a, b, h3⟩, h4, h5, h6, h7, h8, h9, h10, h11, h12⟩ := st
    have hix : i < xs.length := Nat.lt_of_lt_of_le hi (Nat.min_le_left ..)
    have hiy : i < ys.length := Nat.lt_of_lt_of_le hi (Nat.min_le_right ..)
    have hx : xs[i]? = some (xs.getD i .none) := by rw [List.getElem?_eq_getElem hix, List.getD_eq_getElem?_getD, List.getElem?_eq_getElem hix]; rfl
    have hy : ys[i]? = some (ys.getD i .none) := by rw [List.getElem?_eq_getElem hiy, List.getD_eq_getElem?_getD, List.getElem?_eq_getElem hiy]; rfl
    obtain ⟨x, hxv, rx⟩ := h10.get hx
    obtain ⟨y, hyv, ry⟩ := h11.get hy
    refine wpAny_pyNext_zip_item D h1 h2 h3 h4 h5 h6 h7 (x := x) (y := y) (by simpa using hxv) (by simpa using hyv) fun h' a1 a2 a3 a4 a5 a6 hk => ⟨_, rfl, wpAny_letOwnedTupleGo_zip a1 fun h'' b1 bs => ?_⟩
    have hp : Pres [z, TO, i1, i2] s.heap h'' := fun c o n e => by
      simp only [List.mem_cons, List.mem_nil_iff, or_false, not_or] at n
      exact bs.extBut _ _ n.1 (hk c o n.1 n.2.1 n.2.2.1 n.2.2.2 e)
    have hiz1 := bs.extBut _ _ D.TOz a2
    have hj1 := a3.extBut bs.extBut D.i1z
    have hj2 := a4.extBut bs.extBut D.i2z
    have S0 : Step0 ⟨C.cls, TO :: C.ex⟩ ρ ρ s.heap h'' := step0_iter (fun c m => by
      simp only [List.mem_cons, List.mem_nil_iff, or_false] at m
      rcases m with rfl | rfl | rfl | rfl
      · exact .inr ⟨_, _, h1, rfl⟩
      · exact .inl (.head _)
      · exact .inr (listIter_fields h4)
      · exact .inr (listIter_fields h5)) hp
    have here : ∀ c ∈ [z, TO, i1, i2], ∃ o, h''.get? c = some o := fun c m => by
      simp only [List.mem_cons, List.mem_nil_iff, or_false] at m
      rcases m with rfl | rfl | rfl | rfl
      · exact ⟨_, b1⟩
      · exact ⟨_, hiz1⟩
      · exact listIter_here hj1
      · exact listIter_here hj2
    have S := S0.with hp here
    have hW : ∀ c ∈ [z, TO, i1, i2], c ∉ ρ ∧ c ≠ L ∧ h₀.get? c = none := fun c m => by
      have m' : c ∈ [z, TI, TO, i1, i2] := by simp only [List.mem_cons, List.mem_nil_iff, or_false] at m ⊢; rcases m with rfl | rfl | rfl | rfl <;> simp
      exact ⟨h12 c m', (hL c m').1, (hL c m').2.1⟩
    have R' := R.off1 rfl (fun _ m => m) S0 hW hp fun c _ m => here c m
    have hT : Free ⟨C.cls, TO :: C.ex⟩ ρ s.heap.objs.size := fresh_not R
    have hTz : s.heap.objs.size ≠ z := Nat.ne_of_gt (Heap.lt_size h1)
    refine K _ h'' s.toks R' S hp (.tup (vs := [x, y]) (bs.extBut _ _ hTz a5) hT (.cons (rx.step S) (.cons (ry.step S) .nil))) ⟨b1, ?_, ⟨x, y, hiz1⟩, hj1, hj2, S.list h6 h8, S.list h7 h9, h8, h9, h10.step S, h11.step S, h12⟩
    exact bs.extBut _ _ D.TIz (hk _ _ D.TIz D.TITO D.TIi1 D.TIi2 h2)
  done := fun ρ P s Q E _ st R K => by
    obtain ⟨h1, h2, ⟨a, b, h3⟩, h4, h5, h6, h7, h8, h9, h10, h11, h12⟩ := st
    have hend : vs.toArray[min xs.length ys.length]? = none ∨ us.toArray[min xs.length ys.length]? = none := by
      rcases Nat.le_total xs.length ys.length with h | h
      · exact .inl (by rw [Nat.min_eq_left h]; exact Array.getElem?_eq_none (by simp [h10.length]))
      · exact .inr (by rw [Nat.min_eq_right h]; exact Array.getElem?_eq_none (by simp [h11.length]))
    refine wpAny_pyNext_zip_end hh D h1 h2 h3 h4 h5 h6 h7 hend fun h' hk => ⟨rfl, ?_⟩
    have hp : Pres [z, TO, i1, i2] s.heap h' := fun c o n e => by
      simp only [List.mem_cons, List.mem_nil_iff, or_false, not_or] at n
      exact hk c o n.1 n.2.1 n.2.2.1 n.2.2.2 e
    have S0 : Step0 ⟨C.cls, TO :: C.ex⟩ ρ ρ s.heap h' := step0_iter (fun c m => by
      simp only [List.mem_cons, List.mem_nil_iff, or_false] at m
      rcases m with rfl | rfl | rfl | rfl
      · exact .inr ⟨_, _, h1, rfl⟩
      · exact .inl (.head _)
      · exact .inr (listIter_fields h4)
      · exact .inr (listIter_fields h5)) hp
    have m' : ∀ c ∈ [z, TO, i1, i2], c ∈ [z, TI, TO, i1, i2] := fun c m => by simp only [List.mem_cons, List.mem_nil_iff, or_false] at m ⊢; rcases m with rfl | rfl | rfl | rfl <;> simp
    have hW : ∀ c ∈ [z, TO, i1, i2], c ∉ ρ ∧ c ≠ L ∧ h₀.get? c = none := fun c m => ⟨h12 c (m' c m), (hL c (m' c m)).1, (hL c (m' c m)).2.1⟩
    exact K h' s.toks (R.off1 (C' := C) rfl (fun _ m => .tail _ m) S0 hW hp fun c hc m => absurd hc (hL c (m' c m)).2.2) S0 hp

variable {sc : Scope} {nm : Str} {a : Addr} {cd : Value} {T : Tb} {mg mb : Str → Option Value}

theorem for_close {C' : Cx} {W : List Addr} {h2 : Heap} {ρ' : List Addr} (K : Keep s.heap h2) (hW : ∀ b ∈ W, s.heap.get? b = none) (hx : ∀ b ∈ C'.ex, b ∈ C.ex ∨ s.heap.get? b = none)
    (S : Step0 C' ρ ρ' h2 h') (dom : ∀ b, b ∉ W → (h2.get? b).isSome = true → (h'.get? b).isSome = true) (Pr : Pres ((L :: W) ++ ρ) h2 h') : Step C ρ ρ' s.heap h' ∧ Pres (L :: ρ) s.heap h' := by
  have nW : ∀ {b o}, s.heap.get? b = some o → b ∉ W := fun e m => by rw [hW _ m] at e; cases e
  refine ⟨⟨⟨fun b o f d e => S.keep b o ⟨f.1, fun m => ?_⟩ d (K b o e), fun b m => ?_, S.pre⟩, fun b e => ?_⟩, fun b o n e => Pr b o (fun m => ?_) (K b o e)⟩
  · rcases hx b m with q | q
    · exact f.2 q
    · rw [q] at e; cases e
  · rcases S.new b m with q | q
    · exact .inl q
    · right
      cases e : s.heap.get? b with
      | none => rfl
      | some o => rw [K b o e] at q; cases q
  · obtain ⟨o, e'⟩ := Option.isSome_iff_exists.mp e
    exact dom b (nW e') (by rw [K b o e']; rfl)
  · rcases List.mem_append.mp m with q | q
    · rcases List.mem_cons.mp q with q | q
      · exact n (by rw [q]; exact .head _)
      · exact nW e q
    · exact n (.tail _ q)

/-- the walk of a loop whose iterator is at hand -/
theorem forGo (G : Gd prog w h₀ C.cls T mg mb) (hh : A.handled = none) (hk : sc.kind = .function) {target : Expr} {I : Addr} {W : List Addr} {n : Nat} {x : Nat → PV} {ok : PS → Prop} {St : Nat → List Addr → Heap → Prop} {body : List Stmt}
    {C' : Cx} (hC : C'.cls = C.cls) (It : Itr prog w A h₀ C' C L target I W n x ok St) (J : Nat → PS → Prop) (hok : ∀ i P, J i P → ok P)
    (hbody : ∀ i P, i < n → J i P → ∃ P1, asgP sc target (x i) P = some P1 ∧ Tri prog w A C' L h₀ sc nm a cd body P1 fun P' f => (f = .next ∨ f = .cont) ∧ J (i + 1) P')
    {post : PS → Fl → Prop} (hpost : ∀ P', J n P' → post P' .next) {Q : Flow → Shared → Prop} {E : Value → Shared → Prop} (hq : ∀ P' f, post P' f → SOut C ρ L h₀ s P' f Q)
    {h2 : Heap} {tk2 : Nat} (K : Keep s.heap h2) (hW : ∀ b ∈ W, s.heap.get? b = none) (hx : ∀ b ∈ C'.ex, b ∈ C.ex ∨ s.heap.get? b = none)
    (h0 : St 0 ρ h2) (hJ : J 0 P) (hR : Rl h₀ C' ρ L P h2) {R : Result → Shared → Prop} (hRQ : ∀ s', wpAny (model prog w) A (execs [] (envOf nm sc L a cd)) Q E s' → R (.ok .next) s') :
    codeAny (model prog w) A (.forLoop target (.ref I) body [] (envOf nm sc L a cd)) R { s with heap := h2, toks := tk2 } :=
  loop_ok (C := C') (by rw [hC]; exact G) hh hk It J hok hbody h0 hJ hR fun P' h' tk ρ' jn R' S0 dom Pr => by
    obtain ⟨S, Pr'⟩ := for_close (C := C) K hW hx S0 dom Pr
    exact hRQ _ (wpAny_execs_nil (hq P' .next (hpost P' jn) .next h' tk ρ' R' S Pr' .next))

theorem new_facts (R : Rl h₀ C ρ L P h) {b : Addr} (hb : h.get? b = none) : b ∉ ρ ∧ b ≠ L ∧ h₀.get? b = none ∧ b ∉ C.ex := by
  obtain ⟨m, F, _⟩ := R.fr
  refine ⟨fun m => ?_, fun q => ?_, ?_, fun m => ?_⟩
  · have := Rl.there (s := { heap := h }) R b m
    rw [show ({ heap := h } : Shared).heap = h from rfl, hb] at this; cases this
  · obtain ⟨o, _, _, ho, _⟩ := F.ns
    rw [q, ho] at hb; cases hb
  · cases e : h₀.get? b with
    | none => rfl
    | some o => rw [F.keep b o e] at hb; cases hb
  · have := R.exd b m
    rw [hb] at this; cases this

theorem Tri.forLst (G : Gd prog w h₀ C.cls T mg mb) (rm : Rm (T.nd + 12) A) (hk : sc.kind = .function) (k : Nat) {target iter : Expr} {body : List Stmt} {pos : Pos} {xs : List PV} {c : Prop} {post : PS → Fl → Prop}
    (e : evP T sc k P iter = some (.lst xs, c)) (hc : c) (hs : ∀ x, foldedSetIterable iter (envOf nm sc L a cd) x = pure x) (J : Nat → PS → Prop) (hJ : J 0 P)
    (hbody : ∀ i P, i < xs.length → J i P → ∃ P1, asgP sc target (xs.getD i .none) P = some P1 ∧ Tri prog w A C L h₀ sc nm a cd body P1 fun P' f => (f = .next ∨ f = .cont) ∧ J (i + 1) P')
    (hpost : ∀ P', J xs.length P' → post P' .next) : Tri prog w A C L h₀ sc nm a cd [.For target iter body [] pos] P post :=
  fun ρ s Q E R h => by
    refine wpAny_execs_cons (wpAny_For (evP_ok G rm hk k e hc R fun u h1 tk1 K1 V1 => ?_) hs)
    cases V1 with
    | lst ha hn hv =>
      rename_i l vs
      refine wpAny_pyIter_list ha ?_
      have R1 := R.keep K1
      obtain ⟨n1, n2, n3, n4⟩ := new_facts R1 (b := h1.objs.size) (Heap.get?_none_of_le (Nat.le_refl _))
      have K2 : Keep h1 (h1.push { cls := .type "list_iterator", data := .fields #[.ref l, .int 0 0] }) := Keep.push _ _
      refine forGo (C := C) (C' := C) G rm.hh hk rfl (Itr.list rm.hh (xs := xs) (vs := vs) n2 n3 n4) J (fun _ _ _ => trivial) hbody hpost h (K1.trans K2) (fun b m => ?_) (fun b m => .inl m) ⟨⟨_, Heap.get?_push_size _ rfl, rfl, rfl⟩, n1, ha.at fun o e => K2 _ o e, hn, hv.keep K2⟩ hJ (R1.keep K2) fun s' q => q
      rw [List.mem_singleton.mp m]
      cases e : s.heap.get? h1.objs.size with
      | none => rfl
      | some o => have := K1 _ _ e; rw [Heap.get?_none_of_le (Nat.le_refl _)] at this; cases this

theorem Tri.forMl (G : Gd prog w h₀ C.cls T mg mb) (rm : Rm (T.nd + 12) A) (hk : sc.kind = .function) (k : Nat) {target iter : Expr} {body : List Stmt} {pos : Pos} {j : Nat} {xs : List PV} {c : Prop} {post : PS → Fl → Prop}
    (e : evP T sc k P iter = some (.ml j, c)) (hc : c) (hs : ∀ x, foldedSetIterable iter (envOf nm sc L a cd) x = pure x) (J : Nat → PS → Prop) (hJ : J 0 P) (hok : ∀ i P, J i P → P.muts[j]? = some xs)
    (hbody : ∀ i P, i < xs.length → J i P → ∃ P1, asgP sc target (xs.getD i .none) P = some P1 ∧ Tri prog w A C L h₀ sc nm a cd body P1 fun P' f => (f = .next ∨ f = .cont) ∧ J (i + 1) P')
    (hpost : ∀ P', J xs.length P' → post P' .next) : Tri prog w A C L h₀ sc nm a cd [.For target iter body [] pos] P post :=
  fun ρ s Q E R h => by
    refine wpAny_execs_cons (wpAny_For (evP_ok G rm hk k e hc R fun u h1 tk1 K1 V1 => ?_) hs)
    have R1 := R.keep K1
    cases V1 with
    | ml ha =>
      rename_i l
      obtain ⟨a', vs, b, hpl, hv⟩ := R1.mu j xs (hok 0 P hJ)
      rw [ha] at b; cases b
      refine wpAny_pyIter_list hpl.isList ?_
      obtain ⟨n1, n2, n3, n4⟩ := new_facts R1 (b := h1.objs.size) (Heap.get?_none_of_le (Nat.le_refl _))
      have K2 : Keep h1 (h1.push { cls := .type "list_iterator", data := .fields #[.ref l, .int 0 0] }) := Keep.push _ _
      refine forGo (C := C) (C' := C) G rm.hh hk rfl (Itr.ml rm.hh (xs := xs) (k := j) n2 n3 n4) J hok hbody hpost h (K1.trans K2) (fun b m => ?_) (fun b m => .inl m) ⟨⟨_, Heap.get?_push_size _ rfl, rfl, rfl⟩, n1, ha⟩ hJ (R1.keep K2) fun s' q => q
      rw [List.mem_singleton.mp m]
      cases e : s.heap.get? h1.objs.size with
      | none => rfl
      | some o => have := K1 _ _ e; rw [Heap.get?_none_of_le (Nat.le_refl _)] at this; cases this

theorem Tri.forTup (G : Gd prog w h₀ C.cls T mg mb) (rm : Rm (T.nd + 12) A) (hk : sc.kind = .function) (k : Nat) {target iter : Expr} {body : List Stmt} {pos : Pos} {xs : List PV} {c : Prop} {post : PS → Fl → Prop}
    (e : evP T sc k P iter = some (.tup xs, c)) (hc : c) (hs : ∀ x, foldedSetIterable iter (envOf nm sc L a cd) x = pure x) (J : Nat → PS → Prop) (hJ : J 0 P)
    (hbody : ∀ i P, i < xs.length → J i P → ∃ P1, asgP sc target (xs.getD i .none) P = some P1 ∧ Tri prog w A C L h₀ sc nm a cd body P1 fun P' f => (f = .next ∨ f = .cont) ∧ J (i + 1) P')
    (hpost : ∀ P', J xs.length P' → post P' .next) : Tri prog w A C L h₀ sc nm a cd [.For target iter body [] pos] P post :=
  fun ρ s Q E R h => by
    refine wpAny_execs_cons (wpAny_For (evP_ok G rm hk k e hc R fun u h1 tk1 K1 V1 => ?_) hs)
    cases V1 with
    | tup ha hn hv =>
      rename_i l vs
      refine iter_tuple (items := vs.toArray) ⟨_, ha, rfl, 0, rfl⟩ ?_
      have R1 := R.keep K1
      obtain ⟨n1, n2, n3, n4⟩ := new_facts R1 (b := h1.objs.size) (Heap.get?_none_of_le (Nat.le_refl _))
      have K2 : Keep h1 (h1.push { cls := .type "tuple_iterator", data := .fields #[.ref l, .int 0 0] }) := Keep.push _ _
      refine forGo (C := C) (C' := C) G rm.hh hk rfl (Itr.tup rm.hh (xs := xs) (vs := vs) n2 n3 n4) J (fun _ _ _ => trivial) hbody hpost h (K1.trans K2) (fun b m => ?_) (fun b m => .inl m) ⟨⟨_, Heap.get?_push_size _ rfl, rfl, rfl⟩, n1, K2 _ _ ha, hn, hv.keep K2⟩ hJ (R1.keep K2) fun s' q => q
      rw [List.mem_singleton.mp m]
      cases e : s.heap.get? h1.objs.size with
      | none => rfl
      | some o => have := K1 _ _ e; rw [Heap.get?_none_of_le (Nat.le_refl _)] at this; cases this

/-- a call of a type of the builtins -/
theorem callType_ok (G : Gd prog w h₀ C.cls T mg mb) (rm : Rm (T.nd + 12) A) (hk : sc.kind = .function) (k : Nat) {f : String} {p pos : Pos} {args : List Expr} {vs : List PV} {c : Prop} (hf : f ∈ ["int", "bool", "list", "zip", "range", "tuple"])
    (hg : isGlob sc (Str.ofString f) = true) (e : evs (evP T sc k P) args = some (vs, c)) (hc : c) (R : Rl h₀ C ρ L P s.heap) {Q : Value → Shared → Prop} {E : Value → Shared → Prop}
    (h : ∀ us h' tk, Keep s.heap h' → VRs C ρ h' vs us → wpAny (model prog w) A (call (.type f) us) Q E { s with heap := h', toks := tk }) :
    wpAny (model prog w) A (eval (.Call (.Name (Str.ofString f) p) args [] pos) (envOf nm sc L a cd)) Q E s := by
  rw [arm_eval_Call_Name']
  refine wpAny_bind ?_
  show wpAny _ _ _ (fun fv s₁ => wpAny (model prog w) A (callWith pos fv [] (backTo pos (starEach args (envOf nm sc L a cd))) []) Q E s₁) E s
  obtain ⟨b1, b2⟩ := G.bt f hf
  obtain ⟨h1, h2, h3⟩ := EV_ok (prog := prog) (w := w) (A := A) (C := C) (ρ := ρ) (L := L) (h₀ := h₀) (P := P) (nm := nm) (a := a) (cd := cd) G rm hk k
  exact name_builtin G hk R hg b1 b2 (callWith_ok h1 h3 e hc R (fun h _ => keeper_type _ h) h)

theorem Tri.forRange (G : Gd prog w h₀ C.cls T mg mb) (rm : Rm (T.nd + 12) A) (hk : sc.kind = .function) (k : Nat) {x : Str} {xp p cp : Pos} {arg : Expr} {body : List Stmt} {pos : Pos} {n : Nat} {c : Prop} {post : PS → Fl → Prop}
    (hg : isGlob sc (Str.ofString "range") = true) (hx : isLoc sc x = true)
    (e : evP T sc k P arg = some (.int (n : Int), c)) (hc : c) (hn : (n : Int) < 2 ^ 62) (J : Nat → PS → Prop) (hJ : J 0 P)
    (hbody : ∀ i P, i < n → J i P → Tri prog w A C L h₀ sc nm a cd body ⟨setv x (.int (i : Int)) P.vars, P.muts⟩ fun P' f => (f = .next ∨ f = .cont) ∧ J (i + 1) P')
    (hpost : ∀ P', J n P' → post P' .next) : Tri prog w A C L h₀ sc nm a cd [.For (.Name x xp) (.Call (.Name (Str.ofString "range") p) [arg] [] cp) body [] pos] P post :=
  fun ρ s Q E R h => by
    refine wpAny_execs_cons (wpAny_For (callType_ok (vs := [.int n]) (c := c ∧ True) G rm hk k (by simp) hg (by simp only [evs, e]) ⟨hc, trivial⟩ R fun us h1 tk1 K1 V1 => ?_) fun _ => rfl)
    cases V1 with
    | cons v1 v2 =>
      cases v2
      cases v1
      refine call_range_1 ?_
      have R1 := R.keep K1
      have K2 := Keep.push h1 { cls := .type "range", data := .fields #[.int 0 tk1, .int (n : Int) ‹Tok›, .int 1 (tk1 + 1)] }
      refine wpAny_pyIter_range (IsRange.new ..) (small_one (by omega) (by omega) (by omega) (by omega)) ?_
      have R2 := R1.keep K2
      obtain ⟨n1, n2, n3, n4⟩ := new_facts R2 (b := _) (Heap.get?_none_of_le (Nat.le_refl _))
      have K3 := Keep.push (h1.push { cls := .type "range", data := .fields #[.int 0 tk1, .int (n : Int) ‹Tok›, .int 1 (tk1 + 1)] }) { cls := .type "range_iterator", data := .fields #[rawInt 0, rawInt (Builtin.Range.rangeSize 0 (n : Int) 1), rawInt 1] }
      refine forGo (C := C) (C' := C) G rm.hh hk rfl (Itr.range rm.hh (n := n) n2 n3 n4) J (fun _ _ _ => trivial) (fun i P hi hj => ⟨_, ?_, hbody i P hi hj⟩) hpost h ((K1.trans K2).trans K3) (fun b m => ?_) (fun b m => .inl m) ⟨?_, n1⟩ hJ (R2.keep K3) fun s' q => q
      · show (if isLoc sc x then _ else _) = _
        rw [if_pos hx]
      · rw [List.mem_singleton.mp m]
        cases e : s.heap.get? _ with
        | none => rfl
        | some o => have := (K1.trans K2) _ _ e; rw [Heap.get?_none_of_le (Nat.le_refl _)] at this; cases this
      · have e1 : Builtin.Range.rangeSize 0 (n : Int) 1 = (n : Int) - ((0 : Nat) : Int) := by rw [rangeSize_one]; split <;> simp <;> omega
        rw [← e1]
        exact Heap.get?_push_size _ rfl

theorem Rl.strong {TO : Addr} {h2 : Heap} (R : Rl h₀ C ρ L P h) (hn : h.get? TO = none) (K : Keep h h2) (ht : (h2.get? TO).isSome = true) : Rl h₀ ⟨C.cls, TO :: C.ex⟩ ρ L P h2 := by
  obtain ⟨⟨len, mu, nd, off, exd⟩, ⟨m, F, hm⟩, nL⟩ := R
  have hx : ∀ b ∈ (⟨C.cls, TO :: C.ex⟩ : Cx).ex, b ∈ C.ex ∨ h.get? b = none := fun b m => (List.mem_cons.mp m).elim (fun q => .inr (by rw [q]; exact hn)) .inl
  refine ⟨⟨len, fun j xs e => ?_, nd, off, fun b hb => ?_⟩, ⟨m, F.keeps K, fun x v e => ?_⟩, nL⟩
  · obtain ⟨a, vs, b, ⟨n, c⟩, d⟩ := mu j xs e
    exact ⟨a, vs, b, ⟨n, K _ _ c⟩, (VRs.strong (C := C) (C' := ⟨C.cls, TO :: C.ex⟩) rfl hx d).keep K⟩
  · rcases List.mem_cons.mp hb with q | q
    · rw [q]; exact ht
    · obtain ⟨o, e⟩ := Option.isSome_iff_exists.mp (exd b q)
      rw [K b o e]; rfl
  · obtain ⟨u, c, d⟩ := hm x v e
    exact ⟨u, c, (VR.strong (C := C) (C' := ⟨C.cls, TO :: C.ex⟩) rfl hx d).keep K⟩

theorem zipD (n l1 l2 : Nat) (h1 : l1 < n) (h2 : l2 < n) : ZipApart (n + 4) (n + 2) (n + 3) n (n + 1) l1 l2 := by
  constructor <;> (intro q; have q' : (_ : Nat) = _ := q; omega)
theorem ne_add3 {n b : Nat} (h : b < n) (e : b = n + 3) : False := by omega

theorem Tri.forZip (G : Gd prog w h₀ C.cls T mg mb) (rm : Rm (T.nd + 12) A) (hk : sc.kind = .function) (k : Nat) {elts : List Expr} {tk : Nat} {tp p cp : Pos} {e1 e2 : Expr} {body : List Stmt} {pos : Pos} {xs ys : List PV} {c : Prop} {post : PS → Fl → Prop}
    (hg : isGlob sc (Str.ofString "zip") = true)
    (e : evs (evP T sc k P) [e1, e2] = some ([.lst xs, .lst ys], c)) (hc : c) (J : Nat → PS → Prop) (hJ : J 0 P)
    (hbody : ∀ C' : Cx, C'.cls = C.cls → ∀ i P, i < min xs.length ys.length → J i P → ∃ P1, asgP sc (.Tuple elts tk tp) (.tup [xs.getD i .none, ys.getD i .none]) P = some P1 ∧ Tri prog w A C' L h₀ sc nm a cd body P1 fun P' f => (f = .next ∨ f = .cont) ∧ J (i + 1) P')
    (hpost : ∀ P', J (min xs.length ys.length) P' → post P' .next) : Tri prog w A C L h₀ sc nm a cd [.For (.Tuple elts tk tp) (.Call (.Name (Str.ofString "zip") p) [e1, e2] [] cp) body [] pos] P post :=
  fun ρ s Q E R h => by
    refine wpAny_execs_cons (wpAny_For (callType_ok (vs := [.lst xs, .lst ys]) (c := c) G rm hk k (by simp) hg e hc R fun us h1 tk1 K1 V1 => ?_) fun _ => rfl)
    cases V1 with
    | cons v1 v2 =>
      cases v2 with
      | cons v2 v3 =>
        cases v3
        cases v1 with
        | lst ha hn hv =>
          rename_i l1 vs
          cases v2 with
          | lst hb hm hu =>
            rename_i l2 us
            have R1 := R.keep K1
            have nn : ∀ d : Nat, h1.get? (h1.objs.size + d) = none := fun d => Heap.get?_none_of_le (by omega)
            have hl1 : l1 < h1.objs.size := by obtain ⟨o, ho, _⟩ := ha; exact Heap.lt_size ho
            have hl2 : l2 < h1.objs.size := by obtain ⟨o, ho, _⟩ := hb; exact Heap.lt_size ho
            refine call_zip_2 ha hb fun h2 z1 z2 z3 z4 z5 z6 K2 => wpAny_pyIter_zip z1 ?_
            have D : ZipApart (h1.objs.size + 4) (h1.objs.size + 2) (h1.objs.size + 3) h1.objs.size (h1.objs.size + 1) l1 l2 := zipD _ _ _ hl1 hl2
            have K2' : Keep h1 h2 := K2
            have nf : ∀ b ∈ [h1.objs.size + 4, h1.objs.size + 2, h1.objs.size + 3, h1.objs.size, h1.objs.size + 1], h1.get? b = none := fun b m => by
              simp only [List.mem_cons, List.mem_nil_iff, or_false] at m
              rcases m with rfl | rfl | rfl | rfl | rfl
              · exact nn 4
              · exact nn 2
              · exact nn 3
              · exact nn 0
              · exact nn 1
            have hx : ∀ b ∈ (⟨C.cls, (h1.objs.size + 3) :: C.ex⟩ : Cx).ex, b ∈ C.ex ∨ h1.get? b = none := fun b m => (List.mem_cons.mp m).elim (fun q => .inr (by rw [q]; exact nn 3)) .inl
            have sn : ∀ b, h1.get? b = none → s.heap.get? b = none := fun b q => by
              cases e : s.heap.get? b with
              | none => rfl
              | some o => rw [K1 _ _ e] at q; cases q
            have fr : ∀ b, Free C ρ b → b < h1.objs.size → Free (⟨C.cls, (h1.objs.size + 3) :: C.ex⟩ : Cx) ρ b := fun b f lt => ⟨f.1, fun m => (List.mem_cons.mp m).elim (fun q => ne_add3 lt q) f.2⟩
            refine forGo (C := C) (C' := ⟨C.cls, (h1.objs.size + 3) :: C.ex⟩) G rm.hh hk rfl (Itr.zip rm.hh (xs := xs) (ys := ys) (vs := vs) (us := us) D fun b m => (new_facts R1 (nf b m)).2) J (fun _ _ _ => trivial) (hbody _ rfl) hpost h
              (K1.trans K2') (fun b m => sn b (nf b ?_)) (fun b m => (hx b m).imp id (sn b)) ⟨z1, z2, ⟨_, _, z3⟩, z4, z5, ha.at fun o e => K2' _ o e, hb.at fun o e => K2' _ o e, fr _ hn hl1, fr _ hm hl2, (VRs.strong (C := C) (C' := ⟨C.cls, (h1.objs.size + 3) :: C.ex⟩) rfl hx hv).keep K2', (VRs.strong (C := C) (C' := ⟨C.cls, (h1.objs.size + 3) :: C.ex⟩) rfl hx hu).keep K2', fun b m => (new_facts R1 (nf b m)).1⟩ hJ
              (R1.strong (nn 3) K2' (by rw [z3]; rfl)) fun s' q => q
            simp only [List.mem_cons, List.mem_nil_iff, or_false] at m ⊢
            rcases m with rfl | rfl | rfl | rfl <;> simp
end
end Mine

end
section
open PySem PySem.W PyProof.Rows PySem.Calls
set_option maxRecDepth 100000
namespace Mine

mutual
noncomputable def noMl : PV → Bool
  | .ml _ => false
  | .tup xs => noMls xs
  | .tok xs => noMls xs
  | .lst xs => noMls xs
  | _ => true
noncomputable def noMls : List PV → Bool
  | [] => true
  | x :: xs => noMl x && noMls xs
end
mutual
/-- the mutable lists are read off -/
noncomputable def fz (muts : List (List PV)) : PV → Option PV
  | .ml k => match muts[k]? with
    | some xs => if noMls xs then some (.lst xs) else none
    | none => none
  | .tup xs => match fzs muts xs with | some ys => some (.tup ys) | none => none
  | .tok xs => if noMls xs then some (.tok xs) else none
  | .lst xs => if noMls xs then some (.lst xs) else none
  | x => some x
noncomputable def fzs (muts : List (List PV)) : List PV → Option (List PV)
  | [] => some []
  | x :: xs => match fz muts x, fzs muts xs with | some y, some ys => some (y :: ys) | _, _ => none
end

section
variable {prog : Program} {w : World} {A : Around} {s : Shared} {C : Cx} {ρ : List Addr} {L : Addr} {h₀ h h' : Heap} {P : PS}

mutual
theorem VR.shift {C' : Cx} {ρ' : List Addr} (hc : C'.cls = C.cls) (hx : ∀ a, (h.get? a).isSome = true → Free C ρ a → Free C' ρ' a) : ∀ {x : PV} {v : Value}, VR C ρ h x v → noMl x = true → VR C' ρ' h x v
  | _, _, .none, _ => .none
  | _, _, .bool b, _ => .bool b
  | _, _, .int i t, _ => .int i t
  | _, _, .str x t, _ => .str x t
  | _, _, .tup ha hn hv, q => .tup ha (hx _ (by rw [ha]; rfl) hn) (VRs.shift hc hx hv (by simpa only [noMl] using q))
  | _, _, .tok ha hn hv, q => .tok (by rw [hc]; exact ha) (hx _ (by rw [ha]; rfl) hn) (VRs.shift hc hx hv (by simpa only [noMl] using q))
  | _, _, .lst ha hn hv, q => .lst ha (hx _ (by obtain ⟨o, ho, _⟩ := ha; rw [ho]; rfl) hn) (VRs.shift hc hx hv (by simpa only [noMl] using q))
theorem VRs.shift {C' : Cx} {ρ' : List Addr} (hc : C'.cls = C.cls) (hx : ∀ a, (h.get? a).isSome = true → Free C ρ a → Free C' ρ' a) : ∀ {xs : List PV} {vs : List Value}, VRs C ρ h xs vs → noMls xs = true → VRs C' ρ' h xs vs
  | _, _, .nil, _ => .nil
  | _, _, .cons a b, q => .cons (VR.shift hc hx a (by simp only [noMls, Bool.and_eq_true] at q; exact q.1)) (VRs.shift hc hx b (by simp only [noMls, Bool.and_eq_true] at q; exact q.2))
end

mutual
theorem VR.fz {muts : List (List PV)} (M : Mu h₀ C ρ muts h) {C' : Cx} {ρ' : List Addr} (hc : C'.cls = C.cls) (hx : ∀ a, (h.get? a).isSome = true → Free C ρ a → Free C' ρ' a) (hr : ∀ a ∈ ρ, Free C' ρ' a) :
    ∀ {x : PV} {v : Value} {y : PV}, VR C ρ h x v → fz muts x = some y → VR C' ρ' h y v
  | _, _, _, .none, e => by simp only [Mine.fz] at e; cases e; exact .none
  | _, _, _, .bool b, e => by simp only [Mine.fz] at e; cases e; exact .bool b
  | _, _, _, .int i t, e => by simp only [Mine.fz] at e; cases e; exact .int i t
  | _, _, _, .str x t, e => by simp only [Mine.fz] at e; cases e; exact .str x t
  | _, _, _, .tup (xs := xs) ha hn hv, e => by
    simp only [Mine.fz] at e
    cases q : fzs muts xs with
    | none => rw [q] at e; cases e
    | some ys =>
      rw [q] at e; cases e
      exact .tup ha (hx _ (by rw [ha]; rfl) hn) (VRs.fz M hc hx hr hv q)
  | _, _, _, .tok (xs := xs) ha hn hv, e => by
    simp only [Mine.fz] at e
    split at e
    · rename_i q
      cases e
      exact VR.shift hc hx (.tok ha hn hv) (by simp only [noMl]; exact q)
    · cases e
  | _, _, _, .lst (xs := xs) ha hn hv, e => by
    simp only [Mine.fz] at e
    split at e
    · rename_i q
      cases e
      exact VR.shift hc hx (.lst ha hn hv) (by simp only [noMl]; exact q)
    · cases e
  | _, _, _, .ml (k := k) ha, e => by
    simp only [Mine.fz] at e
    cases q : muts[k]? with
    | none => rw [q] at e; cases e
    | some xs =>
      rw [q] at e
      dsimp only at e
      split at e
      · rename_i q2
        cases e
        obtain ⟨a', vs, b, c, d⟩ := M.mu k xs q
        rw [ha] at b; cases b
        exact .lst c.isList (hr _ (List.mem_of_getElem? ha)) (VRs.shift hc hx d q2)
      · cases e
theorem VRs.fz {muts : List (List PV)} (M : Mu h₀ C ρ muts h) {C' : Cx} {ρ' : List Addr} (hc : C'.cls = C.cls) (hx : ∀ a, (h.get? a).isSome = true → Free C ρ a → Free C' ρ' a) (hr : ∀ a ∈ ρ, Free C' ρ' a) :
    ∀ {xs : List PV} {vs : List Value} {ys : List PV}, VRs C ρ h xs vs → fzs muts xs = some ys → VRs C' ρ' h ys vs
  | _, _, _, .nil, e => by simp only [Mine.fzs] at e; cases e; exact .nil
  | _, _, _, .cons (x := x) (xs := xs) a b, e => by
    simp only [Mine.fzs] at e
    cases q : fz muts x with
    | none => rw [q] at e; cases e
    | some y =>
      cases q' : fzs muts xs with
      | none => rw [q, q'] at e; cases e
      | some ys =>
        rw [q, q'] at e; cases e
        exact .cons (VR.fz M hc hx hr a q) (VRs.fz M hc hx hr b q')
end

theorem binds_ok : ∀ (ns : List Str) {vs : List PV} {us : List Value}, VRs C ρ h vs us → ∀ x, ((ns.zip vs).reverse.lookup x = none ∧ (ns.zip us).reverse.lookup x = none) ∨ ∃ v u, (ns.zip vs).reverse.lookup x = some v ∧ (ns.zip us).reverse.lookup x = some u ∧ VR C ρ h v u
  | [], _, _, _, x => .inl ⟨rfl, rfl⟩
  | n :: ns, _, _, .nil, x => .inl ⟨rfl, rfl⟩
  | n :: ns, _, _, .cons (x := v) (v := u) a b, x => by
    simp only [List.zip_cons_cons, List.reverse_cons, List.lookup_append]
    rcases binds_ok ns b x with ⟨h1, h2⟩ | ⟨v', u', h1, h2, h3⟩
    · rw [h1, h2]
      by_cases q : x = n
      · subst q
        right
        exact ⟨v, u, by simp [List.lookup], by simp [List.lookup], a⟩
      · left
        have : (x == n) = false := by simpa using q
        simp [List.lookup, this]
    · rw [h1, h2]
      exact .inr ⟨v', u', rfl, rfl, h3⟩

variable {T : Tb} {mg mb : Str → Option Value}

/-- a function of the program, as it stands in the heap -/
structure FnAt (h₀ : Heap) (mg : Str → Option Value) (name : Str) (params : Arguments) (body : List Stmt) (scope : Scope) (a : Addr) (cd : Value) : Prop where
  here : mg name = some (.ref a)
  obj : ∃ o pm doc, h₀.get? a = some o ∧ o.data = .func (Calls.docDef name params body scope pm cd doc)
  code : h₀.CodeRec cd name

theorem Rm.deeper {k : Nat} (r : Rm (k + 1) A) (env : Env) : Rm k (A.deeper env) :=
  ⟨r.hh, by have := r.depth; show A.depth + 1 + k < recursionLimit; omega, by have := r.units; show A.units + 3 + 8 * k + 128 < cLine; omega⟩

theorem fnCall {K : Addr} {name : Str} {params : Arguments} {body : List Stmt} {scope : Scope} {a : Addr} {cd : Value} {k : Nat} {vs : List PV} {v : PV} (hF : FnAt h₀ mg name params body scope a cd) (hlim : h₀.NoLimit)
    (hbind : ∀ pm doc (us : List Value), us.length = vs.length → bindArgs (Calls.docDef name params body scope pm cd doc) ⟨us, []⟩ = pure ((params.args.map (·.arg)).zip us))
    (hloc : ∀ us : List Value, us.length = vs.length → ∀ x ∈ (params.args.map (·.arg)).zip us, scope.names.lookup x.1 = some .local)
    (hco : scope.isCoroutine = false) (hgen : scope.isGenerator = false) (hk : scope.kind = .function) (hcell : ∀ x ∈ scope.names, x.2 ≠ .cell) (hno : noMls vs = true)
    (tri : ∀ (A : Around) (C : Cx) (L : Addr), Rm k A → C.cls = K → Tri prog w A C L h₀ scope name a cd body ⟨((params.args.map (·.arg)).zip vs).reverse, []⟩ fun P' f => ∃ v0, f = .ret v0 ∧ Mine.fz P'.muts v0 = some v)
    {us : List Value} {Q : Value → Shared → Prop} {E : Value → Shared → Prop} (rm : Rm (k + 1) A) (hk0 : Keep h₀ s.heap) (hsz : h₀.objs.size ≤ s.heap.objs.size) (hC : C.cls = K) (hd : ∀ a, Free C ρ a ∨ (s.heap.get? a).isSome = true) (hv : VRs C ρ s.heap vs us)
    (h : Out C ρ s v Q) : wpAny (model prog w) A (call (.ref a) us) Q E s := by
  obtain ⟨o, pm, doc, ho, hdata⟩ := hF.obj
  refine wpAny_call (call_plain_ret (by have := rm.depth; omega) (hk0 _ _ ho) hdata (hlim.keeps hk0) (hF.code.keeps hk0) (hbind pm doc us hv.length) (hloc us hv.length) (fun h₁ F => ?_) hco hgen hk hcell)
  have K1 : Keep s.heap h₁ := F.keep
  have hin : ∀ b, b ∈ ρ ++ C.ex → (s.heap.get? b).isSome = true := fun b m => (hd b).elim (fun f => (List.mem_append.mp m).elim (fun q => absurd q f.1) (fun q => absurd q f.2)) id
  have hfree : ∀ ρ'' b, Free ⟨K, ρ ++ C.ex⟩ ρ'' b → Free C ρ b := fun ρ'' b f => ⟨fun m => f.2 (List.mem_append_left _ m), fun m => f.2 (List.mem_append_right _ m)⟩
  have hv' : VRs ⟨K, ρ ++ C.ex⟩ [] h₁ vs us := (VRs.shift (C' := ⟨K, ρ ++ C.ex⟩) (ρ' := []) hC.symm (fun b _ f => ⟨fun m => (nomatch m), fun m => (List.mem_append.mp m).elim f.1 f.2⟩) hv hno).keep K1
  have R1 : Rl h₀ ⟨K, ρ ++ C.ex⟩ [] s.heap.objs.size ⟨((params.args.map (·.arg)).zip vs).reverse, []⟩ h₁ := by
    refine ⟨⟨rfl, fun j xs e => by simp at e, List.nodup_nil, fun b m => (nomatch m), fun b m => ?_⟩, ⟨_, ⟨F.ns, fun b o e => K1 b o (hk0 b o e), hsz⟩, fun x v e => ?_⟩, fun m => (nomatch m)⟩
    · obtain ⟨o, e⟩ := Option.isSome_iff_exists.mp (hin b m)
      rw [K1 b o e]; rfl
    · rcases binds_ok (params.args.map (·.arg)) hv' x with ⟨h1, _⟩ | ⟨v', u', h1, h2, h3⟩
      · rw [h1] at e; cases e
      · rw [h1] at e; cases e
        exact ⟨u', h2, h3⟩
  refine tri _ _ _ (rm.deeper _) rfl [] { s with heap := h₁, toks := s.toks + ((params.args.map (·.arg)).zip us).length } _ _ R1 fun P' f hf fl h' tk ρ'' R2 S2 Pr2 F2 => ?_
  obtain ⟨v0, rfl, hz⟩ := hf
  cases F2 with
  | ret r =>
    have K2 : Keep s.heap h' := fun b o e => Pr2 b o (fun m => by
      rcases List.mem_cons.mp m with q | q
      · exact absurd (Heap.lt_size e) (by rw [q]; exact Nat.lt_irrefl _)
      · cases q) (K1 b o e)
    refine h _ h' tk K2 (VR.fz R2.toMu (C' := C) (ρ' := ρ) hC (fun b _ f => hfree _ _ f) (fun b m => ?_) r hz)
    rcases S2.new b m with q | q
    · cases q
    · rcases hd b with f | f
      · exact f
      · obtain ⟨o, e⟩ := Option.isSome_iff_exists.mp f
        rw [K1 b o e] at q; cases q
end
end Mine

end
section
open PySem PySem.W PyProof.Rows PySem.Calls
set_option maxRecDepth 100000
namespace Mine

/-- parts of a text -/
noncomputable def pos0 : Pos := ⟨0, 0, 0, 0⟩
noncomputable def nth (l : List Stmt) (n : Nat) : Stmt := l.getD n (.Pass pos0)
noncomputable def ifT : Stmt → Expr | .If t _ _ _ => t | _ => .Constant .none 0 pos0
noncomputable def ifB : Stmt → List Stmt | .If _ b _ _ => b | _ => []
noncomputable def ifO : Stmt → List Stmt | .If _ _ o _ => o | _ => []
noncomputable def ifP : Stmt → Pos | .If _ _ _ p => p | _ => pos0
noncomputable def forT : Stmt → Expr | .For t _ _ _ _ => t | _ => .Constant .none 0 pos0
noncomputable def forI : Stmt → Expr | .For _ i _ _ _ => i | _ => .Constant .none 0 pos0
noncomputable def forB : Stmt → List Stmt | .For _ _ b _ _ => b | _ => []
noncomputable def forP : Stmt → Pos | .For _ _ _ _ p => p | _ => pos0
noncomputable def argN : Expr → Nat → Expr | .Call _ args _ _, n => args.getD n (.Constant .none 0 pos0) | _, _ => .Constant .none 0 pos0
noncomputable def callP' : Expr → Pos | .Call _ _ _ p => p | _ => pos0
noncomputable def funP : Expr → Pos | .Call f _ _ _ => f.pos | _ => pos0
noncomputable def tupE : Expr → List Expr | .Tuple es _ _ => es | _ => []
noncomputable def tupK : Expr → Nat | .Tuple _ k _ => k | _ => 0
noncomputable def asgV : Stmt → Expr | .Assign _ v _ => v | _ => .Constant .none 0 pos0
noncomputable def asgT : Stmt → List Expr | .Assign t _ _ => t | _ => []
noncomputable def stP : Stmt → Pos | .Assign _ _ p => p | .Return _ p => p | .Expr _ p => p | _ => pos0
noncomputable def retE : Stmt → Expr | .Return (some e) _ => e | _ => .Constant .none 0 pos0

section
variable {prog : Program} {w : World} {A : Around} {s : Shared} {C : Cx} {ρ : List Addr} {L : Addr} {h₀ h h' : Heap} {P : PS}
variable {sc : Scope} {nm : Str} {a : Addr} {cd : Value} {T : Tb} {mg mb : Str → Option Value}

theorem execs_append (x y : List Stmt) (env : Env) : execs (x ++ y) env = (do match ← execs x env with | .next => execs y env | f => pure f) := by
  induction x with
  | nil =>
    show execs y env = (pure Flow.next >>= fun f => _)
    rw [pure_bind]
  | cons st r ih =>
    show execs (st :: (r ++ y)) env = _
    have e : ∀ z, execs (st :: z) env = (do match ← exec st env with | .next => execs z env | f => pure f) := fun z => rfl
    rw [e, e, bind_assoc]
    refine congrArg (fun k => exec st env >>= k) (funext fun f => ?_)
    cases f with
    | next => exact ih
    | cont => show _ = (pure _ >>= _); rw [pure_bind]
    | brk => show _ = (pure _ >>= _); rw [pure_bind]
    | ret v => show _ = (pure _ >>= _); rw [pure_bind]

theorem Tri.append {x y : List Stmt} {post : PS → Fl → Prop} (t : Tri prog w A C L h₀ sc nm a cd x P fun P' f => (f = .next ∧ Tri prog w A C L h₀ sc nm a cd y P' post) ∨ (f ≠ .next ∧ post P' f)) : Tri prog w A C L h₀ sc nm a cd (x ++ y) P post :=
  fun ρ s Q E R h => by
    rw [execs_append]
    refine wpAny_bind (t ρ s (fun f s' => wpAny (model prog w) A (match f with | .next => execs y (envOf nm sc L a cd) | f => pure f) Q E s') E R fun P' f hpf fl h' tk ρ' R' S' Pr' F' => ?_)
    rcases hpf with ⟨rfl, t2⟩ | ⟨hne, hp⟩
    · cases F'
      exact t2 ρ' { s with heap := h', toks := tk } Q E R' fun P2 f2 hp2 fl2 h2 tk2 ρ2 R2 S2 Pr2 F2 => h P2 f2 hp2 fl2 h2 tk2 ρ2 R2 (S'.trans S2) (pres_trans S' Pr' Pr2) F2
    · cases F' with
      | next => exact absurd rfl hne
      | cont => exact wpAny_pure (h _ _ hp _ _ _ _ R' S' Pr' .cont)
      | ret r => exact wpAny_pure (h _ _ hp _ _ _ _ R' S' Pr' (.ret r))
theorem Tri.cut (n : Nat) {l : List Stmt} {post : PS → Fl → Prop} (t : Tri prog w A C L h₀ sc nm a cd (l.take n) P fun P' f => (f = .next ∧ Tri prog w A C L h₀ sc nm a cd (l.drop n) P' post) ∨ (f ≠ .next ∧ post P' f)) : Tri prog w A C L h₀ sc nm a cd l P post := by
  have := Tri.append t
  rwa [List.take_append_drop] at this
/-- a stretch without a branch, then the rest -/
theorem Tri.step (G : Gd prog w h₀ C.cls T mg mb) (rm : Rm (T.nd + 12) A) (hk : sc.kind = .function) (i : Nat) {l : List Stmt} {P' : PS} {c : Prop} {post : PS → Fl → Prop} (e : exsP T sc 20 20 P (l.take i) = some (P', .next, c)) (hc : c)
    (h : Tri prog w A C L h₀ sc nm a cd (l.drop i) P' post) : Tri prog w A C L h₀ sc nm a cd l P post :=
  Tri.cut i (Tri.run G rm hk 20 20 e hc (.inl ⟨rfl, h⟩))
theorem Tri.mono {sts : List Stmt} {post post' : PS → Fl → Prop} (t : Tri prog w A C L h₀ sc nm a cd sts P post) (h : ∀ P' f, post P' f → post' P' f) : Tri prog w A C L h₀ sc nm a cd sts P post' :=
  fun ρ s Q E R k => t ρ s Q E R fun P' f q => k P' f (h P' f q)

theorem Sub.of {x y : List (Str × PV)} {m : List (List PV)} (h : ∀ p ∈ x, y.lookup p.1 = some p.2) : Sub ⟨x, m⟩ ⟨y, m⟩ := ⟨rfl, fun k v e => by
  have : (k, v) ∈ x := by
    clear h
    induction x with
    | nil => simp at e
    | cons p r ih =>
      obtain ⟨k', v'⟩ := p
      by_cases q : k = k'
      · subst q
        simp [List.lookup] at e
        rw [e]; exact .head _
      · have q' : (k == k') = false := by simpa using q
        simp only [List.lookup, q'] at e
        exact .tail _ (ih e)
  exact h _ this⟩
theorem Sub.refl (P : PS) : Sub P P := ⟨rfl, fun _ _ e => e⟩
/-- the lookups of a list, one by one -/
noncomputable def Looked (y : List (Str × PV)) : List (Str × PV) → Prop
  | [] => True
  | p :: r => y.lookup p.1 = some p.2 ∧ Looked y r
theorem Sub.looked {x y : List (Str × PV)} {m : List (List PV)} (h : Looked y x) : Sub ⟨x, m⟩ ⟨y, m⟩ := Sub.of fun p hp => by
  induction x with
  | nil => cases hp
  | cons q r ih =>
    rcases List.mem_cons.mp hp with e | e
    · rw [e]; exact h.1
    · exact ih h.2 e
end
end Mine

end
section
open PySem PySem.W PyProof.Rows PySem.Calls
set_option maxRecDepth 100000
namespace Mine
section
variable {prog : Program} {w : World} {A : Around} {s : Shared} {C : Cx} {ρ : List Addr} {L : Addr} {h₀ h h' : Heap} {P : PS}
variable {sc : Scope} {nm : Str} {a : Addr} {cd : Value} {T : Tb} {mg mb : Str → Option Value}

/-- what an evaluation may do and answer -/
noncomputable abbrev VOut (C : Cx) (ρ : List Addr) (L : Addr) (h₀ : Heap) (s : Shared) (P' : PS) (v : PV) (Q : Value → Shared → Prop) : Prop :=
  ∀ u h' tk ρ', Rl h₀ C ρ' L P' h' → Step C ρ ρ' s.heap h' → Pres (L :: ρ) s.heap h' → VR C ρ' h' v u → Q u { s with heap := h', toks := tk }
noncomputable def EvTri (prog : Program) (w : World) (A : Around) (C : Cx) (L : Addr) (h₀ : Heap) (sc : Scope) (nm : Str) (a : Addr) (cd : Value) (e : Expr) (P : PS) (postv : PS → PV → Prop) : Prop :=
  ∀ (ρ : List Addr) (s : Shared) (Q : Value → Shared → Prop) (E : Value → Shared → Prop), Rl h₀ C ρ L P s.heap → (∀ P' v, postv P' v → VOut C ρ L h₀ s P' v Q) → wpAny (model prog w) A (eval e (envOf nm sc L a cd)) Q E s

theorem tri_exec {st : Stmt} {post : PS → Fl → Prop} (h : ∀ (ρ : List Addr) (s : Shared) (Q : Flow → Shared → Prop) (E : Value → Shared → Prop), Rl h₀ C ρ L P s.heap → (∀ P', post P' .next → ∀ h' tk ρ', Rl h₀ C ρ' L P' h' → Step C ρ ρ' s.heap h' → Pres (L :: ρ) s.heap h' → Q .next { s with heap := h', toks := tk }) →
    wpAny (model prog w) A (exec st (envOf nm sc L a cd)) Q E s) : Tri prog w A C L h₀ sc nm a cd [st] P post :=
  fun ρ s Q E R k => wpAny_execs_cons (h ρ s _ E R fun P' hp h' tk ρ' R' S' Pr' => wpAny_execs_nil (k P' .next hp .next h' tk ρ' R' S' Pr' .next))

theorem Tri.asgN (hk : sc.kind = .function) {x : Str} {xp pos : Pos} {e : Expr} {postv : PS → PV → Prop} {post : PS → Fl → Prop} (hx : isLoc sc x = true) (hc : noComp e = true) (he : EvTri prog w A C L h₀ sc nm a cd e P postv)
    (hp : ∀ P' v, postv P' v → post ⟨setv x v P'.vars, P'.muts⟩ .next) : Tri prog w A C L h₀ sc nm a cd [.Assign [.Name x xp] e pos] P post :=
  tri_exec fun ρ s Q E R k => by
    refine wpAny_Assign_Name ?_ (swapsWith_no hc _ _ _)
    refine he ρ s _ E R fun P' v hpv u h' tk ρ' R1 S1 Pr1 V1 => ?_
    exact store_ok (s := { s with heap := h', toks := tk }) hk hx R1 V1 fun h'' tk' R2 S2 Pr2 => k _ (hp P' v hpv) h'' tk' ρ' R2 (S1.trans S2) (pres_trans S1 Pr1 Pr2)

theorem Tri.asgT (hh : A.handled = none) (hk : sc.kind = .function) {es : List Expr} {kk : Nat} {tp pos : Pos} {e : Expr} {xs : List Str} {postv : PS → PV → Prop} {post : PS → Fl → Prop} (hn : tnames es = some xs) (hx : xs.all (isLoc sc) = true) (hc : noComp e = true) (hsw : swP sc es e = some none)
    (he : EvTri prog w A C L h₀ sc nm a cd e P postv) (hp : ∀ P' v, postv P' v → ∃ vs, v = .tup vs ∧ vs.length = xs.length ∧ post ⟨sets xs vs P'.vars, P'.muts⟩ .next) : Tri prog w A C L h₀ sc nm a cd [.Assign [.Tuple es kk tp] e pos] P post :=
  tri_exec fun ρ s Q E R k => by
    obtain ⟨st1, st2, st3⟩ := storesN_names (env := envOf nm sc L a cd) hn
    refine Assign_Tuple ?_ (swapsSole_no hc _ _ _) (swP_ok hsw)
    refine he ρ s _ E R fun P' v hpv u h' tk ρ' R1 S1 Pr1 V1 => ?_
    obtain ⟨vs, rfl, hlen, hp'⟩ := hp P' v hpv
    cases V1 with
    | tup ha hnm hv =>
      rename_i ta us
      refine assign_Tuple_tuple hh (items := us.toArray) ⟨_, ha, rfl, 0, rfl⟩ (by rw [st2, List.size_toArray, hv.length, hlen]) st3 fun h'' he => ?_
      have K2 : Keep h' h'' := keep_extBut he
      refine stores_ok (s := { s with heap := h'', toks := tk }) hk st1 hx hlen (R1.keep K2) (hv.keep K2) fun h3 tk3 R3 S3 Pr3 => ?_
      exact k _ hp' h3 tk3 ρ' R3 ((S1.trans (.of_keep K2)).trans S3) (pres_trans S1 Pr1 (pres_trans (C := C) (Step.of_keep (C := C) K2) (pres_keep K2) Pr3))

/-- a call of a function of the program -/
theorem EvTri.call (G : Gd prog w h₀ C.cls T mg mb) (rm : Rm (T.nd + 12) A) (hk : sc.kind = .function) {f : Str} {fa : Addr} {p cp : Pos} {args : List Expr} {vs : List PV} {c : Prop} {postv : PS → PV → Prop} (hg : isGlob sc f = true) (hm : mg f = some (.ref fa))
    (keeper : ∀ h, Keep h₀ h → ∃ kp, (kp = Keeper.frame ∨ kp = Keeper.machine ∨ kp = Keeper.boundFrame) ∧ Looks (model prog w) h (keeperOf (.ref fa)) kp) (e : evs (evP T sc 20 P) args = some (vs, c)) (hc : c)
    (hcall : ∀ (ρ : List Addr) (s : Shared) (us : List Value) (Q : Value → Shared → Prop) (E : Value → Shared → Prop), Rl h₀ C ρ L P s.heap → VRs C ρ s.heap vs us → (∀ P' v, postv P' v → VOut C ρ L h₀ s P' v Q) → wpAny (model prog w) A (PySem.call (.ref fa) us) Q E s) :
    EvTri prog w A C L h₀ sc nm a cd (.Call (.Name f p) args [] cp) P postv :=
  fun ρ s Q E R k => by
    rw [arm_eval_Call_Name']
    refine wpAny_bind ?_
    show wpAny _ _ _ (fun fv s₁ => wpAny (model prog w) A (callWith cp fv [] (backTo cp (starEach args (envOf nm sc L a cd))) []) Q E s₁) E s
    obtain ⟨h1, h2, h3⟩ := EV_ok (prog := prog) (w := w) (A := A) (C := C) (ρ := ρ) (L := L) (h₀ := h₀) (P := P) (nm := nm) (a := a) (cd := cd) G rm hk 20
    refine name_global G hk R hg hm (callWith_ok h1 h3 e hc R keeper fun us h' tk K hv => ?_)
    refine hcall ρ { s with heap := h', toks := tk } us Q E (R.keep K) hv fun P' v hp u h'' tk' ρ' R' S' Pr' V' => ?_
    exact k P' v hp u h'' tk' ρ' R' ((Step.of_keep K).trans S') (pres_trans (C := C) (Step.of_keep (C := C) K) (pres_keep K) Pr') V'

theorem vout_keep {v : PV} {Q : Value → Shared → Prop} (R : Rl h₀ C ρ L P s.heap) (h : VOut C ρ L h₀ s P v Q) : Out C ρ s v Q := fun u h' tk K r => h u h' tk ρ (R.keep K) (.of_keep K) (pres_keep K) r

/-- a call that shares the mutable lists -/
theorem callMut {name : Str} {params : Arguments} {body : List Stmt} {scope : Scope} {fa : Addr} {fcd : Value} {k : Nat} {vs : List PV} {postv : List (List PV) → PV → Prop} (hF : FnAt h₀ mg name params body scope fa fcd) (hlim : h₀.NoLimit)
    (hbind : ∀ pm doc (us : List Value), us.length = vs.length → bindArgs (Calls.docDef name params body scope pm fcd doc) ⟨us, []⟩ = pure ((params.args.map (·.arg)).zip us))
    (hloc : ∀ us : List Value, us.length = vs.length → ∀ x ∈ (params.args.map (·.arg)).zip us, scope.names.lookup x.1 = some .local)
    (hco : scope.isCoroutine = false) (hgen : scope.isGenerator = false) (hk : scope.kind = .function) (hcell : ∀ x ∈ scope.names, x.2 ≠ .cell)
    (tri : ∀ (A : Around) (L : Addr), Rm k A → Tri prog w A C L h₀ scope name fa fcd body ⟨((params.args.map (·.arg)).zip vs).reverse, P.muts⟩ fun P' f => ∃ v0, f = .ret v0 ∧ postv P'.muts v0)
    {us : List Value} {Q : Value → Shared → Prop} {E : Value → Shared → Prop} (rm : Rm (k + 1) A) (R : Rl h₀ C ρ L P s.heap) (hv : VRs C ρ s.heap vs us)
    (h : ∀ ms v, postv ms v → VOut C ρ L h₀ s ⟨P.vars, ms⟩ v Q) : wpAny (model prog w) A (PySem.call (.ref fa) us) Q E s := by
  obtain ⟨o, pm, doc, ho, hdata⟩ := hF.obj
  obtain ⟨m0, F0, hm0⟩ := id R.fr
  have hk0 : Keep h₀ s.heap := F0.keep
  refine wpAny_call (call_plain_ret (by have := rm.depth; omega) (hk0 _ _ ho) hdata (hlim.keeps hk0) (hF.code.keeps hk0) (hbind pm doc us hv.length) (hloc us hv.length) (fun h₁ F => ?_) hco hgen hk hcell)
  have K1 : Keep s.heap h₁ := F.keep
  have hv' : VRs C ρ h₁ vs us := hv.keep K1
  have hLnew : s.heap.get? s.heap.objs.size = none := Heap.get?_none_of_le (Nat.le_refl _)
  obtain ⟨n1, n2, n3, n4⟩ := new_facts R hLnew
  have R1 : Rl h₀ C ρ s.heap.objs.size ⟨((params.args.map (·.arg)).zip vs).reverse, P.muts⟩ h₁ := by
    refine ⟨R.toMu.keep K1, ⟨_, ⟨F.ns, fun b o e => K1 b o (hk0 b o e), Nat.le_trans F0.above (Nat.le_of_lt F0.ns.lt)⟩, fun x v e => ?_⟩, n1⟩
    rcases binds_ok (params.args.map (·.arg)) hv' x with ⟨h1, _⟩ | ⟨v', u', h1, h2, h3⟩
    · rw [h1] at e; cases e
    · rw [h1] at e; cases e
      exact ⟨u', h2, h3⟩
  refine tri _ _ (rm.deeper _) ρ { s with heap := h₁, toks := s.toks + ((params.args.map (·.arg)).zip us).length } _ _ R1 fun P' f hf fl h' tk ρ'' R2 S2 Pr2 F2 => ?_
  obtain ⟨v0, rfl, hp⟩ := hf
  cases F2 with
  | ret r =>
    have S : Step C ρ ρ'' s.heap h' := (Step.of_keep K1).trans S2
    have Pr : Pres ρ s.heap h' := fun b o n e => Pr2 b o (fun m => by
      rcases List.mem_cons.mp m with q | q
      · rw [q, hLnew] at e; cases e
      · exact n q) (K1 b o e)
    have hL : L ∉ ρ := R.nL
    obtain ⟨oL, es, ep, hoL, hdL⟩ := F0.ns
    have hL' : L ∉ ρ'' := S.off' hoL hL
    refine h P'.muts v0 hp _ h' tk ρ'' ⟨R2.toMu, ⟨m0, ⟨F0.ns.at' fun o e => Pr _ o hL e, fun b o e => ?_, F0.above⟩, fun x v e => ?_⟩, hL'⟩ S (fun b o n e => Pr b o (fun m => n (.tail _ m)) e) r
    · exact Pr b o (fun m => by rw [R.off b m] at e; cases e) (hk0 b o e)
    · obtain ⟨u, e1, e2⟩ := hm0 x v e
      exact ⟨u, e1, e2.step S⟩
end
end Mine

end
section
open PySem PySem.W PyProof.Rows PySem.Calls
set_option maxRecDepth 100000
namespace Mine

/-- what the class of the tokens answers -/
structure TokCls (K : Frag) (C : Addr) : Prop where
  get : findIn K (.ref C) "__getitem__" = some (some (.builtin "tuple.__getitem__"))
  iter : findIn K (.ref C) "__iter__" = some (some (.builtin "tuple.__iter__"))
  tup : subIn K (.ref C) (.type "tuple") = some true
  deq : subIn K (.ref C) (.type "collections.deque") = some false

section
variable {prog : Program} {w : World} {A : Around} {E : Value → Shared → Prop} {s : Shared} {K : Frag} {C a d : Addr} {vs : List Value}

theorem tok_type {M : Model} {h : Heap} (ha : h.get? a = some (tokO C d vs)) : Looks M h (typeOf (.ref a)) (.ref C) := (Looks.ld ha).andThen .now
theorem tok_special {M : Model} {h : Heap} (X : K.In h) (ha : h.get? a = some (tokO C d vs)) {name : Str} {r : Option Value} (e : findIn K (.ref C) name = some r) : Looks M h (specialOf (.ref a) name) r :=
  (tok_type ha).andThen (looks_findIn X e)
theorem tok_inst {M : Model} {h : Heap} (X : K.In h) (ha : h.get? a = some (tokO C d vs)) {base : Value} {r : Bool} (e : subIn K (.ref C) base = some r) : Looks M h (isInstance (.ref a) base) r :=
  (tok_type ha).andThen (looks_subIn X e)

theorem tok_seq {Q : Array Value → Shared → Prop} (ha : s.heap.get? a = some (tokO C d vs)) (h : Q vs.toArray s) : wpAny (model prog w) A (Builtin.Tuple.tupleItemsOf (.ref a)) Q E s := by
  unfold Builtin.Tuple.tupleItemsOf
  exact wpAny_bind (wpAny_seqItems ha rfl (wpAny_pure h))

theorem call_tupget (X : K.In s.heap) (TC : TokCls K C) (ha : s.heap.get? a = some (tokO C d vs)) {k : Int} {u : Tok} {x : Value} (h0 : 0 ≤ k) (h1 : k < 2 ^ 63) (hx : vs[k.toNat]? = some x) {Q : Value → Shared → Prop} (h : Q x s) :
    wpAny (model prog w) A (call (.builtin "tuple.__getitem__") [.ref a, .int k u]) Q E s := by
  refine wpAny_call ?_
  refine codeAny_call_builtin slot_tuple_getitem.plain entry_tuple_getitem ?_
  refine @check_slot (model prog w) _ _ s "tuple.__getitem__" "tuple" "__getitem__" (.ref a) [.int k u] [] _ (by decide +kernel) (by decide +kernel) (tok_inst X ha TC.tup) (args_tuple_getitem _ _) ?_
  show wpAny _ _ (Builtin.Tuple.tupleItemsOf (.ref a) >>= _) _ _ s
  refine wpAny_bind (tok_seq ha ?_)
  refine wpAny_bind (wpAny_typeOf (typeIs_int s k u) ?_)
  rw [if_neg (by decide)]
  refine wpAny_bind (wpAny_specialOf (T := "int") (typeIs_int s k u) int_index ?_)
  rw [if_neg (by simp)]
  refine wpAny_bind (wpAny_of_eq (a := k) rfl ?_)
  rw [if_neg (by simp only [Bool.or_eq_true, decide_eq_true_eq]; omega)]
  have hlt : k.toNat < vs.length := by
    rcases Nat.lt_or_ge k.toNat vs.length with q | q
    · exact q
    · rw [List.getElem?_eq_none q] at hx; cases hx
  have hj : seqIndex? k vs.toArray.size = some k.toNat := by
    unfold seqIndex?
    simp only [List.size_toArray]
    first
      | (rw [if_neg (by omega)]; first | rfl | (rw [if_pos (by omega)]) | (simp; omega))
      | (simp; omega)
      | (split <;> simp <;> omega)
  simp only [hj, Option.bind_some, List.getElem?_toArray, hx]
  exact wpAny_pure h

theorem tok_item (X : K.In s.heap) (TC : TokCls K C) (ha : s.heap.get? a = some (tokO C d vs)) {k : Int} {u : Tok} {x : Value} {value slice : Expr} (hs : notSlice slice = true) (h0 : 0 ≤ k) (h1 : k < 2 ^ 63) (hx : vs[k.toNat]? = some x) {Q : Value → Shared → Prop} (h : Q x s) :
    wpAny (model prog w) A (subscriptTail value slice (.ref a) (.int k u)) Q E s := by
  unfold subscriptTail
  refine wpAny_bind ?_
  unfold getitemInPython
  refine wpAny_bind ((tok_special X ha TC.get).here ?_)
  refine wpAny_pure (wpAny_bind ?_)
  rw [subscripted_plain hs]
  refine wpAny_operating ?_
  have fin : wpAny (model prog w) A (getItem (.ref a) (.int k u)) (fun r s₃ => wpAny (model prog w) A (letTemporaryGo value (.ref a) r >>= fun _ => pure r) Q E s₃) E s := by
    unfold getItem
    refine wpAny_holding (wpAny_bind ?_)
    · unfold sequenceKey
      refine wpAny_bind ((tok_type ha).here ?_)
      show wpAny _ _ (seqItemTypes.anyM _ >>= _) _ _ _
      refine wpAny_bind ?_
      show wpAny _ _ (isSubtype (.ref C) (.type "collections.deque") >>= _) _ _ _
      refine wpAny_bind ((looks_subIn X TC.deq).here ?_)
      refine wpAny_pure ?_
      refine wpAny_pure ?_
      unfold callSpecial?
      refine wpAny_bind (wpAny_bind ((tok_special X ha TC.get).here (wpAny_holding (wpAny_bind ?_))))
      rw [slot_tuple_getitem.bind]
      refine wpAny_pure (wpAny_bind ?_)
      exact call_tupget X TC ha h0 h1 hx (wpAny_pure (wpAny_pure (wpAny_bind (wpAny_letTemporaryGo (wpAny_pure h)))))
  exact fin
end
end Mine

end
section
open PySem PySem.W PyProof.Rows PySem.Calls
set_option maxRecDepth 100000
namespace Mine
section
variable {prog : Program} {w : World} {A : Around} {E : Value → Shared → Prop} {s : Shared} {K : Frag} {C a d : Addr} {vs : List Value}

theorem tok_next_item {it : Addr} {i : Nat} {x : Value} {Q : Option Value → Shared → Prop} (hit : IsTupIter s.heap it a i) (ha : s.heap.get? a = some (tokO C d vs)) (hx : vs[i]? = some x)
    (hQ : ∀ h', IsTupIter h' it a (i + 1) → Heap.SameBut it s.heap h' → Q (some x) { s with heap := h' }) : wpAny (model prog w) A (pyNext (.ref it)) Q E s := by
  obtain ⟨o, ho, hc, hd⟩ := id hit
  unfold pyNext
  refine wpAny_bind (wpAny_attempt (wpAny_callSpecial?_slot (name := Str.ofString "__next__") hit.typeIs slot_tupleiter_next
    (wpAny_call_entry slot_tupleiter_next hit.typeIs entry_tupleiter_next ?_ (args_tupleiter_next _))))
  show wpAny _ _ (field (.ref it) 0 >>= _) _ _ s
  refine wpAny_bind (wpAny_field ho hd (x := .ref a) rfl ?_)
  show wpAny _ _ (if (Value.ref a == Value.none) = true then _ else _) _ _ s
  rw [if_neg (show ¬ ((Value.ref a == Value.none) = true) from Bool.false_ne_true)]
  show wpAny _ _ (field (.ref it) 1 >>= _) _ _ s
  refine wpAny_bind (wpAny_field ho hd (x := .int i 0) rfl ?_)
  show wpAny _ _ (seqItems? (.ref a) >>= _) _ _ s
  refine wpAny_bind (wpAny_seqItems ha rfl ?_)
  simp only [Int.toNat_natCast, List.getElem?_toArray, hx]
  refine wpAny_bind (wpAny_setField ho hd (by simp) (wpAny_pure ⟨x, rfl, wpAny_pure (hQ _ ?_ (Heap.SameBut.update ..))⟩))
  exact ⟨_, Heap.get?_update_self _ ho (Obj.isFreed_of_fields (Obj.data_mapFields hd _)), (Obj.cls_mapFields ..).trans hc, by
    rw [Obj.data_mapFields hd]; simp [rawInt]⟩

theorem tok_next_end {it : Addr} {i : Nat} {Q : Option Value → Shared → Prop} (hh : A.handled = none) (hit : IsTupIter s.heap it a i) (ha : s.heap.get? a = some (tokO C d vs)) (hx : vs[i]? = none)
    (hQ : ∀ h', Heap.ExtBut it s.heap h' → Q none { s with heap := h' }) : wpAny (model prog w) A (pyNext (.ref it)) Q E s := by
  obtain ⟨o, ho, hc, hd⟩ := id hit
  unfold pyNext
  refine wpAny_bind (wpAny_attempt (wpAny_callSpecial?_slot (name := Str.ofString "__next__") hit.typeIs slot_tupleiter_next
    (wpAny_call_entry slot_tupleiter_next hit.typeIs entry_tupleiter_next ?_ (args_tupleiter_next _))))
  show wpAny _ _ (field (.ref it) 0 >>= _) _ _ s
  refine wpAny_bind (wpAny_field ho hd (x := .ref a) rfl ?_)
  show wpAny _ _ (if (Value.ref a == Value.none) = true then _ else _) _ _ s
  rw [if_neg (show ¬ ((Value.ref a == Value.none) = true) from Bool.false_ne_true)]
  show wpAny _ _ (field (.ref it) 1 >>= _) _ _ s
  refine wpAny_bind (wpAny_field ho hd (x := .int i 0) rfl ?_)
  show wpAny _ _ (seqItems? (.ref a) >>= _) _ _ s
  refine wpAny_bind (wpAny_seqItems ha rfl ?_)
  simp only [Int.toNat_natCast, List.getElem?_toArray, hx]
  refine wpAny_bind (wpAny_rule (wpAny_bind (wpAny_setField ho hd (by simp) ?_)))
  show wpAny _ _ (newExc (.type "StopIteration") [] >>= _) _ _ _
  refine wpAny_bind ?_
  simp only [newExc, newTuple]
  refine wpAny_bind (wpAny_newObj_type ?_ (by size_fits))
  refine wpAny_bind (m := firstArgMember _ _) (wpAny_of_eq (a := Value.none) (by first | rfl | (simp only [firstArgMember]; rfl)) ?_)
  refine wpAny_newObj_type ?_ (by size_fits)
  simp only [raiseNew]
  refine wpAny_bind (wpAny_handled ?_)
  first | rw [show A.in1.handled = none from hh] | rw [hh]
  refine wpAny_bind (wpAny_pure (wpAny_throw ?_))
  refine wpAny_bind (wpAny_isInstance (T := "StopIteration") (b := true) ⟨_, Heap.get?_push_size _ rfl, rfl⟩ isSubtype_stop ?_)
  exact wpAny_pure (hQ _ (((Heap.SameBut.update ..).extBut.push _).push _))

theorem tok_draw {it : Addr} (hne : a ≠ it) : ∀ (n i : Nat) (s : Shared) (Q : List Value → Shared → Prop), IsTupIter s.heap it a i → s.heap.get? a = some (tokO C d vs) → i + n ≤ vs.length →
    (∀ h', IsTupIter h' it a (i + n) → Heap.SameBut it s.heap h' → Q ((vs.drop i).take n) { s with heap := h' }) → wpAny (model prog w) A (draw (.ref it) n) Q E s
  | 0, i, s, Q, hit, _, _, hQ => by
    show wpAny _ _ (pure []) Q E s
    exact wpAny_pure (by simpa using hQ s.heap hit (Heap.SameBut.refl ..))
  | n + 1, i, s, Q, hit, ht, hle, hQ => by
    have hlt : i < vs.length := by omega
    show wpAny _ _ (pyNext (.ref it) >>= _) Q E s
    refine wpAny_bind (tok_next_item hit ht (x := vs[i]) (by simp [hlt]) fun h₁ hit₁ hs₁ => ?_)
    refine wpAny_bind (wpAny_holding (tok_draw hne n (i + 1) _ _ hit₁ ((hs₁.2 _ hne).trans ht) (by omega) fun h₂ hit₂ hs₂ => wpAny_pure ?_))
    have hd : vs.drop i = vs[i] :: vs.drop (i + 1) := by simp
    have := hQ h₂ (by rw [show i + (n + 1) = i + 1 + n by omega]; exact hit₂) (hs₁.trans hs₂)
    rw [hd, List.take_succ_cons] at this
    exact this

theorem tok_iter (X : K.In s.heap) (TC : TokCls K C) (ha : s.heap.get? a = some (tokO C d vs)) {Q : Value → Shared → Prop}
    (hQ : Q (.ref s.heap.objs.size) { s with heap := s.heap.push { cls := .type "tuple_iterator", data := .fields #[.ref a, .int 0 0] } }) : wpAny (model prog w) A (pyIter (.ref a)) Q E s := by
  unfold pyIter
  refine wpAny_bind ((tok_special X ha TC.iter).here ?_)
  show wpAny _ _ (callSpecialIfBoundUnlessNone? (.ref a) "__iter__" _ >>= _) Q E s
  refine wpAny_bind ?_
  simp only [callSpecialIfBoundUnlessNone?, bindSpecialIfBound?]
  refine wpAny_holding (wpAny_bind (wpAny_bind ((tok_special X ha TC.iter).here ?_)))
  simp only [slot_tuple_iter.bind]
  refine wpAny_bind (wpAny_askSetting (wpAny_ite ?_))
  have fin : ∀ refuse : Sem Value, wpAny (model prog w) A (if (Value.builtin "tuple.__iter__" == Value.none) = true then (refuse >>= fun v => pure (some v)) else (call (.builtin "tuple.__iter__") [.ref a] >>= fun v => pure (some v)))
      (fun r s₁ => wpAny (model prog w) A (match r with
        | some it => (do
            match ← specialOf it "__next__" with
            | none => rule "iter.non-iterator"; raiseError "TypeError" s!"iter() returned non-iterator of type '{← typeNameOf it}'"
            | some _ => pure it)
        | none => (do
            match ← bindSpecialIfBound? (.ref a) "__getitem__" with
            | none => rule "iter.not-iterable"; raiseError "TypeError" s!"'{← typeNameOf (.ref a)}' object is not iterable"
            | some _ => rule "iter.getitem-fallback"; newFields "iterator" [.ref a, ← mkInt 0])) Q E s₁) E s := fun refuse => by
    simp only [builtin_beq_none, Bool.false_eq_true, if_false]
    refine wpAny_bind ?_
    refine wpAny_call ?_
    refine codeAny_call_builtin slot_tuple_iter.plain entry_tuple_iter ?_
    refine @check_slot (model prog w) _ _ s "tuple.__iter__" "tuple" "__iter__" (.ref a) [] [] _ (by decide +kernel) (by decide +kernel) (tok_inst X ha TC.tup) (args_tuple_iter _) ?_
    show wpAny _ _ (do ret (← newFields "tuple_iterator" [.ref a, rawInt 0])) _ _ s
    refine wpAny_bind (wpAny_newObj_type (wpAny_pure ?_))
    refine wpAny_pure ?_
    refine wpAny_bind (wpAny_specialOf (T := "tuple_iterator") ⟨_, Heap.get?_push_size _ rfl, rfl⟩ slot_tupleiter_next.lookup (wpAny_pure hQ))
  split
  · exact wpAny_bind (wpAny_pure (wpAny_pure (fin _)))
  · exact wpAny_tryCatch (wpAny_bind (wpAny_pure (wpAny_pure (fin _))))

theorem tok_unpack (hh : A.handled = none) (X : K.In s.heap) (TC : TokCls K C) (ha : s.heap.get? a = some (tokO C d vs)) {n : Nat} (hn : vs.length = n) {Q : List Value → Shared → Prop}
    (hQ : ∀ h', Keep s.heap h' → Q vs { s with heap := h' }) : wpAny (model prog w) A (unpackItems (.ref a) n none) Q E s := by
  subst hn
  have hlt : a ≠ s.heap.objs.size := Nat.ne_of_lt (Heap.lt_size ha)
  unfold unpackItems
  refine wpAny_bind ?_
  unfold notIterableAtAll
  refine wpAny_bind ((tok_special X ha TC.iter).here ?_)
  refine wpAny_pure ?_
  simp only [Bool.false_eq_true, if_false]
  refine wpAny_bind (wpAny_holding (tok_iter X TC ha ?_))
  refine wpAny_bind (wpAny_holding (tok_draw hlt vs.length 0 _ _ ⟨_, Heap.get?_push_size _ rfl, rfl, rfl⟩ (Heap.get?_push_of_some _ ha) (by omega) fun h₁ hit₁ hs₁ => ?_))
  have hall : List.take vs.length (List.drop 0 vs) = vs := by rw [List.drop_zero]; exact List.take_of_length_le (Nat.le_refl _)
  rw [hall]
  rw [if_neg (by simp)]
  have ht₁ : h₁.get? a = some (tokO C d vs) := (hs₁.2 _ hlt).trans (Heap.get?_push_of_some _ ha)
  refine wpAny_bind (wpAny_holding (tok_next_end hh hit₁ ht₁ (by simp) fun h₂ he₂ => ?_))
  simp only [Option.isSome_none, Bool.false_eq_true, if_false]
  refine wpAny_pure (hQ h₂ fun b o e => ?_)
  have hb : b ≠ s.heap.objs.size := Nat.ne_of_lt (Heap.lt_size e)
  exact he₂ b o hb ((hs₁.2 _ hb).trans (Heap.get?_push_of_some _ e))
end
end Mine

end
section
open PySem PySem.W PyProof.Rows PySem.Calls PySem.W.X
set_option maxRecDepth 100000
namespace Mine
section
variable {prog : Program} {w : World} {A : Around} {c : Code} {fs : List PySem.Frame} {s : Shared} {P : End → Shared → Prop} {env : Env} {K : Flow → Sem Fin} {H : Value → Sem Fin} {gd : Bool → Bool} {lv : List Value → List Value}

theorem x_wrap {α : Type} {m : Sem α} {K : α → Sem Fin} (h : wpAny (model prog w) (A.over c fs) m (fun a s' => SegX (model prog w) A c (K a) fs s' P) (fun x s' => SegX (model prog w) A c (H x) fs s' P) s) :
    SegX (model prog w) A c (m.wrap K H gd lv) fs s P := by
  rintro Γ p rfl hΓ
  obtain ⟨e, s', hr, hq⟩ := runs_wrap_of_wp (Φ := fun e s' => e.quiet = true ∧ P e s') K H gd lv m (h (Γ.over fs) p (hΓ.over fs)) (fun a p' s' h' => h' Γ p' rfl hΓ) (fun x p' s' h' => h' Γ p' rfl hΓ)
  exact ⟨e, s', hr, hq⟩
theorem x_at {p' : Pos} {k : Unit → Sem Fin} (h : SegX (model prog w) A c (k ()) fs s P) : SegX (model prog w) A c (.at p' k) fs s P :=
  x_wrap (m := standAt p') (K := k) (H := .raise) (gd := id) (lv := id) (wpAny_standAt h)
theorem x_point {l : List Value} {k : Unit → Sem Fin} (h : SegX (model prog w) A c (k ()) fs s P) : SegX (model prog w) A c (.point l k) fs s P :=
  x_wrap (m := point) (K := k) (H := .raise) (gd := id) (lv := fun _ => l) (wpAny_point h)

theorem x_cons {st : Stmt} {r : List Stmt} (h : SegX (model prog w) A c ((exec st env).wrap (fun f => match f with | .next => (execs r env).wrap K H gd lv | f => K f) H gd lv) fs s P) :
    SegX (model prog w) A c ((execs (st :: r) env).wrap K H gd lv) fs s P := by rw [execs_cons_wrap]; exact h
theorem append_wrap (x y : List Stmt) : (execs (x ++ y) env).wrap K H gd lv = (execs x env).wrap (fun f => match f with | .next => (execs y env).wrap K H gd lv | f => K f) H gd lv := by
  rw [execs_append, Sem.bind_eq_wrap', Sem.wrap_wrap]
  exact Sem.wrap_congr _ _ _ (fun f => by cases f <;> rfl) (fun _ => rfl)
theorem x_append {x y : List Stmt} (h : wpAny (model prog w) (A.over c fs) (execs x env) (fun f s' => SegX (model prog w) A c (match f with | .next => (execs y env).wrap K H gd lv | f => K f) fs s' P) (fun e s' => SegX (model prog w) A c (H e) fs s' P) s) :
    SegX (model prog w) A c ((execs (x ++ y) env).wrap K H gd lv) fs s P := by
  rw [append_wrap]
  exact x_wrap h

theorem x_yield {e : PySem.Expr} {ypos pos : Pos} (hfs : splitAtGen fs = none) (hgd : gd false = false) (hfg : fs.any Frame.guarded = false)
    (h : wpAny (model prog w) (A.over c fs) (eval e env) (fun v s' => ∀ k l p, k (.send .none) = K .next → P (.susp v false l k c p fs) s') (fun x s' => SegX (model prog w) A c (H x) fs s' P) s)
    (hco : env.scope.isCoroutine = false := by rfl) (hi : interactive env = false := by rfl) :
    SegX (model prog w) A c ((exec (.Expr (.Yield (some e) ypos) pos) env).wrap K H gd lv) fs s P := by
  rw [exec_Expr env _ pos hi rfl]
  show SegX (model prog w) A c (.at pos fun _ => ((eval e env >>= fun v => (standAt ypos >>= fun _ => yieldOut env v)) >>= fun x => dropValue (.Yield (some e) ypos) pos x).wrap K H gd lv) fs s P
  have hy : ∀ v, yieldOut env v = yieldValue v := fun v => by simp only [yieldOut, hco, Bool.false_eq_true, if_false]
  simp only [hy]
  refine x_at ?_
  rw [Sem.bind_eq_wrap', Sem.bind_eq_wrap', Sem.wrap_wrap, Sem.wrap_wrap]
  refine x_wrap (wpAny_mono h (fun v s' h' => ?_) fun _ _ x => x)
  refine x_at ?_
  show SegX (model prog w) A c (.yield v (gd false) _ _) fs s' P
  rw [hgd]
  exact s_yield prog w A c fs P s' v _ _ hfs hfg fun p => h' _ _ p rfl

theorem x_If {t : PySem.Expr} {b o r : List Stmt} {pos : Pos} (h : wpAny (model prog w) (A.over c fs) (isTrue t env (eval t env)) (fun v s' => SegX (model prog w) A c ((execs ((if v = true then b else o) ++ r) env).wrap K H gd lv) fs s' P) (fun x s' => SegX (model prog w) A c (H x) fs s' P) s) :
    SegX (model prog w) A c ((execs (.If t b o pos :: r) env).wrap K H gd lv) fs s P := by
  refine x_cons ?_
  show SegX (model prog w) A c (.at pos fun _ => (isTrue t env (eval t env) >>= fun q => if q = true then execs b env else execs o env).wrap _ H gd lv) fs s P
  refine x_at ?_
  rw [Sem.bind_eq_wrap', Sem.wrap_wrap]
  refine x_wrap (wpAny_mono h (fun v s' h' => ?_) fun _ _ x => x)
  cases v with
  | true => simp only [if_true] at h' ⊢; rw [append_wrap] at h'; exact h'
  | false => simp only [Bool.false_eq_true, if_false] at h' ⊢; rw [append_wrap] at h'; exact h'

/-- a loop, entered -/
theorem x_For {target iter : PySem.Expr} {body : List Stmt} {pos : Pos} {r : List Stmt} (hs : ∀ x, foldedSetIterable iter env x = pure x) (hgd : gd false = false)
    (h : wpAny (model prog w) (A.over c fs) (eval iter env) (fun x s₁ => wpAny (model prog w) (A.over c fs) (pyIter x) (fun it s₂ => ∀ k l p, k (.ok .next) = (execs r env).wrap K H gd lv →
      SegX (model prog w) A (.forLoop target it body [] env) (denote table (.forLoop target it body [] env)) (.ret k none false l c p [] :: fs) s₂ P) (fun x s' => SegX (model prog w) A c (H x) fs s' P) s₁) (fun x s' => SegX (model prog w) A c (H x) fs s' P) s) :
    SegX (model prog w) A c ((execs (.For target iter body [] pos :: r) env).wrap K H gd lv) fs s P := by
  refine x_cons ?_
  rw [exec_For]
  show SegX (model prog w) A c (.at pos fun _ => (eval iter env >>= fun x => foldedSetIterable iter env x >>= fun x => standAt iter.pos >>= fun _ => holding [x] (pyIter x) >>= fun it => runOwn (.forLoop target it body [] env) env).wrap _ H gd lv) fs s P
  refine x_at ?_
  rw [Sem.bind_eq_wrap', Sem.wrap_wrap]
  refine x_wrap (wpAny_mono h (fun x s₁ h₁ => ?_) fun _ _ x => x)
  rw [hs x]
  show SegX (model prog w) A c (.at iter.pos fun _ => (holding [x] (pyIter x) >>= fun it => runOwn (.forLoop target it body [] env) env).wrap _ H _ _) fs s₁ P
  refine x_at ?_
  rw [Sem.bind_eq_wrap', Sem.wrap_wrap]
  refine x_wrap (wpAny_holding (wpAny_mono h₁ (fun it s₂ h₂ => ?_) fun _ _ x => x))
  show SegX (model prog w) A c (.call (.forLoop target it body [] env) none (gd false) _ _) fs s₂ P
  rw [hgd]
  refine s_call prog w A c fs P s₂ _ none false _ _ fun p => h₂ _ _ p rfl

/-- a turn of a loop -/
theorem x_turn {target : PySem.Expr} {it : Value} {body : List Stmt}
    (h : wpAny (model prog w) (A.over (.forLoop target it body [] env) fs) (pyNext it) (fun r s₁ => match r with
      | none => SegX (model prog w) A (.forLoop target it body [] env) (.pure (.again (.block [] env))) fs s₁ P
      | some v => wpAny (model prog w) (A.over (.forLoop target it body [] env) fs) (letOwnedTupleGo target it v) (fun _ s₂ => wpAny (model prog w) (A.over (.forLoop target it body [] env) fs) (assign target env v) (fun _ s₃ =>
          SegX (model prog w) A (.forLoop target it body [] env) ((execs body env).wrap (fun f => match f with
            | .next | .cont => .pure (.again (.forLoop target it body [] env))
            | .brk => .pure (.done .next)
            | .ret v => .pure (.done (.ret v))) (fun e => (do noteFrame e env; theTreesLotGoes e : Sem Unit).wrap (fun _ => .raise e) .raise id id) id id) fs s₃ P) (fun _ _ => False) s₂) (fun _ _ => False) s₁) (fun _ _ => False) s) :
    SegX (model prog w) A (.forLoop target it body [] env) (denote table (.forLoop target it body [] env)) fs s P := by
  show SegX _ A _ ((forTurn target it body [] env).onRaise (fun x => do noteFrame x env; theTreesLotGoes x)) fs s P
  unfold forTurn
  rw [Sem.onRaise_eq_wrap]
  refine x_at ?_
  show SegX _ A _ (Sem.wrap _ _ _ _ ((pyNext it).onRaise _ >>= _)) fs s P
  rw [Sem.bind_eq_wrap', Sem.wrap_wrap]
  refine x_wrap (wpAny_onRaise (wpAny_mono h (fun r s₁ h₁ => ?_) fun _ _ x => x.elim))
  cases r with
  | none => exact h₁
  | some v =>
    show SegX _ A _ (Sem.wrap _ _ _ _ (letOwnedTupleGo target it v >>= _)) fs s₁ P
    rw [Sem.bind_eq_wrap', Sem.wrap_wrap]
    refine x_wrap (wpAny_mono h₁ (fun _ s₂ h₂ => ?_) fun _ _ x => x.elim)
    show SegX _ A _ (Sem.wrap _ _ _ _ (assign target env v >>= _)) fs s₂ P
    rw [Sem.bind_eq_wrap', Sem.wrap_wrap]
    refine x_wrap (wpAny_mono h₂ (fun _ s₃ h₃ => ?_) fun _ _ x => x.elim)
    show SegX _ A _ (Sem.wrap _ _ _ _ (execs body env >>= _)) fs s₃ P
    rw [Sem.bind_eq_wrap', Sem.wrap_wrap]
    rw [Sem.wrap_congr (execs body env) _ _ (K' := fun f => match f with
            | .next | .cont => .pure (.again (.forLoop target it body [] env))
            | .brk => .pure (.done .next)
            | .ret v => .pure (.done (.ret v))) (H' := (fun e => (do noteFrame e env; theTreesLotGoes e : Sem Unit).wrap (fun _ => .raise e) .raise id id))
        (fun f => by cases f <;> rfl)
        (fun e => by first | exact Sem.bind_eq_wrap _ _ | (show (do noteFrame e env; theTreesLotGoes e : Sem Unit).bind (fun _ => .raise e) = _; rw [Sem.bind_eq_wrap]))]
    exact h₃

/-- the end of a loop -/
theorem x_loop_end {k : Result → Sem Fin} {hd : Option Value} {l : List Value} {c₁ : Code} {p₁ : Pos} (h : SegX (model prog w) A c₁ (k (.ok .next)) fs s P) :
    SegX (model prog w) A c (.pure (.again (.block [] env))) (.ret k hd false l c₁ p₁ [] :: fs) s P :=
  s_again prog w A c _ P s _ rfl (s_pop prog w A _ fs P s (.ok .next) _ rfl k hd false l c₁ p₁ [] h)

theorem x_func {body : List Stmt}
    (h : SegX (model prog w) A (.func body env) ((execs body env).wrap (fun f => .pure (.done (.ret (match f with | .ret v => v | _ => .none)))) (fun e => (leaving env e).wrap (fun _ => .raise e) .raise id id) id id) fs s P) :
    SegX (model prog w) A (.func body env) (denote table (.func body env)) fs s P := by
  show SegX _ A _ (.point [] fun _ => ((execs body env).onRaise (leaving env)) >>= _) fs s P
  refine x_point ?_
  rw [Sem.onRaise_eq_wrap, Sem.bind_eq_wrap', Sem.wrap_wrap]
  rw [Sem.wrap_congr (execs body env) _ _ (K' := fun f => .pure (.done (.ret (match f with | .ret v => v | _ => .none))))
    (H' := fun e => (leaving env e).wrap (fun _ => .raise e) .raise id id) (fun f => by cases f <;> rfl)
    (fun e => by rw [Sem.bind_eq_wrap, Sem.wrap_wrap]; rfl)]
  exact h
end
end Mine

end
section
open PySem PySem.W PyProof.Rows PySem.Calls PySem.W.X
set_option maxRecDepth 100000
namespace Mine
section
variable {prog : Program} {w : World} {A : Around} {s : Shared} {E : Value → Shared → Prop}

theorem resume_x {α : Type} {g : Nat} {gs : GenState} {l : List Value} {k : GenResult → Sem α} {Q : α → Shared → Prop} {c₀ : Code} {t₀ : Sem Fin} {fs₀ : List PySem.Frame} (hg : s.gens[g]? = some gs)
    (hgs : (gs = .fresh c₀ ∧ Resume.send .none = .send .none ∧ t₀ = denote table c₀ ∧ fs₀ = []) ∨ (∃ k₀ l₀ p₀ cl, gs = .suspended k₀ l₀ c₀ p₀ fs₀ cl ∧ t₀ = k₀ (.send .none)))
    (x : SegX (model prog w) A c₀ t₀ fs₀ (s.setGen g .running) (fun e s₁ => wpAny (model prog w) A (k e.result) Q E (s₁.setGen g e.genState))) :
    wpAny (model prog w) A (.resume g (.send .none) l k) Q E s :=
  fun Γ p hΓ => wake_any α prog w hg hgs (fun Γ => Γ.In A) (fun _ h => h) (x.mono fun _ _ h Γ p hΓ => h Γ p hΓ) Γ p hΓ

theorem next_gen {a : Addr} {g : Nat} {gs : GenState} {Q : Option Value → Shared → Prop} {c₀ : Code} {t₀ : Sem Fin} {fs₀ : List PySem.Frame} (hh : A.handled = none) (hl : s.heap.NoLimit) (hroom : A.depth < recursionLimit)
    (hg : s.heap.IsGen a g) (hgs : s.gens[g]? = some gs)
    (hst : (gs = .fresh c₀ ∧ t₀ = denote table c₀ ∧ fs₀ = []) ∨ (∃ k₀ l₀ p₀ cl, gs = .suspended k₀ l₀ c₀ p₀ fs₀ cl ∧ t₀ = k₀ (.send .none)))
    (x : SegX (model prog w) A.in1 c₀ t₀ fs₀ (s.setGen g .running) (fun e s₁ => match e with
      | .ret r => r = .ok (.ret .none) ∧ ∀ h', Keep s₁.heap h' → Q none { s₁.setGen g .finished with heap := h' }
      | .susp v gd l k c p fs => Q (some v) (s₁.setGen g (End.susp v gd l k c p fs).genState))) :
    wpAny (model prog w) A (pyNext (.ref a)) Q E s := by
  unfold pyNext
  refine wpAny_bind (wpAny_attempt (wpAny_callSpecial?_slot (name := Str.ofString "__next__") hg.typeIs slot_gen_next
    (wpAny_call_entry slot_gen_next hg.typeIs entry_gen_next ?_ (args_gen_next _))))
  show wpAny _ _ (Builtin.Generator.genWake (.ref a) (.send .none)) _ _ s
  unfold Builtin.Generator.genWake
  refine wpAny_bind (wpAny_holding (wpAny_genNumber hg (wpAny_bind (wpAny_genState hgs ?_))))
  have hst' : (gs = .fresh c₀ ∧ Resume.send .none = .send .none ∧ t₀ = denote table c₀ ∧ fs₀ = []) ∨ (∃ k₀ l₀ p₀ cl, gs = .suspended k₀ l₀ c₀ p₀ fs₀ cl ∧ t₀ = k₀ (.send .none)) :=
    hst.imp (fun h => ⟨h.1, rfl, h.2⟩) id
  cases gs with
  | running => rcases hst with ⟨q, _⟩ | ⟨_, _, _, _, q, _⟩ <;> cases q
  | finished => rcases hst with ⟨q, _⟩ | ⟨_, _, _, _, q, _⟩ <;> cases q
  | _ =>
    refine wpAny_bind (wpAny_roomToWake hl hroom ?_)
    show wpAny _ _ (.resume g (.send .none) [] _) _ _ s
    refine resume_x hgs hst' (x.mono fun e s₁ he => ?_)
    cases e with
    | ret r =>
      obtain ⟨rfl, hp⟩ := he
      show wpAny _ _ (newExc (.type "StopIteration") [] >>= _) _ _ _
      refine wpAny_bind ?_
      simp only [newExc, newTuple]
      refine wpAny_bind (wpAny_newObj_type ?_ (by size_fits))
      refine wpAny_bind (m := firstArgMember _ _) (wpAny_of_eq (a := Value.none) (by first | rfl | (simp only [firstArgMember]; rfl)) ?_)
      refine wpAny_newObj_type ?_ (by size_fits)
      simp only [raiseNew]
      refine wpAny_bind (wpAny_bind (wpAny_handled ?_))
      rw [show A.in1.handled = none from hh]
      refine wpAny_throw ?_
      refine wpAny_bind (wpAny_isInstance (T := "StopIteration") (b := true) ⟨_, Heap.get?_push_size _ rfl, rfl⟩ isSubtype_stop ?_)
      exact wpAny_pure (hp _ fun b o hb => Heap.get?_push_of_some _ (Heap.get?_push_of_some _ hb))
    | susp v gd l k c p fs => exact wpAny_pure ⟨v, rfl, wpAny_pure he⟩
end
end Mine

end
section
open PySem PySem.W PyProof.Rows PySem.Calls PySem.W.X
set_option maxRecDepth 100000
namespace Mine

mutual
/-- values that are made of tuples alone -/
inductive TV (h : Heap) : PV → Value → Prop
  | none : TV h .none .none
  | bool (b : Bool) : TV h (.bool b) (.bool b)
  | int (i : Int) (t : Tok) : TV h (.int i) (.int i t)
  | str (x : Str) (t : Tok) : TV h (.str x) (.str x t)
  | tup {xs : List PV} {a : Addr} {vs : List Value} (ha : h.get? a = some (tupO vs)) (hv : TVs h xs vs) : TV h (.tup xs) (.ref a)
inductive TVs (h : Heap) : List PV → List Value → Prop
  | nil : TVs h [] []
  | cons {x : PV} {v : Value} {xs : List PV} {vs : List Value} (hx : TV h x v) (hxs : TVs h xs vs) : TVs h (x :: xs) (v :: vs)
end
mutual
noncomputable def tupOnly : PV → Bool
  | .tup xs => tupOnlys xs
  | .tok _ => false
  | .lst _ => false
  | .ml _ => false
  | _ => true
noncomputable def tupOnlys : List PV → Bool
  | [] => true
  | x :: xs => tupOnly x && tupOnlys xs
end
theorem no_tok {xs : List PV} (q : tupOnly (.tok xs) = true) : False := by simp [tupOnly] at q
theorem no_lst {xs : List PV} (q : tupOnly (.lst xs) = true) : False := by simp [tupOnly] at q
theorem no_ml {k : Nat} (q : tupOnly (.ml k) = true) : False := by simp [tupOnly] at q
theorem on_tup {xs : List PV} (q : tupOnly (.tup xs) = true) : tupOnlys xs = true := by simpa only [tupOnly] using q
theorem on_cons {x : PV} {xs : List PV} (q : tupOnlys (x :: xs) = true) : tupOnly x = true ∧ tupOnlys xs = true := by simpa only [tupOnlys, Bool.and_eq_true] using q
mutual
theorem VR.tv {C : Cx} {ρ : List Addr} {h : Heap} : ∀ {x : PV} {v : Value}, VR C ρ h x v → tupOnly x = true → TV h x v
  | _, _, .none, _ => .none
  | _, _, .bool b, _ => .bool b
  | _, _, .int i t, _ => .int i t
  | _, _, .str x t, _ => .str x t
  | _, _, .tup ha _ hv, q => .tup ha (VRs.tv hv (on_tup q))
  | _, _, .tok _ _ _, q => (no_tok q).elim
  | _, _, .lst _ _ _, q => (no_lst q).elim
  | _, _, .ml _, q => (no_ml q).elim
theorem VRs.tv {C : Cx} {ρ : List Addr} {h : Heap} : ∀ {xs : List PV} {vs : List Value}, VRs C ρ h xs vs → tupOnlys xs = true → TVs h xs vs
  | _, _, .nil, _ => .nil
  | _, _, .cons a b, q => .cons (VR.tv a (on_cons q).1) (VRs.tv b (on_cons q).2)
end
mutual
theorem TV.keep {h h' : Heap} (k : ∀ b vs, h.get? b = some (tupO vs) → h'.get? b = some (tupO vs)) : ∀ {x : PV} {v : Value}, TV h x v → TV h' x v
  | _, _, .none => .none
  | _, _, .bool b => .bool b
  | _, _, .int i t => .int i t
  | _, _, .str x t => .str x t
  | _, _, .tup ha hv => .tup (k _ _ ha) (TVs.keep k hv)
theorem TVs.keep {h h' : Heap} (k : ∀ b vs, h.get? b = some (tupO vs) → h'.get? b = some (tupO vs)) : ∀ {xs : List PV} {vs : List Value}, TVs h xs vs → TVs h' xs vs
  | _, _, .nil => .nil
  | _, _, .cons a b => .cons (TV.keep k a) (TVs.keep k b)
end
mutual
theorem TV.reads {h : Heap} : ∀ {x : PV} {v : Value}, TV h x v → ∀ {d : PyData}, toP x = some d → ∃ as, Reads h v d as
  | _, _, .none, d, e => by simp only [toP, Option.some.injEq] at e; subst e; exact ⟨_, .none⟩
  | _, _, .bool b, d, e => by simp only [toP, Option.some.injEq] at e; subst e; exact ⟨_, .bool b⟩
  | _, _, .int i t, d, e => by simp only [toP, Option.some.injEq] at e; subst e; exact ⟨_, .int i t⟩
  | _, _, .str x t, d, e => by simp only [toP, Option.some.injEq] at e; subst e; exact ⟨_, .str x t⟩
  | _, _, .tup (xs := xs) ha hv, d, e => by
    simp only [toP] at e
    cases q : toPs xs with
    | none => rw [q] at e; cases e
    | some ds =>
      rw [q] at e; cases e
      obtain ⟨as, r⟩ := TVs.reads hv q
      exact ⟨as, .tuple ha rfl rfl r⟩
theorem TVs.reads {h : Heap} : ∀ {xs : List PV} {vs : List Value}, TVs h xs vs → ∀ {ds : List PyData}, toPs xs = some ds → ∃ as, ReadsAll h vs ds as
  | _, _, .nil, ds, e => by simp only [toPs, Option.some.injEq] at e; subst e; exact ⟨_, .nil⟩
  | _, _, .cons (x := x) (xs := xs) hx hxs, ds, e => by
    simp only [toPs] at e
    cases q : toP x with
    | none => rw [q] at e; cases e
    | some d =>
      cases q' : toPs xs with
      | none => rw [q, q'] at e; cases e
      | some ds' =>
        rw [q, q'] at e; cases e
        obtain ⟨as, r⟩ := TV.reads hx q
        obtain ⟨bs, r'⟩ := TVs.reads hxs q'
        exact ⟨_, .cons r r'⟩
end
theorem TVs.snoc {h : Heap} : ∀ {xs : List PV} {vs : List Value} {x : PV} {v : Value}, TVs h xs vs → TV h x v → TVs h (xs ++ [x]) (vs ++ [v])
  | _, _, _, _, .nil, r => .cons r .nil
  | _, _, _, _, .cons a b, r => .cons a (b.snoc r)
theorem TVs.length {h : Heap} : ∀ {xs : List PV} {vs : List Value}, TVs h xs vs → vs.length = xs.length
  | _, _, .nil => rfl
  | _, _, .cons _ b => by simp [TVs.length b]

/-- what a run of the generator leaves as it was -/
noncomputable def Inv (hB : Heap) (L R : Addr) (h h' : Heap) : Prop := ∀ b o, h.get? b = some o → (((hB.get? b).isSome = true ∧ b ≠ L) ∨ b = R ∨ ∃ vs, o = tupO vs) → h'.get? b = some o
theorem Inv.refl {hB : Heap} {L R : Addr} (h : Heap) : Inv hB L R h h := fun _ _ e _ => e
theorem Inv.trans {hB : Heap} {L R : Addr} {a b c : Heap} (x : Inv hB L R a b) (y : Inv hB L R b c) : Inv hB L R a c := fun d o e q => y d o (x d o e q) q

section
variable {prog : Program} {w : World} {A : Around} {hB : Heap} {L R : Addr}

noncomputable def Only (s s' : Shared) : Prop := ∃ h tk, s' = { s with heap := h, toks := tk }
theorem Only.refl (s : Shared) : Only s s := ⟨s.heap, s.toks, rfl⟩
theorem Only.mk' (s : Shared) (h : Heap) (tk : Nat) : Only s { s with heap := h, toks := tk } := ⟨h, tk, rfl⟩
theorem Only.trans {a b c : Shared} (x : Only a b) (y : Only b c) : Only a c := by
  obtain ⟨h, t, rfl⟩ := x
  obtain ⟨h', t', rfl⟩ := y
  exact ⟨h', t', rfl⟩

/-- what is still to come -/
noncomputable def GPost (prog : Program) (w : World) (A : Around) (hB : Heap) (L R : Addr) : List PV → Shared → End → Shared → Prop
  | [], s₀, e, s₁ => e = .ret (.ok (.ret .none)) ∧ Inv hB L R s₀.heap s₁.heap ∧ Only s₀ s₁
  | o :: rest, s₀, e, s₁ => ∃ v k l c p fs, e = .susp v false l k c p fs ∧ Inv hB L R s₀.heap s₁.heap ∧ Only s₀ s₁ ∧ TV s₁.heap o v ∧
      ∀ s₂ : Shared, (∀ b o, b ≠ R → s₁.heap.get? b = some o → s₂.heap.get? b = some o) → (s₂.heap.get? R).isSome = true → SegX (model prog w) A c (k (.send .none)) fs s₂ (GPost prog w A hB L R rest s₂)
theorem GPost.from : ∀ {outs : List PV} {s₀ s : Shared} {e : End} {s₁ : Shared}, Inv hB L R s₀.heap s.heap → Only s₀ s → GPost prog w A hB L R outs s e s₁ → GPost prog w A hB L R outs s₀ e s₁
  | [], _, _, _, _, i, o, ⟨a, b, c⟩ => ⟨a, i.trans b, o.trans c⟩
  | _ :: _, _, _, _, _, i, o, ⟨v, k, l, c, p, fs, a, b, d, f⟩ => ⟨v, k, l, c, p, fs, a, i.trans b, o.trans d, f⟩

variable {h₀ : Heap} {C : Cx} {ρ : List Addr} {P : PS} {h h' : Heap}
/-- the generator's frame -/
structure GI (hB : Heap) (R : Addr) (h₀ : Heap) (C : Cx) (ρ : List Addr) (L : Addr) (P : PS) (h : Heap) : Prop where
  rl : Rl h₀ C ρ L P h
  fresh : ∀ a ∈ ρ, hB.get? a = none
  domB : ∀ b, (hB.get? b).isSome = true → (h.get? b).isSome = true
  inEx : R ∈ C.ex
  hR : R ∉ ρ
  hRL : R ≠ L
theorem GI.tupNe (G : GI hB R h₀ C ρ L P h) {b : Addr} {vs : List Value} (e : h.get? b = some (tupO vs)) : b ≠ L ∧ b ∉ ρ := by
  obtain ⟨m, F, _⟩ := G.rl.fr
  refine ⟨fun q => ?_, fun q => ?_⟩
  · obtain ⟨o, es, ep, ho, hd, _⟩ := F.ns
    rw [q, ho] at e; cases e; cases hd
  · obtain ⟨k, hk⟩ := List.mem_iff_getElem?.mp q
    have hl : k < ρ.length := by
      rcases Nat.lt_or_ge k ρ.length with q | q
      · exact q
      · rw [List.getElem?_eq_none q] at hk; cases hk
    rw [G.rl.len] at hl
    obtain ⟨a', vs', b', ⟨n, c⟩, _⟩ := G.rl.mu k _ (List.getElem?_eq_getElem hl)
    rw [hk] at b'; cases b'
    rw [c] at e
    have q := congrArg Obj.cls (Option.some.inj e)
    simp at q
theorem GI.step (G : GI hB R h₀ C ρ L P h) {ρ' : List Addr} {P' : PS} (rl : Rl h₀ C ρ' L P' h') (S : Step C ρ ρ' h h') (Pr : Pres (L :: ρ) h h') : GI hB R h₀ C ρ' L P' h' ∧ Inv hB L R h h' := by
  have hRin : (h.get? R).isSome = true := G.rl.exd R G.inEx
  obtain ⟨oR, eR⟩ := Option.isSome_iff_exists.mp hRin
  refine ⟨⟨rl, fun a m => ?_, fun b e => S.dom b (G.domB b e), G.inEx, S.off' eR G.hR, G.hRL⟩, fun b o e q => Pr b o (fun m => ?_) e⟩
  · rcases S.new a m with q | q
    · exact G.fresh a q
    · cases e : hB.get? a with
      | none => rfl
      | some o => have := G.domB a (by rw [e]; rfl); rw [q] at this; cases this
  · rcases q with ⟨q1, q2⟩ | q | ⟨vs, q⟩
    · rcases List.mem_cons.mp m with z | z
      · exact q2 z
      · rw [G.fresh b z] at q1; cases q1
    · subst q
      rcases List.mem_cons.mp m with z | z
      · exact G.hRL z
      · exact G.hR z
    · subst q
      rcases List.mem_cons.mp m with z | z
      · exact (G.tupNe e).1 z
      · exact (G.tupNe e).2 z
/-- the walk of the iterator -/
theorem GI.iter (G : GI hB R h₀ C ρ L P h) {I : Addr} (hIB : hB.get? I = none) (hIR : I ≠ R) (hf : ∃ o vs, h.get? I = some o ∧ o.data = .fields vs) (rl : Rl h₀ C ρ L P h') (Pr : Pres [I] h h') (hd : (h'.get? I).isSome = true ∨ True) : (∀ b, b ≠ I → (h.get? b).isSome = true → (h'.get? b).isSome = true) ∧ GI hB R h₀ C ρ L P h' ∧ Inv hB L R h h' := by
  have d : ∀ b, b ≠ I → (h.get? b).isSome = true → (h'.get? b).isSome = true := fun b n e => by
    obtain ⟨o, e⟩ := Option.isSome_iff_exists.mp e
    rw [Pr b o (fun m => n (List.mem_singleton.mp m)) e]; rfl
  refine ⟨d, ⟨rl, G.fresh, fun b e => d b (fun q => by rw [q, hIB] at e; cases e) (G.domB b e), G.inEx, G.hR, G.hRL⟩, fun b o e q => Pr b o (fun m => ?_) e⟩
  have m := List.mem_singleton.mp m
  subst m
  rcases q with ⟨q1, _⟩ | q | ⟨vs, q⟩
  · rw [hIB] at q1; cases q1
  · exact hIR q
  · obtain ⟨o', vs', e1, e2⟩ := hf
    rw [e] at e1; cases e1
    rw [q] at e2; cases e2
/-- the reader of the generator writes into its own list -/
theorem GI.ext (G : GI hB R h₀ C ρ L P h) (h0 : h₀.get? R = none) (k : ∀ b o, b ≠ R → h.get? b = some o → h'.get? b = some o) (hr : (h'.get? R).isSome = true) : GI hB R h₀ C ρ L P h' ∧ Step C ρ ρ h h' := by
  have S0 : Step0 C ρ ρ h h' := ⟨fun b o f _ e => k b o (fun q => f.2 (q ▸ G.inEx)) e, fun _ m => .inl m, fun _ _ e => e⟩
  have S : Step C ρ ρ h h' := ⟨S0, fun b e => by
    by_cases q : b = R
    · rw [q]; exact hr
    · obtain ⟨o, e⟩ := Option.isSome_iff_exists.mp e
      rw [k b o q e]; rfl⟩
  obtain ⟨o, e⟩ := Option.isSome_iff_exists.mp hr
  refine ⟨⟨G.rl.off1 (W := [R]) rfl (fun _ m => m) S0 (fun b m => ?_) (fun b o n e => k b o (fun q => n (by rw [q]; exact .head _)) e) (fun b _ m => ⟨o, by rw [List.mem_singleton.mp m]; exact e⟩), G.fresh, fun b e => S.dom b (G.domB b e), G.inEx, G.hR, G.hRL⟩, S⟩
  rw [List.mem_singleton.mp m]
  exact ⟨G.hR, G.hRL, h0⟩
end
end Mine

end
section
open PySem PySem.W PyProof.Rows PySem.Calls PySem.W.X
set_option maxRecDepth 100000
namespace Mine

theorem over_room {A : Around} {k : Nat} (r : Rm (k + 2) A) {target : PySem.Expr} {it : Value} {body fbody : List Stmt} {env : Env} {kk : Result → Sem Fin} {l : List Value} {p : Pos} :
    Rm k (A.over (.forLoop target it body [] env) [.ret kk none false l (.func fbody env) p []]) := by
  have h1 : (A.over (.forLoop target it body [] env) [.ret kk none false l (.func fbody env) p []]).handled = A.handled := by
    first | rfl | (cases hA : A.handled <;> simp [Around.over, marksOver, hA])
  have h2 : (A.over (.forLoop target it body [] env) [.ret kk none false l (.func fbody env) p []]).depth = A.depth + 1 := by
    first | rfl | simp [Around.over, frameCount, Frame.where_, Code.weight, Code.frames, Code.isCreation, Code.isGuard, Code.isCaller]
  have h3 : (A.over (.forLoop target it body [] env) [.ret kk none false l (.func fbody env) p []]).units = A.units + 3 := by
    first | rfl | simp [Around.over, unitsOf, Frame.where_, Code.cUnits, Code.frames]
  exact ⟨h1.trans r.hh, by rw [h2]; have := r.depth; omega, by rw [h3]; have := r.units; omega⟩
theorem func_room {A : Around} {k : Nat} (r : Rm (k + 2) A) {fbody : List Stmt} {env : Env} : Rm k (A.over (.func fbody env) []) := by
  have h1 : (A.over (.func fbody env) []).handled = A.handled := by
    first | rfl | (cases hA : A.handled <;> simp [Around.over, marksOver, hA])
  have h2 : (A.over (.func fbody env) []).depth = A.depth + 1 := by
    first | rfl | simp [Around.over, frameCount, Frame.where_, Code.weight, Code.frames, Code.isCreation, Code.isGuard, Code.isCaller]
  have h3 : (A.over (.func fbody env) []).units = A.units + 3 := by
    first | rfl | simp [Around.over, unitsOf, Frame.where_, Code.cUnits, Code.frames]
  exact ⟨h1.trans r.hh, by rw [h2]; have := r.depth; omega, by rw [h3]; have := r.units; omega⟩

section
variable {prog : Program} {w : World} {A : Around} {hB : Heap} {L R : Addr} {h₀ : Heap} {C : Cx} {T : Tb} {mg mb : Str → Option Value} {sc : Scope} {nm : Str} {a : Addr} {cd : Value}

/-- what stays the same through the generator's loop -/
structure GFix (prog : Program) (w : World) (A : Around) (hB : Heap) (L R : Addr) (h₀ : Heap) (C : Cx) (T : Tb) (mg mb : Str → Option Value) (sc : Scope) (nm : Str) (a : Addr) (cd : Value) (I l : Addr) (xs : List PV) (vs : List Value) : Prop where
  G : Gd prog w h₀ C.cls T mg mb
  room : Rm (T.nd + 14) A
  hk : sc.kind = .function
  hco : sc.isCoroutine = false
  hIL : I ≠ L
  hIR : I ≠ R
  hI0 : h₀.get? I = none
  hIB : hB.get? I = none
  hIX : I ∉ C.ex
  hR0 : h₀.get? R = none
  lR : l ≠ R

noncomputable def StL (C : Cx) (I l : Addr) (xs : List PV) (vs : List Value) (i : Nat) (ρ : List Addr) (h : Heap) : Prop := h.IsListIter I l i ∧ I ∉ ρ ∧ h.IsList l vs.toArray ∧ Free C ρ l ∧ VRs C ρ h xs vs

noncomputable abbrev gcode (sc : Scope) (nm : Str) (L a : Addr) (cd : Value) (target : PySem.Expr) (I : Addr) (body : List Stmt) : Code := .forLoop target (.ref I) body [] (envOf nm sc L a cd)
noncomputable abbrev gfs (sc : Scope) (nm : Str) (L a : Addr) (cd : Value) (fbody : List Stmt) (k : Result → Sem Fin) (lv : List Value) (p : Pos) : List PySem.Frame := [.ret k none false lv (.func fbody (envOf nm sc L a cd)) p []]
noncomputable abbrev gK (c : Code) : Flow → Sem Fin := fun f => match f with
            | .next | .cont => .pure (.again c)
            | .brk => .pure (.done .next)
            | .ret v => .pure (.done (.ret v))
noncomputable abbrev gH (env : Env) : Value → Sem Fin := fun e => (do noteFrame e env; theTreesLotGoes e : Sem Unit).wrap (fun _ => .raise e) .raise id id

/-- within a turn -/
noncomputable def GS (prog : Program) (w : World) (A : Around) (hB : Heap) (L R : Addr) (h₀ : Heap) (C : Cx) (sc : Scope) (nm : Str) (a : Addr) (cd : Value) (I l : Addr) (xs : List PV) (vs : List Value) (target : PySem.Expr) (body fbody : List Stmt) (k : Result → Sem Fin) (lv : List Value) (p : Pos)
    (i : Nat) (tail : List Stmt) (P : PS) (outs : List PV) : Prop :=
  ∀ (ρ : List Addr) (s : Shared), GI hB R h₀ C ρ L P s.heap → StL C I l xs vs i ρ s.heap →
    SegX (model prog w) A (gcode sc nm L a cd target I body) ((execs tail (envOf nm sc L a cd)).wrap (gK (gcode sc nm L a cd target I body)) (gH (envOf nm sc L a cd)) id id) (gfs sc nm L a cd fbody k lv p) s (GPost prog w A hB L R outs s)
/-- at the head of a turn -/
noncomputable def LT (prog : Program) (w : World) (A : Around) (hB : Heap) (L R : Addr) (h₀ : Heap) (C : Cx) (sc : Scope) (nm : Str) (a : Addr) (cd : Value) (I l : Addr) (xs : List PV) (vs : List Value) (target : PySem.Expr) (body fbody : List Stmt) (k : Result → Sem Fin) (lv : List Value) (p : Pos)
    (i : Nat) (P : PS) (outs : List PV) : Prop :=
  ∀ (ρ : List Addr) (s : Shared), GI hB R h₀ C ρ L P s.heap → StL C I l xs vs i ρ s.heap →
    SegX (model prog w) A (gcode sc nm L a cd target I body) (denote table (gcode sc nm L a cd target I body)) (gfs sc nm L a cd fbody k lv p) s (GPost prog w A hB L R outs s)

variable {I l : Addr} {xs : List PV} {vs : List Value} {target : PySem.Expr} {body fbody : List Stmt} {k : Result → Sem Fin} {lv : List Value} {p : Pos} {i : Nat} {P P' : PS} {outs : List PV}

theorem StL.stay {ρ ρ' : List Addr} {h h' : Heap} (hIL : I ≠ L) (st : StL C I l xs vs i ρ h) (S : Step C ρ ρ' h h') (Pr : Pres (L :: ρ) h h') : StL C I l xs vs i ρ' h' := by
  obtain ⟨h1, h2, h3, h4, h5⟩ := st
  obtain ⟨o, ho⟩ := listIter_here h1
  exact ⟨listIter_pres h1 Pr fun m => (List.mem_cons.mp m).elim hIL h2, S.off' ho h2, S.list h3 h4, S.listOff h3 h4, h5.step S⟩
theorem StL.ext {ρ : List Addr} {h h' : Heap} (hIR : I ≠ R) (st : StL C I l xs vs i ρ h) (S : Step C ρ ρ h h') (k : ∀ b o, b ≠ R → h.get? b = some o → h'.get? b = some o) : StL C I l xs vs i ρ h' := by
  obtain ⟨h1, h2, h3, h4, h5⟩ := st
  exact ⟨h1.at fun o e => k _ o hIR e, h2, S.list h3 h4, h4, h5.step S⟩


theorem GS.next (h : LT prog w A hB L R h₀ C sc nm a cd I l xs vs target body fbody k lv p i P outs) : GS prog w A hB L R h₀ C sc nm a cd I l xs vs target body fbody k lv p i [] P outs := fun ρ s G st =>
  s_again prog w A _ _ _ s (gcode sc nm L a cd target I body) rfl (h ρ s G st)
theorem GS.cont {q : Pos} {r : List Stmt} (h : LT prog w A hB L R h₀ C sc nm a cd I l xs vs target body fbody k lv p i P outs) : GS prog w A hB L R h₀ C sc nm a cd I l xs vs target body fbody k lv p i (.Continue q :: r) P outs := fun ρ s G st => by
  refine x_cons ?_
  show SegX _ A _ (.at q fun _ => (pure Flow.cont : Sem Flow).wrap _ _ id id) _ s _
  exact x_at (s_again prog w A _ _ _ s (gcode sc nm L a cd target I body) rfl (h ρ s G st))
theorem GS.sub {tail : List Stmt} (hs : Sub P' P) (h : GS prog w A hB L R h₀ C sc nm a cd I l xs vs target body fbody k lv p i tail P' outs) : GS prog w A hB L R h₀ C sc nm a cd I l xs vs target body fbody k lv p i tail P outs := fun ρ s G st =>
  h ρ s ⟨G.rl.sub hs, G.fresh, G.domB, G.inEx, G.hR, G.hRL⟩ st
theorem LT.sub (hs : Sub P' P) (h : LT prog w A hB L R h₀ C sc nm a cd I l xs vs target body fbody k lv p i P' outs) : LT prog w A hB L R h₀ C sc nm a cd I l xs vs target body fbody k lv p i P outs := fun ρ s G st =>
  h ρ s ⟨G.rl.sub hs, G.fresh, G.domB, G.inEx, G.hR, G.hRL⟩ st
theorem GS.run (F : GFix prog w A hB L R h₀ C T mg mb sc nm a cd I l xs vs) {x y : List Stmt} {c : Prop} (e : exsP T sc 20 20 P x = some (P', .next, c)) (hc : c) (h : GS prog w A hB L R h₀ C sc nm a cd I l xs vs target body fbody k lv p i y P' outs) : GS prog w A hB L R h₀ C sc nm a cd I l xs vs target body fbody k lv p i (x ++ y) P outs := fun ρ s G st => by
  refine x_append (exsP_ok F.G (over_room F.room) F.hk 20 20 e hc G.rl fun fl h' tk ρ' R' S' Pr' F' => ?_)
  cases F'
  obtain ⟨G', i'⟩ := G.step R' S' Pr'
  exact (h ρ' { s with heap := h', toks := tk } G' (st.stay F.hIL S' Pr')).mono fun _ _ q => GPost.from i' (Only.mk' s h' tk) q
theorem GS.if (F : GFix prog w A hB L R h₀ C T mg mb sc nm a cd I l xs vs) {t : PySem.Expr} {x y r : List Stmt} {pos : Pos} {b : Bool} {c : Prop} (e : tvP T sc 20 P t = some (b, c)) (hc : c) (h : GS prog w A hB L R h₀ C sc nm a cd I l xs vs target body fbody k lv p i ((if b = true then x else y) ++ r) P outs) : GS prog w A hB L R h₀ C sc nm a cd I l xs vs target body fbody k lv p i (.If t x y pos :: r) P outs := fun ρ s G st => by
  refine x_If (tvP_ok F.G (over_room F.room) F.hk 20 e hc G.rl fun h' tk K => ?_)
  obtain ⟨G', i'⟩ := G.step (G.rl.keep K) (.of_keep K) (pres_keep K)
  exact (h ρ { s with heap := h', toks := tk } G' (st.stay F.hIL (.of_keep K) (pres_keep K))).mono fun _ _ q => GPost.from i' (Only.mk' s h' tk) q
theorem GS.yield (F : GFix prog w A hB L R h₀ C T mg mb sc nm a cd I l xs vs) {e : PySem.Expr} {yp pos : Pos} {r : List Stmt} {v : PV} {c : Prop} (he : evP T sc 20 P e = some (v, c)) (hc : c) (ht : tupOnly v = true) (h : GS prog w A hB L R h₀ C sc nm a cd I l xs vs target body fbody k lv p i r P outs) : GS prog w A hB L R h₀ C sc nm a cd I l xs vs target body fbody k lv p i (.Expr (.Yield (some e) yp) pos :: r) P (v :: outs) := fun ρ s G st => by
  refine x_cons ?_
  have hint : interactive (envOf nm sc L a cd) = false := by
    unfold interactive
    show (sc.kind == .module && _) = false
    rw [F.hk]; rfl
  refine x_yield (by rfl) rfl (by rfl) ?_ F.hco hint
  refine evP_ok F.G (over_room F.room) F.hk 20 he hc G.rl fun u h' tk K r' => ?_
  intro kk l' p' hkk
  obtain ⟨G', i'⟩ := G.step (G.rl.keep K) (.of_keep K) (pres_keep K)
  refine ⟨u, kk, l', _, p', _, rfl, i', Only.mk' s h' tk, r'.tv ht, fun s₂ k2 hr => ?_⟩
  rw [hkk]
  obtain ⟨G2, S2⟩ := G'.ext F.hR0 k2 hr
  exact h ρ s₂ G2 ((st.stay F.hIL (.of_keep K) (pres_keep K)).ext F.hIR S2 k2)

theorem LT.turn (F : GFix prog w A hB L R h₀ C T mg mb sc nm a cd I l xs vs) {P1 : PS} (hi : i < xs.length) (ha : asgP sc target (xs.getD i .none) P = some P1) (h : GS prog w A hB L R h₀ C sc nm a cd I l xs vs target body fbody k lv p (i + 1) body P1 outs) : LT prog w A hB L R h₀ C sc nm a cd I l xs vs target body fbody k lv p i P outs := fun ρ s G st => by
  have rm : Rm (T.nd + 12) (A.over (gcode sc nm L a cd target I body) (gfs sc nm L a cd fbody k lv p)) := over_room F.room
  refine x_turn ?_
  have It := Itr.list (prog := prog) (w := w) (A := A.over (gcode sc nm L a cd target I body) (gfs sc nm L a cd fbody k lv p)) (h₀ := h₀) (C := C) (L := L) (a := l) (vs := vs) (xs := xs) (target := target) rm.hh F.hIL F.hI0 F.hIX
  refine wpAny_mono (It.item i ρ P s (fun v s₂ => wpAny (model prog w) (A.over (gcode sc nm L a cd target I body) (gfs sc nm L a cd fbody k lv p)) (assign target (envOf nm sc L a cd) v) (fun _ s₃ =>
          SegX (model prog w) A (gcode sc nm L a cd target I body) ((execs body (envOf nm sc L a cd)).wrap (gK (gcode sc nm L a cd target I body)) (gH (envOf nm sc L a cd)) id id) (gfs sc nm L a cd fbody k lv p) s₃ (GPost prog w A hB L R outs s)) (fun _ _ => False) s₂) (fun _ _ => False) hi trivial st G.rl ?_) ?_ fun _ _ e => e
  · intro u h2 tk2 R2 S2 Pr2 V2 St2
    obtain ⟨_, G2, i2⟩ := G.iter F.hIB F.hIR (listIter_fields st.1) R2 Pr2 (.inr trivial)
    refine asgP_ok (s := { s with heap := h2, toks := tk2 }) F.G rm.hh F.hk ha R2 V2 fun h3 tk3 R3 S3 Pr3 => ?_
    obtain ⟨G3, i3⟩ := G2.step R3 S3 Pr3
    exact (h ρ { s with heap := h3, toks := tk3 } G3 (StL.stay F.hIL St2 S3 Pr3)).mono fun _ _ q => GPost.from (i2.trans i3) (Only.mk' s h3 tk3) q
  · rintro r s₁ ⟨v, rfl, hv⟩
    exact hv
theorem LT.end (F : GFix prog w A hB L R h₀ C T mg mb sc nm a cd I l xs vs) (hk : k (.ok .next) = .pure (.done (.ret .none))) (hi : i = xs.length) : LT prog w A hB L R h₀ C sc nm a cd I l xs vs target body fbody k lv p i P [] := fun ρ s G st => by
  subst hi
  have rm : Rm (T.nd + 12) (A.over (gcode sc nm L a cd target I body) (gfs sc nm L a cd fbody k lv p)) := over_room F.room
  refine x_turn ?_
  have It := Itr.list (prog := prog) (w := w) (A := A.over (gcode sc nm L a cd target I body) (gfs sc nm L a cd fbody k lv p)) (h₀ := h₀) (C := C) (L := L) (a := l) (vs := vs) (xs := xs) (target := target) rm.hh F.hIL F.hI0 F.hIX
  refine wpAny_mono (It.done ρ P s (fun s₁ => SegX (model prog w) A (gcode sc nm L a cd target I body) (.pure (.again (.block [] (envOf nm sc L a cd)))) (gfs sc nm L a cd fbody k lv p) s₁ (GPost prog w A hB L R [] s)) (fun _ _ => False) trivial st G.rl ?_) ?_ fun _ _ e => e
  · intro h2 tk2 R2 S2 Pr2
    obtain ⟨_, G2, i2⟩ := G.iter F.hIB F.hIR (listIter_fields st.1) R2 Pr2 (.inr trivial)
    refine x_loop_end ?_
    rw [hk]
    exact s_end prog w A _ _ _ (.ok (.ret .none)) _ rfl ⟨rfl, i2, Only.mk' s h2 tk2⟩
  · rintro r s₁ ⟨rfl, hv⟩
    exact hv
end
end Mine

end
section
open PySem PySem.W PyProof.Rows PySem.Calls PySem.W.X
set_option maxRecDepth 100000
set_option maxHeartbeats 4000000
namespace Mine
section
variable {prog : Program} {w : World} {A : Around} {hB h₀ : Heap} {L R : Addr}

/-- the generator, as it waits -/
noncomputable def GoOn (prog : Program) (w : World) (A : Around) (hB : Heap) (L R : Addr) (rest : List PV) (gs : GenState) (h : Heap) : Prop :=
  ∃ c₀ t₀ fs₀, ((gs = .fresh c₀ ∧ t₀ = denote table c₀ ∧ fs₀ = []) ∨ (∃ k₀ l₀ p₀ cl, gs = .suspended k₀ l₀ c₀ p₀ fs₀ cl ∧ t₀ = k₀ (.send .none))) ∧
    ∀ s₂ : Shared, (∀ b o, b ≠ R → h.get? b = some o → s₂.heap.get? b = some o) → (s₂.heap.get? R).isSome = true → SegX (model prog w) A c₀ t₀ fs₀ s₂ (GPost prog w A hB L R rest s₂)
structure CI (prog : Program) (w : World) (A : Around) (hB : Heap) (L R : Addr) (g : Nat) (dn rest : List PV) (acc : Array Value) (c : Nat) (s : Shared) : Prop where
  lst : s.heap.get? R = some { cls := .type "list", dict := none, data := .seq acc c, slots := #[] }
  tvs : TVs s.heap dn acc.toList
  gen : ∃ gs, s.gens[g]? = some gs ∧ GoOn prog w A hB L R rest gs s.heap
  old : ∀ b o, hB.get? b = some o → b ≠ L → s.heap.get? b = some o

theorem gens_set {s : Shared} {g : Nat} {gs x : GenState} (h : s.gens[g]? = some gs) : (s.setGen g x).gens[g]? = some x := by
  have hl : g < s.gens.size := by
    rcases Nat.lt_or_ge g s.gens.size with q | q
    · exact q
    · rw [Array.getElem?_eq_none q] at h; cases h
  unfold Shared.setGen
  simp [hl]

/-- what the loop of list(generator) leaves -/
noncomputable def After (hB : Heap) (L R : Addr) (outs : List PV) (g : Nat) (s s' : Shared) : Prop :=
  ∃ acc c, s'.heap.get? R = some { cls := .type "list", dict := none, data := .seq acc c, slots := #[] } ∧ TVs s'.heap outs acc.toList ∧ (∀ b o, hB.get? b = some o → b ≠ L → s'.heap.get? b = some o) ∧
    ∃ h tk x, s' = { s with heap := h, toks := tk, gens := x } ∧ (∃ y, y = GenState.finished ∧ x = s.gens.setIfInBounds g y)

theorem extend_loop (hh : A.handled = none) (hroom : A.depth < recursionLimit) (h0B : ∀ b o, h₀.get? b = some o → hB.get? b = some o) (hL0 : h₀.get? L = none) (hlim : h₀.NoLimit) {ga : Addr} {g : Nat} (hg : hB.IsGen ga g) (hgL : ga ≠ L) (hRB : hB.get? R = none) (hRL : R ≠ L) {res : Value} {s₀ : Shared} :
    ∀ (rest dn : List PV) (s : Shared) (acc : Array Value) (c : Nat) (RR : Result → Shared → Prop), CI prog w A.in1.in1 hB L R g dn rest acc c s → dn.length + rest.length ≤ 1000 → (∃ h tk gs, s = { s₀ with heap := h, toks := tk, gens := s₀.gens.setIfInBounds g gs }) →
      (∀ s', After hB L R (dn ++ rest) g s₀ s' → RR (.ok (.ret res)) s') → codeAny (model prog w) A (.builtin "list.extend.loop" ⟨[.ref R, .ref ga, res], []⟩) RR s := by
  intro rest
  induction rest with
  | nil =>
    intro dn s acc c RR I hN hs hR
    obtain ⟨gs, hgs, c₀, t₀, fs₀, hst, hgo⟩ := I.gen
    have isg : s.heap.IsGen ga g := by
      obtain ⟨o, nm, qn, ho, r⟩ := hg
      exact ⟨o, nm, qn, I.old _ _ ho hgL, r⟩
    have nl : s.heap.NoLimit := hlim.keeps fun b o e => I.old b o (h0B b o e) (fun q => by rw [q, hL0] at e; cases e)
    refine codeAny_builtin F.entry_extend_loop ?_
    rw [Around.under_plainId F.plain_extend_loop _]
    show wpAny _ A.in1 (pyNext (.ref ga) >>= _) _ _ s
    refine wpAny_bind (next_gen (A := A.in1) hh nl hroom isg hgs hst ?_)
    have seg := hgo (s.setGen g .running) (fun b o _ e => e) (by show (s.heap.get? R).isSome = true; rw [I.lst]; rfl)
    refine seg.mono fun e s₁ he => ?_
    obtain ⟨rfl, hi, h1, tk1, rfl⟩ := he
    refine ⟨rfl, fun h' K => wpAny_pure (hR _ ?_)⟩
    obtain ⟨h2, tk2, gs2, rfl⟩ := hs
    have hi' : Inv hB L R h2 h1 := hi
    refine ⟨acc, c, K _ _ (hi' _ _ I.lst (.inr (.inl rfl))), ?_, fun b o e n => K _ _ (hi' _ _ (I.old b o e n) (.inl ⟨by rw [e]; rfl, n⟩)), h', tk1, _, rfl, .finished, rfl, ?_⟩
    · rw [List.append_nil]
      exact I.tvs.keep fun b vs e => K _ _ (hi' _ _ e (.inr (.inr ⟨vs, rfl⟩)))
    · show ((s₀.gens.setIfInBounds g gs2).setIfInBounds g .running).setIfInBounds g .finished = _
      simp [Array.setIfInBounds_setIfInBounds]
  | cons o rest ih =>
    intro dn s acc c RR I hN hs hR
    obtain ⟨gs, hgs, c₀, t₀, fs₀, hst, hgo⟩ := I.gen
    have isg : s.heap.IsGen ga g := by
      obtain ⟨o, nm, qn, ho, r⟩ := hg
      exact ⟨o, nm, qn, I.old _ _ ho hgL, r⟩
    have nl : s.heap.NoLimit := hlim.keeps fun b o e => I.old b o (h0B b o e) (fun q => by rw [q, hL0] at e; cases e)
    refine codeAny_builtin F.entry_extend_loop ?_
    rw [Around.under_plainId F.plain_extend_loop _]
    show wpAny _ A.in1 (pyNext (.ref ga) >>= _) _ _ s
    refine wpAny_bind (next_gen (A := A.in1) hh nl hroom isg hgs hst ?_)
    have seg := hgo (s.setGen g .running) (fun b o _ e => e) (by show (s.heap.get? R).isSome = true; rw [I.lst]; rfl)
    refine seg.mono fun e s₁ he => ?_
    obtain ⟨v, k, l, c1, p, fs, rfl, hi, ⟨h1, tk1, rfl⟩, tv, hnext⟩ := he
    obtain ⟨h2, tk2, gs2, rfl⟩ := hs
    have hi' : Inv hB L R h2 h1 := hi
    have hS : h1.get? R = some { cls := .type "list", dict := none, data := .seq acc c, slots := #[] } := hi' _ _ I.lst (.inr (.inl rfl))
    have hsz : acc.size = dn.length := by have := I.tvs.length; simpa using this
    have hsl : sizeLine = 16777216 := rfl
    rw [List.length_cons] at hN
    show wpAny _ A.in1 (updateSeq R (·.push v) >>= _) _ _ _
    refine wpAny_bind ?_
    have oth : ∀ b o, b ≠ R → h1.get? b = some o → (h1.update R (Obj.mapSeq (·.push v))).get? b = some o := fun b o n e => (Heap.get?_update_other _ _ (Ne.symm n)).trans e
    have tup : ∀ b vs, h1.get? b = some (tupO vs) → (h1.update R (Obj.mapSeq (·.push v))).get? b = some (tupO vs) := fun b vs e => oth b _ (fun q => by
      rw [q, hS] at e
      have q2 := congrArg Obj.cls (Option.some.inj e)
      simp at q2) e
    refine wpAny_updateSeq hS rfl (wpAny_pure ⟨plainId_quiet F.plain_extend_loop _, ih (dn ++ [o]) _ (acc.push v) _ RR ⟨Heap.get?_update_self _ hS rfl, ?_, ?_, fun b o e n => ?_⟩ (by rw [List.length_append]; show dn.length + 1 + rest.length ≤ 1000; omega) ?_ fun s' ha => hR s' ?_⟩) (by rw [hsz]; omega) (by show (acc.push v).size ≤ sizeLine + 1; rw [Array.size_push, hsz]; omega)
    · rw [Array.toList_push]
      exact TVs.snoc (TVs.keep (fun b vs e => tup b vs (hi' _ _ e (.inr (.inr ⟨vs, rfl⟩)))) I.tvs) (tv.keep tup)
    · refine ⟨(End.susp v false l k c1 p fs).genState, ?_, c1, _, fs, .inr ⟨k, l, p, _, rfl, rfl⟩, fun s₂ k2 hr => ?_⟩
      · have hlt : g < s₀.gens.size := by
          rcases Nat.lt_or_ge g s₀.gens.size with q | q
          · exact q
          · rw [Array.getElem?_eq_none (by simpa using q)] at hgs; cases hgs
        show (((s₀.gens.setIfInBounds g gs2).setIfInBounds g .running).setIfInBounds g _)[g]? = _
        simp [hlt]
      · exact hnext s₂ (fun b o n e => k2 b o n (oth b o n e)) hr
    · exact oth b o (fun q => by rw [q, hRB] at e; cases e) (hi' _ _ (I.old b o e n) (.inl ⟨by rw [e]; rfl, n⟩))
    · have eg : ((s₀.gens.setIfInBounds g gs2).setIfInBounds g .running).setIfInBounds g (End.susp v false l k c1 p fs).genState = s₀.gens.setIfInBounds g (End.susp v false l k c1 p fs).genState := by simp [Array.setIfInBounds_setIfInBounds]
      exact ⟨h1.update R (Obj.mapSeq (·.push v)), tk1, (End.susp v false l k c1 p fs).genState, congrArg (fun q => ({ s₀ with heap := h1.update R (Obj.mapSeq (·.push v)), toks := tk1, gens := q } : Shared)) eg⟩
    · rw [List.append_assoc] at ha
      exact ha
end
end Mine

end
section
open PySem PySem.W PyProof.Rows PySem.Calls PySem.W.X
set_option maxRecDepth 100000
set_option maxHeartbeats 4000000
namespace Mine
section
variable {prog : Program} {w : World} {A : Around} {hB h₀ : Heap} {L R : Addr}

theorem GoOn.ext {rest : List PV} {gs : GenState} {h h' : Heap} (x : GoOn prog w A hB L R rest gs h) (k : ∀ b o, b ≠ R → h.get? b = some o → h'.get? b = some o) : GoOn prog w A hB L R rest gs h' := by
  obtain ⟨c₀, t₀, fs₀, hst, hgo⟩ := x
  exact ⟨c₀, t₀, fs₀, hst, fun s₂ k2 hr => hgo s₂ (fun b o n e => k2 b o n (k b o n e)) hr⟩

theorem extend_gen (hh : A.handled = none) (hroom : A.depth < recursionLimit) (h0B : ∀ b o, h₀.get? b = some o → hB.get? b = some o) (hL0 : h₀.get? L = none) (hlim : h₀.NoLimit) {ga : Addr} {g : Nat} (hg : hB.IsGen ga g) (hgL : ga ≠ L) (hRB : hB.get? R = none) (hRL : R ≠ L) {res : Value} {s : Shared} {c₀ : Nat}
    (hS : s.heap.get? R = some { cls := .type "list", data := .seq #[] c₀ }) {outs : List PV} {gs : GenState} (hgs : s.gens[g]? = some gs) (hgo : GoOn prog w A.in1.in1 hB L R outs gs s.heap) (old : ∀ b o, hB.get? b = some o → b ≠ L → s.heap.get? b = some o) (hN : outs.length ≤ 1000)
    {RR : Result → Shared → Prop} (hR : ∀ s', After hB L R outs g s s' → RR (.ok (.ret res)) s') :
    wpAny (model prog w) A.in1 (Builtin.List.listExtendWith (.ref R) (.ref ga) res)
      (fun fin s' => match fin with | .done f => RR (.ok f) s' | .again c' => c'.quiet = true ∧ codeAny (model prog w) A c' RR s') (fun e s' => RR (.error e) s') s := by
  have hgR : ga ≠ R := fun q => by
    obtain ⟨o, nm, qn, ho, _⟩ := hg
    rw [q, hRB] at ho; cases ho
  have isg : s.heap.IsGen ga g := by
    obtain ⟨o, nm, qn, ho, r⟩ := hg
    exact ⟨o, nm, qn, old _ _ ho hgL, r⟩
  unfold Builtin.List.listExtendWith
  refine wpAny_bind (wpAny_typeOf isg.typeIs ?_)
  have h1 : Builtin.List.listSameRef (.ref R) (.ref ga) = false := by simp [Builtin.List.listSameRef, Ne.symm hgR]
  have h2 : (Value.type "generator" == Value.type "list") = false := by decide
  have h3 : (Value.type "generator" == Value.type "tuple") = false := by decide
  simp only [h1, h2, h3, Bool.or_false, Bool.false_eq_true, if_false]
  refine wpAny_bind (wpAny_pyIter_gen isg ?_)
  refine wpAny_bind (wpAny_holding ?_)
  unfold Builtin.List.listLengthHint
  refine wpAny_bind (wpAny_specialOf isg.typeIs F.gen_no_len ?_)
  show wpAny _ A.in1 (specialOf (Value.ref ga) (Str.ofString "__length_hint__") >>= _) _ _ _
  refine wpAny_bind (wpAny_specialOf isg.typeIs F.gen_no_hint ?_)
  refine wpAny_pure ?_
  show wpAny _ A.in1 (rule "list.extend.makes-room" >>= fun _ => Builtin.List.listTouch (.ref R) >>= fun _ => again (.builtin "list.extend.loop" ⟨[.ref R, .ref ga, res], []⟩)) _ _ _
  refine wpAny_bind (wpAny_rule ?_)
  refine wpAny_bind ?_
  show wpAny _ A.in1 (updateSeq R (·.push .none) >>= fun _ => updateSeq R (·.pop)) _ _ _
  refine wpAny_bind (wpAny_updateSeq hS rfl ?_)
  have hS₂ := Heap.get?_update_self (Obj.mapSeq (·.push Value.none)) hS rfl
  refine wpAny_updateSeq (hz := by seq_fits) hS₂ rfl ?_
  have hS₃ := Heap.get?_update_self (Obj.mapSeq (·.pop)) hS₂ rfl
  have oth : ∀ b o, b ≠ R → s.heap.get? b = some o → ((s.heap.update R (Obj.mapSeq (·.push Value.none))).update R (Obj.mapSeq (·.pop))).get? b = some o :=
    fun b o hb e => (Heap.get?_update_other _ _ (Ne.symm hb)).trans ((Heap.get?_update_other _ _ (Ne.symm hb)).trans e)
  have hself : s.gens = s.gens.setIfInBounds g gs := by
    apply Array.ext_getElem?
    intro i
    by_cases q : g = i
    · subst q
      have hlt : g < s.gens.size := by
        rcases Nat.lt_or_ge g s.gens.size with q | q
        · exact q
        · rw [Array.getElem?_eq_none q] at hgs; cases hgs
      rw [hgs]; simp [hlt]
    · simp [Array.getElem?_setIfInBounds, q]
  refine wpAny_pure ⟨plainId_quiet F.plain_extend_loop _, extend_loop (s₀ := s) hh hroom h0B hL0 hlim hg hgL hRB hRL outs [] _ _ _ RR ⟨hS₃, .nil, ⟨gs, hgs, hgo.ext oth⟩, fun b o e n => oth b o (fun q => by rw [q, hRB] at e; cases e) (old b o e n)⟩ (by simpa using hN) ⟨(s.heap.update R (Obj.mapSeq (·.push Value.none))).update R (Obj.mapSeq (·.pop)), s.toks, gs, ?_⟩ hR⟩
  exact congrArg (fun q => ({ s with heap := (s.heap.update R (Obj.mapSeq (·.push Value.none))).update R (Obj.mapSeq (·.pop)), gens := q } : Shared)) hself
end
end Mine

end
section
open PySem PySem.W PyProof.Rows PySem.Calls PySem.W.X
set_option maxRecDepth 100000
set_option maxHeartbeats 4000000
namespace Mine
section
variable {prog : Program} {w : World} {A : Around} {hB h₀ : Heap} {L : Addr}

/-- list(generator) -/
theorem list_gen (hh : A.handled = none) (hroom : A.depth < recursionLimit) (h0B : ∀ b o, h₀.get? b = some o → hB.get? b = some o) (hL0 : h₀.get? L = none) (hlim : h₀.NoLimit) {ga : Addr} {g : Nat} (hg : hB.IsGen ga g) (hgL : ga ≠ L) {s : Shared} (hRB : hB.get? s.heap.objs.size = none) (hRL : s.heap.objs.size ≠ L)
    {outs : List PV} {gs : GenState} (hgs : s.gens[g]? = some gs) (hgo : GoOn prog w A.in1.in1.in1 hB L s.heap.objs.size outs gs (s.heap.push { cls := .type "list", data := .seq #[] })) (old : ∀ b o, hB.get? b = some o → b ≠ L → s.heap.get? b = some o) (hN : outs.length ≤ 1000)
    {Q : Value → Shared → Prop} {E : Value → Shared → Prop} (hQ : ∀ s', After hB L s.heap.objs.size outs g s s' → Q (.ref s.heap.objs.size) s') : wpAny (model prog w) A (call (.type "list") [.ref ga]) Q E s := by
  refine callType_codes (Q₁ := fun obj s₁ => obj = .ref s.heap.objs.size ∧ s₁ = { s with heap := s.heap.push { cls := .type "list", data := .seq #[] } }) F.called_list (F.typeCall_list_1 _) F.entry_list_init
    (code_list_new _ ⟨rfl, rfl⟩) fun obj s₁ h₁ => ?_
  obtain ⟨rfl, rfl⟩ := h₁
  have hS : (s.heap.push { cls := .type "list", data := .seq #[] }).get? s.heap.objs.size = some { cls := .type "list", data := .seq #[] } := Heap.get?_push_size _ rfl
  refine ⟨⟨_, hS, rfl⟩, F.args_list_init_2 _ _, ?_⟩
  show wpAny _ A.in1.in1 (do let old ← Builtin.List.listItems (.ref s.heap.objs.size); Builtin.List.listUpdate (.ref s.heap.objs.size) (fun _ => #[]); letGo old.toList.reverse; Builtin.List.listExtendWith (.ref s.heap.objs.size) (.ref ga) .none) _ _ _
  refine wpAny_bind ?_
  unfold Builtin.List.listItems
  refine wpAny_bind (wpAny_seqItems hS rfl (wpAny_pure ?_))
  show wpAny _ A.in1.in1 (updateSeq s.heap.objs.size (fun _ => #[]) >>= fun _ => letGo (#[] : Array Value).toList.reverse >>= fun _ => Builtin.List.listExtendWith (.ref s.heap.objs.size) (.ref ga) .none) _ _ _
  refine wpAny_bind (wpAny_updateSeq hS rfl ?_)
  have hS₂ := Heap.get?_update_self (Obj.mapSeq (fun _ => (#[] : Array Value))) hS rfl
  have oth : ∀ b o, b ≠ s.heap.objs.size → (s.heap.push { cls := .type "list", data := .seq #[] }).get? b = some o → ((s.heap.push { cls := .type "list", data := .seq #[] }).update s.heap.objs.size (Obj.mapSeq (fun _ => (#[] : Array Value)))).get? b = some o :=
    fun b o hb e => (Heap.get?_update_other _ _ (Ne.symm hb)).trans e
  refine wpAny_bind (wpAny_letGo ?_)
  refine extend_gen (A := A.in1) (s := { s with heap := (s.heap.push { cls := .type "list", data := .seq #[] }).update s.heap.objs.size (Obj.mapSeq (fun _ => (#[] : Array Value))) }) hh hroom h0B hL0 hlim hg hgL hRB hRL hS₂ hgs (hgo.ext oth) (fun b o e n => oth b o (fun q => by rw [q, hRB] at e; cases e) (Heap.get?_push_of_some _ (old b o e n))) hN fun s' ha => ?_
  refine ⟨rfl, hQ s' ?_⟩
  obtain ⟨acc, c, x1, x2, x3, h, tk, x, x4, x5⟩ := ha
  exact ⟨acc, c, x1, x2, x3, h, tk, x, x4, x5⟩
end
end Mine

end
section
open PySem PySem.W PyProof.Rows
set_option maxRecDepth 100000
set_option maxHeartbeats 0
set_option linter.unusedVariables false
namespace Mine
-- parts of the text
noncomputable def stC : Stmt → List Stmt | .ClassDef _ _ _ b _ _ _ _ _ _ _ => b | _ => []
noncomputable def stA : Stmt → Arguments | .FunctionDef _ a _ _ _ _ _ _ _ _ => a | _ => { posonlyargs := [], args := [], vararg := none, kwonlyargs := [], kw_defaults := [], kwarg := none, defaults := [] }
noncomputable def stB : Stmt → List Stmt | .FunctionDef _ _ b _ _ _ _ _ _ _ => b | _ => []
noncomputable def stS : Stmt → Scope | .FunctionDef _ _ _ _ _ _ s _ _ _ => s | _ => { kind := .function, names := [], isGenerator := false, isCoroutine := false }
noncomputable def stD (s : Stmt) : Str := match stB s with | .Expr (.Constant (.str x) _ _) _ :: _ => x | _ => Str.ofString ""
noncomputable def stN : Stmt → Str | .FunctionDef n _ _ _ _ _ _ _ _ _ => n | _ => Str.ofString ""
noncomputable def tyM (k : Nat) (n : String) : Stmt := (((PySem.Challenge.pw_bd0043_01.main.body.map stC).getD k []).find? fun s => stN s == Str.ofString n).getD (.Pass ⟨0, 0, 0, 0⟩)
noncomputable def tyF (n : String) : Stmt := (PySem.Challenge.pw_bd0043_01.main.body.find? fun s => stN s == Str.ofString n).getD (.Pass ⟨0, 0, 0, 0⟩)
noncomputable def hd.view_39 : Program := view PySem.Challenge.pw_bd0043_01 [0, 1, 3, 4, 5, 6, 7, 8, 10, 11, 12, 13, 14, 15, 16, 17]
/-- the objects of the top that the proof looks at -/
noncomputable def hd.heap_39 : Params → Frag := fun P => [
  (2, { cls := Value.none, data := Data.dict #[{ hash := PyData.keyHash P (Str.ofString "\x69mport.loaded._sre"), key := Value.str (Str.ofString "\x69mport.loaded._sre") 183, val := Value.bool Bool.true }, { hash := PyData.keyHash P (Str.ofString "class._frozen_importlib.BuiltinImporter"), key := Value.str (Str.ofString "class._frozen_importlib.BuiltinImporter") 185, val := Value.ref 14 }, { hash := PyData.keyHash P (Str.ofString "watched.\x69mport"), key := Value.str (Str.ofString "watched.\x69mport") 206, val := Value.ref 18 }, { hash := PyData.keyHash P (Str.ofString "class._frozen_importlib.ModuleSpec"), key := Value.str (Str.ofString "class._frozen_importlib.ModuleSpec") 216, val := Value.ref 22 }, { hash := PyData.keyHash P (Str.ofString "sys.modules.booked-epoch"), key := Value.str (Str.ofString "sys.modules.booked-epoch") 245, val := Value.int 3 0 }, { hash := PyData.keyHash P (Str.ofString "\x69mport.later-laid._sre"), key := Value.str (Str.ofString "\x69mport.later-laid._sre") 270, val := Value.bool Bool.true }, { hash := PyData.keyHash P (Str.ofString "watched.library"), key := Value.str (Str.ofString "watched.library") 272, val := Value.ref 27 }, { hash := PyData.keyHash P (Str.ofString "watched.library-objects"), key := Value.str (Str.ofString "watched.library-objects") 0, val := Value.str (Str.ofString "\x0c") 0 }, { hash := PyData.keyHash P (Str.ofString "watched.library-deep._sre"), key := Value.str (Str.ofString "watched.library-deep._sre") 273, val := Value.str (Str.ofString "\x04\x00\x00\x0b\x04\x00\x00\x0b\x04\x00\x00\x03\x04\x00\x00\x0b\x08\x04dict\x02") 0 }] 9 }),
  (3, { cls := Value.type "dict", data := Data.dict #[{ hash := PyData.keyHash P (Str.ofString "__name__"), key := Value.str (Str.ofString "__name__") 165, val := Value.str (Str.ofString "law_bd0043_01") 731 }, { hash := PyData.keyHash P (Str.ofString "__doc__"), key := Value.str (Str.ofString "__doc__") 166, val := Value.none }, { hash := PyData.keyHash P (Str.ofString "__package__"), key := Value.str (Str.ofString "__package__") 167, val := Value.none }, { hash := PyData.keyHash P (Str.ofString "__loader__"), key := Value.str (Str.ofString "__loader__") 168, val := Value.builtin "__main__.__loader__#opaque" }, { hash := PyData.keyHash P (Str.ofString "__spec__"), key := Value.str (Str.ofString "__spec__") 169, val := Value.none }, { hash := PyData.keyHash P (Str.ofString "__annotations__"), key := Value.str (Str.ofString "__annotations__") 170, val := Value.ref 6 }, { hash := PyData.keyHash P (Str.ofString "__builtins__"), key := Value.str (Str.ofString "__builtins__") 171, val := Value.ref 4 }, { hash := PyData.keyHash P (Str.ofString "__file__"), key := Value.str (Str.ofString "__file__") 173, val := Value.str (Str.ofString "/claim/cut.py") 172 }, { hash := PyData.keyHash P (Str.ofString "__cached__"), key := Value.str (Str.ofString "__cached__") 174, val := Value.none }, { hash := PyData.keyHash P (Str.ofString "_sre"), key := Value.str (Str.ofString "_sre") 275, val := Value.ref 12 }, { hash := PyData.keyHash P (Str.ofString "_wall"), key := Value.str (Str.ofString "_wall") 288, val := Value.ref 38 }, { hash := PyData.keyHash P (Str.ofString "_tuplegetter"), key := Value.str (Str.ofString "_tuplegetter") 347, val := Value.ref 77 }, { hash := PyData.keyHash P (Str.ofString "tokenize"), key := Value.str (Str.ofString "tokenize") 389, val := Value.ref 91 }, { hash := PyData.keyHash P (Str.ofString "Token"), key := Value.str (Str.ofString "Token") 543, val := Value.ref 172 }, { hash := PyData.keyHash P (Str.ofString "STARTSWITH_DEF_REGEX"), key := Value.str (Str.ofString "STARTSWITH_DEF_REGEX") 603, val := Value.ref 180 }, { hash := PyData.keyHash P (Str.ofString "STARTSWITH_GENERIC_REGEX"), key := Value.str (Str.ofString "STARTSWITH_GENERIC_REGEX") 707, val := Value.ref 185 }, { hash := PyData.keyHash P (Str.ofString "whitespace_around_named_parameter_equals"), key := Value.str (Str.ofString "whitespace_around_named_parameter_equals") 730, val := Value.ref 192 }, { hash := PyData.keyHash P (Str.ofString "_law_far"), key := Value.str (Str.ofString "_law_far") 734, val := Value.str (Str.ofString "E251 unexpected spaces around keyword / parameter equals") 733 }, { hash := PyData.keyHash P (Str.ofString "_law_near"), key := Value.str (Str.ofString "_law_near") 736, val := Value.str (Str.ofString "E252 missing whitespace around parameter equals") 735 }, { hash := PyData.keyHash P (Str.ofString "_law_cell"), key := Value.str (Str.ofString "_law_cell") 744, val := Value.ref 199 }, { hash := PyData.keyHash P (Str.ofString "_law_kind"), key := Value.str (Str.ofString "_law_kind") 751, val := Value.ref 206 }, { hash := PyData.keyHash P (Str.ofString "_law_tokens"), key := Value.str (Str.ofString "_law_tokens") 766, val := Value.ref 213 }, { hash := PyData.keyHash P (Str.ofString "_law_equals"), key := Value.str (Str.ofString "_law_equals") 777, val := Value.ref 220 }, { hash := PyData.keyHash P (Str.ofString "_law_built"), key := Value.str (Str.ofString "_law_built") 792, val := Value.ref 227 }, { hash := PyData.keyHash P (Str.ofString "law"), key := Value.str (Str.ofString "law") 809, val := Value.ref 234 }] 25 }),
  (90, { cls := Value.type "dict", data := Data.dict #[{ hash := PyData.keyHash P (Str.ofString "__module__"), key := Value.str (Str.ofString "__module__") 355, val := Value.str (Str.ofString "pycodestyle") 289 }, { hash := PyData.keyHash P (Str.ofString "__firstlineno__"), key := Value.str (Str.ofString "__firstlineno__") 359, val := Value.int 24 358 }, { hash := PyData.keyHash P (Str.ofString "ENDMARKER"), key := Value.str (Str.ofString "ENDMARKER") 361, val := Value.int 0 360 }, { hash := PyData.keyHash P (Str.ofString "NAME"), key := Value.str (Str.ofString "NAME") 363, val := Value.int 1 362 }, { hash := PyData.keyHash P (Str.ofString "NUMBER"), key := Value.str (Str.ofString "NUMBER") 365, val := Value.int 2 364 }, { hash := PyData.keyHash P (Str.ofString "STRING"), key := Value.str (Str.ofString "STRING") 367, val := Value.int 3 366 }, { hash := PyData.keyHash P (Str.ofString "NEWLINE"), key := Value.str (Str.ofString "NEWLINE") 369, val := Value.int 4 368 }, { hash := PyData.keyHash P (Str.ofString "INDENT"), key := Value.str (Str.ofString "INDENT") 371, val := Value.int 5 370 }, { hash := PyData.keyHash P (Str.ofString "DEDENT"), key := Value.str (Str.ofString "DEDENT") 373, val := Value.int 6 372 }, { hash := PyData.keyHash P (Str.ofString "OP"), key := Value.str (Str.ofString "OP") 375, val := Value.int 54 374 }, { hash := PyData.keyHash P (Str.ofString "ERRORTOKEN"), key := Value.str (Str.ofString "ERRORTOKEN") 377, val := Value.int 60 376 }, { hash := PyData.keyHash P (Str.ofString "COMMENT"), key := Value.str (Str.ofString "COMMENT") 379, val := Value.int 61 378 }, { hash := PyData.keyHash P (Str.ofString "NL"), key := Value.str (Str.ofString "NL") 381, val := Value.int 62 380 }, { hash := PyData.keyHash P (Str.ofString "__static_attributes__"), key := Value.str (Str.ofString "__static_attributes__") 382, val := Value.ref 89 }, { hash := PyData.keyHash P (Str.ofString "__dict__"), key := Value.str (Str.ofString "__dict__") 384, val := Value.ref 92 }, { hash := PyData.keyHash P (Str.ofString "__weakref__"), key := Value.str (Str.ofString "__weakref__") 386, val := Value.ref 93 }, { hash := PyData.keyHash P (Str.ofString "__doc__"), key := Value.str (Str.ofString "__doc__") 387, val := Value.none }] 4 }),
  (91, { cls := Value.type "type", data := Data.cls { name := Str.ofString "tokenize", bases := [Value.type "object"], mro := [Value.ref 91, Value.type "object"], ns := 90, qualname := Str.ofString "tokenize" }, slots := #[Option.none, Option.none, Option.some (Value.str (Str.ofString "tokenize") 348), Option.some (Value.str (Str.ofString "tokenize") 356), Option.some (Value.builtin "object.__new__"), Option.some (Value.bool Bool.true)] }),
  (107, { cls := Value.type "tuple", data := Data.seq #[] }),
  (109, { cls := Value.type "tuple", data := Data.seq #[Value.str (Str.ofString "_cls") 416, Value.str (Str.ofString "kind") 417, Value.str (Str.ofString "string") 418, Value.str (Str.ofString "start") 419, Value.str (Str.ofString "end") 420, Value.str (Str.ofString "line") 421] }),
  (110, { cls := Value.type "tuple", data := Data.seq #[] }),
  (112, { cls := Value.type "code", data := Data.fields #[Value.str (Str.ofString "__new__") 413, Value.str (Str.ofString "Token.__new__") 414, Value.str (Str.ofString "/claim/cut.py") 415, Value.int 42 0, Value.int 6 0, Value.int 0 0, Value.int 0 0, Value.int 3 0, Value.ref 107, Value.bool Bool.true, Value.int 276 0, Value.ref 108, Value.none, Value.ref 109, Value.ref 110, Value.ref 111, Value.int 422 0, Value.int 42 0, Value.str (Str.ofString "/claim/cut.py") 423] }),
  (113, { cls := Value.type "function", data := Data.func { name := Str.ofString "__new__", qualname := Str.ofString "Token.__new__", params := stA (tyM 5 "__new__"), body := .stmts (stB (tyM 5 "__new__")), scope := stS (tyM 5 "__new__"), globals := 3, closure := [], defaults := Value.none, kwdefaults := Value.none, doc := Value.str (stD (tyM 5 "__new__")) 424, pyModule := Value.str (Str.ofString "pycodestyle") 289, code := Value.ref 112 } }),
  (171, { cls := Value.type "dict", data := Data.dict #[{ hash := PyData.keyHash P (Str.ofString "__module__"), key := Value.str (Str.ofString "__module__") 397, val := Value.str (Str.ofString "pycodestyle") 289 }, { hash := PyData.keyHash P (Str.ofString "__firstlineno__"), key := Value.str (Str.ofString "__firstlineno__") 401, val := Value.int 36 400 }, { hash := PyData.keyHash P (Str.ofString "__doc__"), key := Value.str (Str.ofString "__doc__") 403, val := Value.str (Str.ofString "Token(kind, string, start, end, line)") 402 }, { hash := PyData.keyHash P (Str.ofString "__slots__"), key := Value.str (Str.ofString "__slots__") 405, val := Value.ref 104 }, { hash := PyData.keyHash P (Str.ofString "_fields"), key := Value.str (Str.ofString "_fields") 411, val := Value.ref 105 }, { hash := PyData.keyHash P (Str.ofString "_field_defaults"), key := Value.str (Str.ofString "_field_defaults") 412, val := Value.ref 106 }, { hash := PyData.keyHash P (Str.ofString "__new__"), key := Value.str (Str.ofString "__new__") 425, val := Value.ref 173 }, { hash := PyData.keyHash P (Str.ofString "_make"), key := Value.str (Str.ofString "_make") 447, val := Value.ref 122 }, { hash := PyData.keyHash P (Str.ofString "_replace"), key := Value.str (Str.ofString "_replace") 458, val := Value.ref 131 }, { hash := PyData.keyHash P (Str.ofString "__replace__"), key := Value.str (Str.ofString "__replace__") 459, val := Value.ref 131 }, { hash := PyData.keyHash P (Str.ofString "__repr__"), key := Value.str (Str.ofString "__repr__") 467, val := Value.ref 138 }, { hash := PyData.keyHash P (Str.ofString "_asdict"), key := Value.str (Str.ofString "_asdict") 474, val := Value.ref 145 }, { hash := PyData.keyHash P (Str.ofString "__getnewargs__"), key := Value.str (Str.ofString "__getnewargs__") 482, val := Value.ref 152 }, { hash := PyData.keyHash P (Str.ofString "__match_args__"), key := Value.str (Str.ofString "__match_args__") 488, val := Value.ref 153 }, { hash := PyData.keyHash P (Str.ofString "kind"), key := Value.str (Str.ofString "kind") 498, val := Value.ref 155 }, { hash := PyData.keyHash P (Str.ofString "string"), key := Value.str (Str.ofString "string") 508, val := Value.ref 158 }, { hash := PyData.keyHash P (Str.ofString "start"), key := Value.str (Str.ofString "start") 518, val := Value.ref 161 }, { hash := PyData.keyHash P (Str.ofString "end"), key := Value.str (Str.ofString "end") 528, val := Value.ref 164 }, { hash := PyData.keyHash P (Str.ofString "line"), key := Value.str (Str.ofString "line") 538, val := Value.ref 167 }, { hash := PyData.keyHash P (Str.ofString "__static_attributes__"), key := Value.str (Str.ofString "__static_attributes__") 539, val := Value.ref 169 }] 2 }),
  (172, { cls := Value.type "type", data := Data.cls { name := Str.ofString "Token", bases := [Value.type "tuple"], mro := [Value.ref 172, Value.type "tuple", Value.type "object"], ns := 171, qualname := Str.ofString "Token", hasDict := Bool.false }, slots := #[Option.some (Value.ref 96), Option.none, Option.some (Value.str (Str.ofString "Token") 390), Option.some (Value.str (Str.ofString "Token") 398), Option.some Value.none, Option.some (Value.bool Bool.false)] }),
  (173, { cls := Value.type "staticmethod", data := Data.fields #[Value.ref 113] }),
  (179, { cls := Value.type "tuple", data := Data.seq #[Value.int 14 0, Value.int 4 0, Value.int 0 0, Value.int 3 0, Value.int 4294967295 0, Value.int 6 0, Value.int 0 0, Value.int 17 0, Value.int 0 0, Value.int 7 0, Value.int 29 0, Value.int 16 0, Value.int 97 0, Value.int 16 0, Value.int 115 0, Value.int 16 0, Value.int 121 0, Value.int 16 0, Value.int 110 0, Value.int 16 0, Value.int 99 0, Value.int 24 0, Value.int 9 0, Value.int 1 0, Value.int 4294967295 0, Value.int 13 0, Value.int 4 0, Value.int 8 0, Value.int 12 0, Value.int 0 0, Value.int 1 0, Value.int 16 0, Value.int 100 0, Value.int 16 0, Value.int 101 0, Value.int 16 0, Value.int 102 0, Value.int 15 0, Value.int 11 0, Value.int 9 0, Value.int 16 0, Value.int 100 0, Value.int 16 0, Value.int 101 0, Value.int 16 0, Value.int 102 0, Value.int 15 0, Value.int 2 0, Value.int 0 0, Value.int 17 0, Value.int 1 0, Value.int 6 0, Value.int 10 0, Value.int 1 0] }),
  (180, { cls := Value.type "re.Pattern", data := Data.fields #[Value.str (Str.ofString "^(async\\s+def|def)\\b") 545, Value.int 32 602, Value.int 1 0, Value.none, Value.none, Value.ref 179, Value.int 0 0] }),
  (184, { cls := Value.type "tuple", data := Data.seq #[Value.int 14 0, Value.int 4 0, Value.int 0 0, Value.int 6 0, Value.int 4294967295 0, Value.int 6 0, Value.int 0 0, Value.int 17 0, Value.int 0 0, Value.int 7 0, Value.int 29 0, Value.int 16 0, Value.int 97 0, Value.int 16 0, Value.int 115 0, Value.int 16 0, Value.int 121 0, Value.int 16 0, Value.int 110 0, Value.int 16 0, Value.int 99 0, Value.int 24 0, Value.int 9 0, Value.int 1 0, Value.int 4294967295 0, Value.int 13 0, Value.int 4 0, Value.int 8 0, Value.int 12 0, Value.int 0 0, Value.int 1 0, Value.int 16 0, Value.int 100 0, Value.int 16 0, Value.int 101 0, Value.int 16 0, Value.int 102 0, Value.int 15 0, Value.int 35 0, Value.int 9 0, Value.int 16 0, Value.int 100 0, Value.int 16 0, Value.int 101 0, Value.int 16 0, Value.int 102 0, Value.int 15 0, Value.int 26 0, Value.int 13 0, Value.int 16 0, Value.int 99 0, Value.int 16 0, Value.int 108 0, Value.int 16 0, Value.int 97 0, Value.int 16 0, Value.int 115 0, Value.int 16 0, Value.int 115 0, Value.int 15 0, Value.int 13 0, Value.int 11 0, Value.int 16 0, Value.int 116 0, Value.int 16 0, Value.int 121 0, Value.int 16 0, Value.int 112 0, Value.int 16 0, Value.int 101 0, Value.int 15 0, Value.int 2 0, Value.int 0 0, Value.int 17 0, Value.int 1 0, Value.int 24 0, Value.int 9 0, Value.int 1 0, Value.int 4294967295 0, Value.int 13 0, Value.int 4 0, Value.int 8 0, Value.int 12 0, Value.int 0 0, Value.int 1 0, Value.int 24 0, Value.int 9 0, Value.int 1 0, Value.int 4294967295 0, Value.int 13 0, Value.int 4 0, Value.int 8 0, Value.int 14 0, Value.int 0 0, Value.int 1 0, Value.int 16 0, Value.int 91 0, Value.int 1 0] }),
  (185, { cls := Value.type "re.Pattern", data := Data.fields #[Value.str (Str.ofString "^(async\\s+def|def|class|type)\\s+\\w+\\[") 605, Value.int 32 706, Value.int 1 0, Value.none, Value.none, Value.ref 184, Value.int 0 0] })]
noncomputable abbrev asK : List Addr := [2, 3, 90, 91, 107, 109, 110, 112, 113, 171, 172, 173, 179, 180, 184, 185]
theorem asK_eq (P : Params) : asK = (hd.heap_39 P).map (·.1) := by kernel_rfl
noncomputable abbrev lsK : List Str := [Str.ofString "_tuplegetter", Str.ofString "tokenize", Str.ofString "Token", Str.ofString "STARTSWITH_DEF_REGEX", Str.ofString "STARTSWITH_GENERIC_REGEX"]
noncomputable abbrev rwK : OpenRow := PySem.Challenge.rw_bd0043_01.row
noncomputable abbrev pgK : Program := rwK.toRowW.prog
noncomputable def fo (p : Program) (w : World) (N : Nat) : Option Shared :=
  (PySem.W.Fast.tw10274390034422433532 PySem.W.Fast.tw14364793385576792824 (opening p) w N (PySem.W.Fast.tw1435165496053646825 (opening p)).1 (PySem.W.Fast.tw1435165496053646825 (opening p)).2).bind (PySem.W.Fast.tw14289696077712309145 p)
theorem fo_eq (p : Program) (w : World) (N : Nat) : fencedOpening treeTable p w N = fo p w N := by
  unfold fencedOpening fo
  rw [PySem.W.Fast.te10274390034422433532, PySem.W.Fast.te14364793385576792824, PySem.W.Fast.te1435165496053646825, PySem.W.Fast.te14289696077712309145]
noncomputable abbrev XtK : Shared → Bool := fun s => xlAt hd.view_39 [] s && recOk (RowW.records rwK.toRowW) s
-- the top, in three pieces
theorem fo_some (w : World) : (fo pgK w 5180).isSome = true := by kernel_rfl
noncomputable def S0 (w : World) : Shared := (fo pgK w 5180).get (fo_some w)
theorem fo_is (w : World) : fo pgK w 5180 = some (S0 w) := (Option.some_get _).symm
theorem S0_size (w : World) : (S0 w).heap.objs.size = 28 := by kernel_rfl
noncomputable abbrev annK : Option Value := some (Value.ref 6)
theorem S0_ann (w : World) : (S0 w).heap.nsMap mainGlobals "__annotations__" = annK := by kernel_rfl
theorem S0_ns (w : World) : ((S0 w).heap.isNs mainGlobals && (S0 w).gens.size == 0) = true := by kernel_rfl
noncomputable def ob (w : World) (i : Nat) : Obj := ((S0 w).heap.objs[i]?).getD { cls := .none, data := .fields #[] }
noncomputable def q1o3 : Params → Obj := fun P => { cls := Value.type "dict", data := Data.dict #[{ hash := PyData.keyHash P (Str.ofString "__name__"), key := Value.str (Str.ofString "__name__") 165, val := Value.str (Str.ofString "pycodestyle") 289 }, { hash := PyData.keyHash P (Str.ofString "__doc__"), key := Value.str (Str.ofString "__doc__") 166, val := Value.none }, { hash := PyData.keyHash P (Str.ofString "__package__"), key := Value.str (Str.ofString "__package__") 167, val := Value.none }, { hash := PyData.keyHash P (Str.ofString "__loader__"), key := Value.str (Str.ofString "__loader__") 168, val := Value.builtin "__main__.__loader__#opaque" }, { hash := PyData.keyHash P (Str.ofString "__spec__"), key := Value.str (Str.ofString "__spec__") 169, val := Value.none }, { hash := PyData.keyHash P (Str.ofString "__annotations__"), key := Value.str (Str.ofString "__annotations__") 170, val := Value.ref 6 }, { hash := PyData.keyHash P (Str.ofString "__builtins__"), key := Value.str (Str.ofString "__builtins__") 171, val := Value.ref 4 }, { hash := PyData.keyHash P (Str.ofString "__file__"), key := Value.str (Str.ofString "__file__") 173, val := Value.str (Str.ofString "/claim/cut.py") 172 }, { hash := PyData.keyHash P (Str.ofString "__cached__"), key := Value.str (Str.ofString "__cached__") 174, val := Value.none }, { hash := PyData.keyHash P (Str.ofString "_sre"), key := Value.str (Str.ofString "_sre") 275, val := Value.ref 12 }, { hash := PyData.keyHash P (Str.ofString "_wall"), key := Value.str (Str.ofString "_wall") 288, val := Value.ref 38 }, { hash := PyData.keyHash P (Str.ofString "_tuplegetter"), key := Value.str (Str.ofString "_tuplegetter") 347, val := Value.ref 77 }, { hash := PyData.keyHash P (Str.ofString "tokenize"), key := Value.str (Str.ofString "tokenize") 389, val := Value.ref 91 }] 13 }
noncomputable def q1o28 : Params → Obj := fun P => { cls := Value.type "tuple", data := Data.seq #[] }
noncomputable def q1o29 : Params → Obj := fun P => { cls := Value.none, data := Data.fields #[Value.int 2 0, Value.int 0 0, Value.ref 37, Value.int 6 0, Value.int 0 0, Value.ref 44, Value.int 24 0, Value.int 0 0, Value.ref 87] }
noncomputable def q1o30 : Params → Obj := fun P => { cls := Value.type "code", data := Data.fields #[Value.str (Str.ofString "<module>") 277, Value.str (Str.ofString "<module>") 278, Value.str (Str.ofString "/claim/cut.py") 279, Value.int 1 0, Value.int 0 0, Value.int 0 0, Value.int 0 0, Value.int 0 0, Value.ref 28, Value.bool Bool.false, Value.int 276 0, Value.ref 29, Value.none, Value.none, Value.none, Value.none, Value.int 280 0, Value.int 1 0, Value.str (Str.ofString "/claim/cut.py") 281] }
noncomputable def q1o31 : Params → Obj := fun P => { cls := Value.type "frame", slots := #[Option.some (Value.ref 30), Option.some (Value.ref 3), Option.some (Value.ref 3), Option.none, Option.some (Value.str (Str.ofString "__main__") 164), Option.none, Option.some (Value.ref 0)] }
noncomputable def q1o32 : Params → Obj := fun P => { cls := Value.type "tuple", data := Data.seq #[] }
noncomputable def q1o33 : Params → Obj := fun P => { cls := Value.none, data := Data.fields #[] }
noncomputable def q1o34 : Params → Obj := fun P => { cls := Value.type "tuple", data := Data.seq #[Value.str (Str.ofString "k") 285] }
noncomputable def q1o35 : Params → Obj := fun P => { cls := Value.type "tuple", data := Data.seq #[] }
noncomputable def q1o36 : Params → Obj := fun P => { cls := Value.none, data := Data.func { name := Str.ofString "_wall", qualname := Str.ofString "_wall", params := stA (tyF "_wall"), body := .stmts (stB (tyF "_wall")), scope := stS (tyF "_wall"), globals := 0, closure := [], defaults := Value.none, kwdefaults := Value.none } }
noncomputable def q1o37 : Params → Obj := fun P => { cls := Value.type "code", data := Data.fields #[Value.str (Str.ofString "_wall") 282, Value.str (Str.ofString "_wall") 283, Value.str (Str.ofString "/claim/cut.py") 284, Value.int 2 0, Value.int 1 0, Value.int 0 0, Value.int 0 0, Value.int 3 0, Value.ref 32, Value.bool Bool.true, Value.int 276 0, Value.ref 33, Value.none, Value.ref 34, Value.ref 35, Value.ref 36, Value.int 286 0, Value.int 2 0, Value.str (Str.ofString "/claim/cut.py") 287] }
noncomputable def q1o38 : Params → Obj := fun P => { cls := Value.type "function", data := Data.func { name := Str.ofString "_wall", qualname := Str.ofString "_wall", params := stA (tyF "_wall"), body := .stmts (stB (tyF "_wall")), scope := stS (tyF "_wall"), globals := 3, closure := [], defaults := Value.none, kwdefaults := Value.none, pyModule := Value.str (Str.ofString "__main__") 164, code := Value.ref 37 } }
noncomputable def q1o39 : Params → Obj := fun P => { cls := Value.type "tuple", data := Data.seq #[] }
noncomputable def q1o40 : Params → Obj := fun P => { cls := Value.type "builtin_function_or_method", data := Data.fields #[Value.builtin "type.__prepare__", Value.type "type"] }
noncomputable def q1o41 : Params → Obj := fun P => { cls := Value.type "dict", data := Data.dict #[{ hash := PyData.keyHash P (Str.ofString "__module__"), key := Value.str (Str.ofString "__module__") 298, val := Value.str (Str.ofString "pycodestyle") 289 }, { hash := PyData.keyHash P (Str.ofString "__qualname__"), key := Value.str (Str.ofString "__qualname__") 300, val := Value.str (Str.ofString "_tuplegetter") 299 }, { hash := PyData.keyHash P (Str.ofString "__firstlineno__"), key := Value.str (Str.ofString "__firstlineno__") 302, val := Value.int 6 301 }, { hash := PyData.keyHash P (Str.ofString "__init__"), key := Value.str (Str.ofString "__init__") 311, val := Value.ref 52 }, { hash := PyData.keyHash P (Str.ofString "__get__"), key := Value.str (Str.ofString "__get__") 320, val := Value.ref 60 }, { hash := PyData.keyHash P (Str.ofString "__set__"), key := Value.str (Str.ofString "__set__") 329, val := Value.ref 67 }, { hash := PyData.keyHash P (Str.ofString "__delete__"), key := Value.str (Str.ofString "__delete__") 337, val := Value.ref 74 }, { hash := PyData.keyHash P (Str.ofString "__static_attributes__"), key := Value.str (Str.ofString "__static_attributes__") 340, val := Value.ref 75 }] 8 }
noncomputable def q1o42 : Params → Obj := fun P => { cls := Value.type "tuple", data := Data.seq #[] }
noncomputable def q1o43 : Params → Obj := fun P => { cls := Value.none, data := Data.fields #[Value.int 8 0, Value.int 4 0, Value.ref 51, Value.int 12 0, Value.int 4 0, Value.ref 59, Value.int 19 0, Value.int 4 0, Value.ref 66, Value.int 22 0, Value.int 4 0, Value.ref 73] }
noncomputable def q1o44 : Params → Obj := fun P => { cls := Value.type "code", data := Data.fields #[Value.str (Str.ofString "_tuplegetter") 293, Value.str (Str.ofString "_tuplegetter") 294, Value.str (Str.ofString "/claim/cut.py") 295, Value.int 6 0, Value.int 0 0, Value.int 0 0, Value.int 0 0, Value.int 0 0, Value.ref 42, Value.bool Bool.false, Value.int 276 0, Value.ref 43, Value.none, Value.none, Value.none, Value.none, Value.int 296 0, Value.int 6 0, Value.str (Str.ofString "/claim/cut.py") 297] }
noncomputable def q1o45 : Params → Obj := fun P => { cls := Value.type "frame", slots := #[Option.some (Value.ref 44), Option.some (Value.ref 3), Option.some (Value.ref 41), Option.none, Option.some (Value.str (Str.ofString "pycodestyle") 289), Option.none, Option.some (Value.ref 0)] }
noncomputable def q1o46 : Params → Obj := fun P => { cls := Value.type "tuple", data := Data.seq #[] }
noncomputable def q1o47 : Params → Obj := fun P => { cls := Value.none, data := Data.fields #[] }
noncomputable def q1o48 : Params → Obj := fun P => { cls := Value.type "tuple", data := Data.seq #[Value.str (Str.ofString "self") 306, Value.str (Str.ofString "index") 307, Value.str (Str.ofString "doc") 308] }
noncomputable def q1o49 : Params → Obj := fun P => { cls := Value.type "tuple", data := Data.seq #[] }
noncomputable def q1o50 : Params → Obj := fun P => { cls := Value.none, data := Data.func { name := Str.ofString "__init__", qualname := Str.ofString "_tuplegetter.__init__", params := stA (tyM 3 "__init__"), body := .stmts (stB (tyM 3 "__init__")), scope := stS (tyM 3 "__init__"), globals := 0, closure := [], defaults := Value.none, kwdefaults := Value.none } }
noncomputable def q1o51 : Params → Obj := fun P => { cls := Value.type "code", data := Data.fields #[Value.str (Str.ofString "__init__") 303, Value.str (Str.ofString "_tuplegetter.__init__") 304, Value.str (Str.ofString "/claim/cut.py") 305, Value.int 8 0, Value.int 3 0, Value.int 0 0, Value.int 0 0, Value.int 3 0, Value.ref 46, Value.bool Bool.true, Value.int 276 0, Value.ref 47, Value.none, Value.ref 48, Value.ref 49, Value.ref 50, Value.int 309 0, Value.int 8 0, Value.str (Str.ofString "/claim/cut.py") 310] }
noncomputable def q1o52 : Params → Obj := fun P => { cls := Value.type "function", data := Data.func { name := Str.ofString "__init__", qualname := Str.ofString "_tuplegetter.__init__", params := stA (tyM 3 "__init__"), body := .stmts (stB (tyM 3 "__init__")), scope := stS (tyM 3 "__init__"), globals := 3, closure := [], defaults := Value.none, kwdefaults := Value.none, pyModule := Value.str (Str.ofString "pycodestyle") 289, code := Value.ref 51 } }
noncomputable def q1o53 : Params → Obj := fun P => { cls := Value.type "tuple", data := Data.seq #[Value.none] }
noncomputable def q1o54 : Params → Obj := fun P => { cls := Value.type "tuple", data := Data.seq #[] }
noncomputable def q1o55 : Params → Obj := fun P => { cls := Value.none, data := Data.fields #[] }
noncomputable def q1o56 : Params → Obj := fun P => { cls := Value.type "tuple", data := Data.seq #[Value.str (Str.ofString "self") 315, Value.str (Str.ofString "obj") 316, Value.str (Str.ofString "objtype") 317] }
noncomputable def q1o57 : Params → Obj := fun P => { cls := Value.type "tuple", data := Data.seq #[] }
noncomputable def q1o58 : Params → Obj := fun P => { cls := Value.none, data := Data.func { name := Str.ofString "__get__", qualname := Str.ofString "_tuplegetter.__get__", params := stA (tyM 3 "__get__"), body := .stmts (stB (tyM 3 "__get__")), scope := stS (tyM 3 "__get__"), globals := 0, closure := [], defaults := Value.none, kwdefaults := Value.none } }
noncomputable def q1o59 : Params → Obj := fun P => { cls := Value.type "code", data := Data.fields #[Value.str (Str.ofString "__get__") 312, Value.str (Str.ofString "_tuplegetter.__get__") 313, Value.str (Str.ofString "/claim/cut.py") 314, Value.int 12 0, Value.int 3 0, Value.int 0 0, Value.int 0 0, Value.int 3 0, Value.ref 54, Value.bool Bool.true, Value.int 276 0, Value.ref 55, Value.none, Value.ref 56, Value.ref 57, Value.ref 58, Value.int 318 0, Value.int 12 0, Value.str (Str.ofString "/claim/cut.py") 319] }
noncomputable def q1o60 : Params → Obj := fun P => { cls := Value.type "function", data := Data.func { name := Str.ofString "__get__", qualname := Str.ofString "_tuplegetter.__get__", params := stA (tyM 3 "__get__"), body := .stmts (stB (tyM 3 "__get__")), scope := stS (tyM 3 "__get__"), globals := 3, closure := [], defaults := Value.ref 53, kwdefaults := Value.none, pyModule := Value.str (Str.ofString "pycodestyle") 289, code := Value.ref 59 } }
noncomputable def q1o61 : Params → Obj := fun P => { cls := Value.type "tuple", data := Data.seq #[] }
noncomputable def q1o62 : Params → Obj := fun P => { cls := Value.none, data := Data.fields #[] }
noncomputable def q1o63 : Params → Obj := fun P => { cls := Value.type "tuple", data := Data.seq #[Value.str (Str.ofString "self") 324, Value.str (Str.ofString "obj") 325, Value.str (Str.ofString "value") 326] }
noncomputable def q1o64 : Params → Obj := fun P => { cls := Value.type "tuple", data := Data.seq #[] }
noncomputable def q1o65 : Params → Obj := fun P => { cls := Value.none, data := Data.func { name := Str.ofString "__set__", qualname := Str.ofString "_tuplegetter.__set__", params := stA (tyM 3 "__set__"), body := .stmts (stB (tyM 3 "__set__")), scope := stS (tyM 3 "__set__"), globals := 0, closure := [], defaults := Value.none, kwdefaults := Value.none } }
noncomputable def q1o66 : Params → Obj := fun P => { cls := Value.type "code", data := Data.fields #[Value.str (Str.ofString "__set__") 321, Value.str (Str.ofString "_tuplegetter.__set__") 322, Value.str (Str.ofString "/claim/cut.py") 323, Value.int 19 0, Value.int 3 0, Value.int 0 0, Value.int 0 0, Value.int 3 0, Value.ref 61, Value.bool Bool.true, Value.int 276 0, Value.ref 62, Value.none, Value.ref 63, Value.ref 64, Value.ref 65, Value.int 327 0, Value.int 19 0, Value.str (Str.ofString "/claim/cut.py") 328] }
noncomputable def q1o67 : Params → Obj := fun P => { cls := Value.type "function", data := Data.func { name := Str.ofString "__set__", qualname := Str.ofString "_tuplegetter.__set__", params := stA (tyM 3 "__set__"), body := .stmts (stB (tyM 3 "__set__")), scope := stS (tyM 3 "__set__"), globals := 3, closure := [], defaults := Value.none, kwdefaults := Value.none, pyModule := Value.str (Str.ofString "pycodestyle") 289, code := Value.ref 66 } }
noncomputable def q1o68 : Params → Obj := fun P => { cls := Value.type "tuple", data := Data.seq #[] }
noncomputable def q1o69 : Params → Obj := fun P => { cls := Value.none, data := Data.fields #[] }
noncomputable def q1o70 : Params → Obj := fun P => { cls := Value.type "tuple", data := Data.seq #[Value.str (Str.ofString "self") 333, Value.str (Str.ofString "obj") 334] }
noncomputable def q1o71 : Params → Obj := fun P => { cls := Value.type "tuple", data := Data.seq #[] }
noncomputable def q1o72 : Params → Obj := fun P => { cls := Value.none, data := Data.func { name := Str.ofString "__delete__", qualname := Str.ofString "_tuplegetter.__delete__", params := stA (tyM 3 "__delete__"), body := .stmts (stB (tyM 3 "__delete__")), scope := stS (tyM 3 "__delete__"), globals := 0, closure := [], defaults := Value.none, kwdefaults := Value.none } }
noncomputable def q1o73 : Params → Obj := fun P => { cls := Value.type "code", data := Data.fields #[Value.str (Str.ofString "__delete__") 330, Value.str (Str.ofString "_tuplegetter.__delete__") 331, Value.str (Str.ofString "/claim/cut.py") 332, Value.int 22 0, Value.int 2 0, Value.int 0 0, Value.int 0 0, Value.int 3 0, Value.ref 68, Value.bool Bool.true, Value.int 276 0, Value.ref 69, Value.none, Value.ref 70, Value.ref 71, Value.ref 72, Value.int 335 0, Value.int 22 0, Value.str (Str.ofString "/claim/cut.py") 336] }
noncomputable def q1o74 : Params → Obj := fun P => { cls := Value.type "function", data := Data.func { name := Str.ofString "__delete__", qualname := Str.ofString "_tuplegetter.__delete__", params := stA (tyM 3 "__delete__"), body := .stmts (stB (tyM 3 "__delete__")), scope := stS (tyM 3 "__delete__"), globals := 3, closure := [], defaults := Value.none, kwdefaults := Value.none, pyModule := Value.str (Str.ofString "pycodestyle") 289, code := Value.ref 73 } }
noncomputable def q1o75 : Params → Obj := fun P => { cls := Value.type "tuple", data := Data.seq #[Value.str (Str.ofString "__doc__") 338, Value.str (Str.ofString "index") 339] }
noncomputable def q1o76 : Params → Obj := fun P => { cls := Value.type "dict", data := Data.dict #[{ hash := PyData.keyHash P (Str.ofString "__module__"), key := Value.str (Str.ofString "__module__") 298, val := Value.str (Str.ofString "pycodestyle") 289 }, { hash := PyData.keyHash P (Str.ofString "__firstlineno__"), key := Value.str (Str.ofString "__firstlineno__") 302, val := Value.int 6 301 }, { hash := PyData.keyHash P (Str.ofString "__init__"), key := Value.str (Str.ofString "__init__") 311, val := Value.ref 52 }, { hash := PyData.keyHash P (Str.ofString "__get__"), key := Value.str (Str.ofString "__get__") 320, val := Value.ref 60 }, { hash := PyData.keyHash P (Str.ofString "__set__"), key := Value.str (Str.ofString "__set__") 329, val := Value.ref 67 }, { hash := PyData.keyHash P (Str.ofString "__delete__"), key := Value.str (Str.ofString "__delete__") 337, val := Value.ref 74 }, { hash := PyData.keyHash P (Str.ofString "__static_attributes__"), key := Value.str (Str.ofString "__static_attributes__") 340, val := Value.ref 75 }, { hash := PyData.keyHash P (Str.ofString "__dict__"), key := Value.str (Str.ofString "__dict__") 342, val := Value.ref 78 }, { hash := PyData.keyHash P (Str.ofString "__weakref__"), key := Value.str (Str.ofString "__weakref__") 344, val := Value.ref 79 }, { hash := PyData.keyHash P (Str.ofString "__doc__"), key := Value.str (Str.ofString "__doc__") 345, val := Value.none }] 4 }
noncomputable def q1o77 : Params → Obj := fun P => { cls := Value.type "type", data := Data.cls { name := Str.ofString "_tuplegetter", bases := [Value.type "object"], mro := [Value.ref 77, Value.type "object"], ns := 76, qualname := Str.ofString "_tuplegetter" }, slots := #[Option.none, Option.none, Option.some (Value.str (Str.ofString "_tuplegetter") 291), Option.some (Value.str (Str.ofString "_tuplegetter") 299), Option.some (Value.builtin "object.__new__"), Option.some (Value.bool Bool.true)] }
noncomputable def q1o78 : Params → Obj := fun P => { cls := Value.type "getset_descriptor", data := Data.fields #[Value.str (Str.ofString "__dict__") 341, Value.ref 77, Value.builtin "function.__dict__", Value.builtin "function.__dict__#set"] }
noncomputable def q1o79 : Params → Obj := fun P => { cls := Value.type "getset_descriptor", data := Data.fields #[Value.str (Str.ofString "__weakref__") 343, Value.ref 77, Value.builtin "ExceptionGroup.__weakref__", Value.none] }
noncomputable def q1o80 : Params → Obj := fun P => { cls := Value.type "super", data := Data.fields #[Value.ref 77, Value.ref 77, Value.ref 77] }
noncomputable def q1o81 : Params → Obj := fun P => { cls := Value.type "builtin_function_or_method", data := Data.fields #[Value.builtin "object.__init_subclass__", Value.ref 77] }
noncomputable def q1o82 : Params → Obj := fun P => { cls := Value.type "tuple", data := Data.seq #[] }
noncomputable def q1o83 : Params → Obj := fun P => { cls := Value.type "builtin_function_or_method", data := Data.fields #[Value.builtin "type.__prepare__", Value.type "type"] }
noncomputable def q1o84 : Params → Obj := fun P => { cls := Value.type "dict", data := Data.dict #[{ hash := PyData.keyHash P (Str.ofString "__module__"), key := Value.str (Str.ofString "__module__") 355, val := Value.str (Str.ofString "pycodestyle") 289 }, { hash := PyData.keyHash P (Str.ofString "__qualname__"), key := Value.str (Str.ofString "__qualname__") 357, val := Value.str (Str.ofString "tokenize") 356 }, { hash := PyData.keyHash P (Str.ofString "__firstlineno__"), key := Value.str (Str.ofString "__firstlineno__") 359, val := Value.int 24 358 }, { hash := PyData.keyHash P (Str.ofString "ENDMARKER"), key := Value.str (Str.ofString "ENDMARKER") 361, val := Value.int 0 360 }, { hash := PyData.keyHash P (Str.ofString "NAME"), key := Value.str (Str.ofString "NAME") 363, val := Value.int 1 362 }, { hash := PyData.keyHash P (Str.ofString "NUMBER"), key := Value.str (Str.ofString "NUMBER") 365, val := Value.int 2 364 }, { hash := PyData.keyHash P (Str.ofString "STRING"), key := Value.str (Str.ofString "STRING") 367, val := Value.int 3 366 }, { hash := PyData.keyHash P (Str.ofString "NEWLINE"), key := Value.str (Str.ofString "NEWLINE") 369, val := Value.int 4 368 }, { hash := PyData.keyHash P (Str.ofString "INDENT"), key := Value.str (Str.ofString "INDENT") 371, val := Value.int 5 370 }, { hash := PyData.keyHash P (Str.ofString "DEDENT"), key := Value.str (Str.ofString "DEDENT") 373, val := Value.int 6 372 }, { hash := PyData.keyHash P (Str.ofString "OP"), key := Value.str (Str.ofString "OP") 375, val := Value.int 54 374 }, { hash := PyData.keyHash P (Str.ofString "ERRORTOKEN"), key := Value.str (Str.ofString "ERRORTOKEN") 377, val := Value.int 60 376 }, { hash := PyData.keyHash P (Str.ofString "COMMENT"), key := Value.str (Str.ofString "COMMENT") 379, val := Value.int 61 378 }, { hash := PyData.keyHash P (Str.ofString "NL"), key := Value.str (Str.ofString "NL") 381, val := Value.int 62 380 }, { hash := PyData.keyHash P (Str.ofString "__static_attributes__"), key := Value.str (Str.ofString "__static_attributes__") 382, val := Value.ref 89 }] 15 }
noncomputable def q1o85 : Params → Obj := fun P => { cls := Value.type "tuple", data := Data.seq #[] }
noncomputable def q1o86 : Params → Obj := fun P => { cls := Value.none, data := Data.fields #[] }
noncomputable def q1o87 : Params → Obj := fun P => { cls := Value.type "code", data := Data.fields #[Value.str (Str.ofString "tokenize") 350, Value.str (Str.ofString "tokenize") 351, Value.str (Str.ofString "/claim/cut.py") 352, Value.int 24 0, Value.int 0 0, Value.int 0 0, Value.int 0 0, Value.int 0 0, Value.ref 85, Value.bool Bool.false, Value.int 276 0, Value.ref 86, Value.none, Value.none, Value.none, Value.none, Value.int 353 0, Value.int 24 0, Value.str (Str.ofString "/claim/cut.py") 354] }
noncomputable def q1o88 : Params → Obj := fun P => { cls := Value.type "frame", slots := #[Option.some (Value.ref 87), Option.some (Value.ref 3), Option.some (Value.ref 84), Option.none, Option.some (Value.str (Str.ofString "pycodestyle") 289), Option.none, Option.some (Value.ref 0)] }
noncomputable def q1o89 : Params → Obj := fun P => { cls := Value.type "tuple", data := Data.seq #[] }
noncomputable def q1o90 : Params → Obj := fun P => { cls := Value.type "dict", data := Data.dict #[{ hash := PyData.keyHash P (Str.ofString "__module__"), key := Value.str (Str.ofString "__module__") 355, val := Value.str (Str.ofString "pycodestyle") 289 }, { hash := PyData.keyHash P (Str.ofString "__firstlineno__"), key := Value.str (Str.ofString "__firstlineno__") 359, val := Value.int 24 358 }, { hash := PyData.keyHash P (Str.ofString "ENDMARKER"), key := Value.str (Str.ofString "ENDMARKER") 361, val := Value.int 0 360 }, { hash := PyData.keyHash P (Str.ofString "NAME"), key := Value.str (Str.ofString "NAME") 363, val := Value.int 1 362 }, { hash := PyData.keyHash P (Str.ofString "NUMBER"), key := Value.str (Str.ofString "NUMBER") 365, val := Value.int 2 364 }, { hash := PyData.keyHash P (Str.ofString "STRING"), key := Value.str (Str.ofString "STRING") 367, val := Value.int 3 366 }, { hash := PyData.keyHash P (Str.ofString "NEWLINE"), key := Value.str (Str.ofString "NEWLINE") 369, val := Value.int 4 368 }, { hash := PyData.keyHash P (Str.ofString "INDENT"), key := Value.str (Str.ofString "INDENT") 371, val := Value.int 5 370 }, { hash := PyData.keyHash P (Str.ofString "DEDENT"), key := Value.str (Str.ofString "DEDENT") 373, val := Value.int 6 372 }, { hash := PyData.keyHash P (Str.ofString "OP"), key := Value.str (Str.ofString "OP") 375, val := Value.int 54 374 }, { hash := PyData.keyHash P (Str.ofString "ERRORTOKEN"), key := Value.str (Str.ofString "ERRORTOKEN") 377, val := Value.int 60 376 }, { hash := PyData.keyHash P (Str.ofString "COMMENT"), key := Value.str (Str.ofString "COMMENT") 379, val := Value.int 61 378 }, { hash := PyData.keyHash P (Str.ofString "NL"), key := Value.str (Str.ofString "NL") 381, val := Value.int 62 380 }, { hash := PyData.keyHash P (Str.ofString "__static_attributes__"), key := Value.str (Str.ofString "__static_attributes__") 382, val := Value.ref 89 }, { hash := PyData.keyHash P (Str.ofString "__dict__"), key := Value.str (Str.ofString "__dict__") 384, val := Value.ref 92 }, { hash := PyData.keyHash P (Str.ofString "__weakref__"), key := Value.str (Str.ofString "__weakref__") 386, val := Value.ref 93 }, { hash := PyData.keyHash P (Str.ofString "__doc__"), key := Value.str (Str.ofString "__doc__") 387, val := Value.none }] 4 }
noncomputable def q1o91 : Params → Obj := fun P => { cls := Value.type "type", data := Data.cls { name := Str.ofString "tokenize", bases := [Value.type "object"], mro := [Value.ref 91, Value.type "object"], ns := 90, qualname := Str.ofString "tokenize" }, slots := #[Option.none, Option.none, Option.some (Value.str (Str.ofString "tokenize") 348), Option.some (Value.str (Str.ofString "tokenize") 356), Option.some (Value.builtin "object.__new__"), Option.some (Value.bool Bool.true)] }
noncomputable def q1o92 : Params → Obj := fun P => { cls := Value.type "getset_descriptor", data := Data.fields #[Value.str (Str.ofString "__dict__") 383, Value.ref 91, Value.builtin "function.__dict__", Value.builtin "function.__dict__#set"] }
noncomputable def q1o93 : Params → Obj := fun P => { cls := Value.type "getset_descriptor", data := Data.fields #[Value.str (Str.ofString "__weakref__") 385, Value.ref 91, Value.builtin "ExceptionGroup.__weakref__", Value.none] }
noncomputable def q1o94 : Params → Obj := fun P => { cls := Value.type "super", data := Data.fields #[Value.ref 91, Value.ref 91, Value.ref 91] }
noncomputable def q1o95 : Params → Obj := fun P => { cls := Value.type "builtin_function_or_method", data := Data.fields #[Value.builtin "object.__init_subclass__", Value.ref 91] }
noncomputable def q2o3 : Params → Obj := fun P => { cls := Value.type "dict", data := Data.dict #[{ hash := PyData.keyHash P (Str.ofString "__name__"), key := Value.str (Str.ofString "__name__") 165, val := Value.str (Str.ofString "pycodestyle") 289 }, { hash := PyData.keyHash P (Str.ofString "__doc__"), key := Value.str (Str.ofString "__doc__") 166, val := Value.none }, { hash := PyData.keyHash P (Str.ofString "__package__"), key := Value.str (Str.ofString "__package__") 167, val := Value.none }, { hash := PyData.keyHash P (Str.ofString "__loader__"), key := Value.str (Str.ofString "__loader__") 168, val := Value.builtin "__main__.__loader__#opaque" }, { hash := PyData.keyHash P (Str.ofString "__spec__"), key := Value.str (Str.ofString "__spec__") 169, val := Value.none }, { hash := PyData.keyHash P (Str.ofString "__annotations__"), key := Value.str (Str.ofString "__annotations__") 170, val := Value.ref 6 }, { hash := PyData.keyHash P (Str.ofString "__builtins__"), key := Value.str (Str.ofString "__builtins__") 171, val := Value.ref 4 }, { hash := PyData.keyHash P (Str.ofString "__file__"), key := Value.str (Str.ofString "__file__") 173, val := Value.str (Str.ofString "/claim/cut.py") 172 }, { hash := PyData.keyHash P (Str.ofString "__cached__"), key := Value.str (Str.ofString "__cached__") 174, val := Value.none }, { hash := PyData.keyHash P (Str.ofString "_sre"), key := Value.str (Str.ofString "_sre") 275, val := Value.ref 12 }, { hash := PyData.keyHash P (Str.ofString "_wall"), key := Value.str (Str.ofString "_wall") 288, val := Value.ref 38 }, { hash := PyData.keyHash P (Str.ofString "_tuplegetter"), key := Value.str (Str.ofString "_tuplegetter") 347, val := Value.ref 77 }, { hash := PyData.keyHash P (Str.ofString "tokenize"), key := Value.str (Str.ofString "tokenize") 389, val := Value.ref 91 }, { hash := PyData.keyHash P (Str.ofString "Token"), key := Value.str (Str.ofString "Token") 543, val := Value.ref 172 }] 14 }
noncomputable def q2o29 : Params → Obj := fun P => { cls := Value.none, data := Data.fields #[Value.int 2 0, Value.int 0 0, Value.ref 37, Value.int 6 0, Value.int 0 0, Value.ref 44, Value.int 24 0, Value.int 0 0, Value.ref 87, Value.int 36 0, Value.int 0 0, Value.ref 102] }
noncomputable def q2o96 : Params → Obj := fun P => { cls := Value.type "tuple", data := Data.seq #[Value.type "tuple"] }
noncomputable def q2o97 : Params → Obj := fun P => { cls := Value.type "builtin_function_or_method", data := Data.fields #[Value.builtin "type.__prepare__", Value.type "type"] }
noncomputable def q2o98 : Params → Obj := fun P => { cls := Value.type "dict", data := Data.dict #[{ hash := PyData.keyHash P (Str.ofString "__module__"), key := Value.str (Str.ofString "__module__") 397, val := Value.str (Str.ofString "pycodestyle") 289 }, { hash := PyData.keyHash P (Str.ofString "__qualname__"), key := Value.str (Str.ofString "__qualname__") 399, val := Value.str (Str.ofString "Token") 398 }, { hash := PyData.keyHash P (Str.ofString "__firstlineno__"), key := Value.str (Str.ofString "__firstlineno__") 401, val := Value.int 36 400 }, { hash := PyData.keyHash P (Str.ofString "__doc__"), key := Value.str (Str.ofString "__doc__") 403, val := Value.str (Str.ofString "Token(kind, string, start, end, line)") 402 }, { hash := PyData.keyHash P (Str.ofString "__slots__"), key := Value.str (Str.ofString "__slots__") 405, val := Value.ref 104 }, { hash := PyData.keyHash P (Str.ofString "_fields"), key := Value.str (Str.ofString "_fields") 411, val := Value.ref 105 }, { hash := PyData.keyHash P (Str.ofString "_field_defaults"), key := Value.str (Str.ofString "_field_defaults") 412, val := Value.ref 106 }, { hash := PyData.keyHash P (Str.ofString "__new__"), key := Value.str (Str.ofString "__new__") 425, val := Value.ref 113 }, { hash := PyData.keyHash P (Str.ofString "_make"), key := Value.str (Str.ofString "_make") 447, val := Value.ref 122 }, { hash := PyData.keyHash P (Str.ofString "_replace"), key := Value.str (Str.ofString "_replace") 458, val := Value.ref 131 }, { hash := PyData.keyHash P (Str.ofString "__replace__"), key := Value.str (Str.ofString "__replace__") 459, val := Value.ref 131 }, { hash := PyData.keyHash P (Str.ofString "__repr__"), key := Value.str (Str.ofString "__repr__") 467, val := Value.ref 138 }, { hash := PyData.keyHash P (Str.ofString "_asdict"), key := Value.str (Str.ofString "_asdict") 474, val := Value.ref 145 }, { hash := PyData.keyHash P (Str.ofString "__getnewargs__"), key := Value.str (Str.ofString "__getnewargs__") 482, val := Value.ref 152 }, { hash := PyData.keyHash P (Str.ofString "__match_args__"), key := Value.str (Str.ofString "__match_args__") 488, val := Value.ref 153 }, { hash := PyData.keyHash P (Str.ofString "kind"), key := Value.str (Str.ofString "kind") 498, val := Value.ref 155 }, { hash := PyData.keyHash P (Str.ofString "string"), key := Value.str (Str.ofString "string") 508, val := Value.ref 158 }, { hash := PyData.keyHash P (Str.ofString "start"), key := Value.str (Str.ofString "start") 518, val := Value.ref 161 }, { hash := PyData.keyHash P (Str.ofString "end"), key := Value.str (Str.ofString "end") 528, val := Value.ref 164 }, { hash := PyData.keyHash P (Str.ofString "line"), key := Value.str (Str.ofString "line") 538, val := Value.ref 167 }, { hash := PyData.keyHash P (Str.ofString "__static_attributes__"), key := Value.str (Str.ofString "__static_attributes__") 539, val := Value.ref 169 }, { hash := PyData.keyHash P (Str.ofString "__classcell__"), key := Value.str (Str.ofString "__classcell__") 540, val := Value.ref 99 }] 22 }
noncomputable def q2o99 : Params → Obj := fun P => { cls := Value.type "cell", data := Data.cell (Option.some (Value.ref 172)) }
noncomputable def q2o100 : Params → Obj := fun P => { cls := Value.type "tuple", data := Data.seq #[] }
noncomputable def q2o101 : Params → Obj := fun P => { cls := Value.none, data := Data.fields #[Value.int 42 0, Value.int 4 0, Value.ref 112, Value.int 47 0, Value.int 4 0, Value.ref 119, Value.int 54 0, Value.int 4 0, Value.ref 130, Value.int 65 0, Value.int 4 0, Value.ref 137, Value.int 69 0, Value.int 4 0, Value.ref 144, Value.int 72 0, Value.int 4 0, Value.ref 151] }
noncomputable def q2o102 : Params → Obj := fun P => { cls := Value.type "code", data := Data.fields #[Value.str (Str.ofString "Token") 392, Value.str (Str.ofString "Token") 393, Value.str (Str.ofString "/claim/cut.py") 394, Value.int 36 0, Value.int 0 0, Value.int 0 0, Value.int 0 0, Value.int 0 0, Value.ref 100, Value.bool Bool.false, Value.int 276 0, Value.ref 101, Value.none, Value.none, Value.none, Value.none, Value.int 395 0, Value.int 36 0, Value.str (Str.ofString "/claim/cut.py") 396] }
noncomputable def q2o103 : Params → Obj := fun P => { cls := Value.type "frame", slots := #[Option.some (Value.ref 102), Option.some (Value.ref 3), Option.some (Value.ref 98), Option.none, Option.some (Value.str (Str.ofString "pycodestyle") 289), Option.none, Option.some (Value.ref 0)] }
noncomputable def q2o104 : Params → Obj := fun P => { cls := Value.type "tuple", data := Data.seq #[] }
noncomputable def q2o105 : Params → Obj := fun P => { cls := Value.type "tuple", data := Data.seq #[Value.str (Str.ofString "kind") 406, Value.str (Str.ofString "string") 407, Value.str (Str.ofString "start") 408, Value.str (Str.ofString "end") 409, Value.str (Str.ofString "line") 410] }
noncomputable def q2o106 : Params → Obj := fun P => { cls := Value.type "dict", data := Data.dict #[] }
noncomputable def q2o107 : Params → Obj := fun P => { cls := Value.type "tuple", data := Data.seq #[] }
noncomputable def q2o108 : Params → Obj := fun P => { cls := Value.none, data := Data.fields #[] }
noncomputable def q2o109 : Params → Obj := fun P => { cls := Value.type "tuple", data := Data.seq #[Value.str (Str.ofString "_cls") 416, Value.str (Str.ofString "kind") 417, Value.str (Str.ofString "string") 418, Value.str (Str.ofString "start") 419, Value.str (Str.ofString "end") 420, Value.str (Str.ofString "line") 421] }
noncomputable def q2o110 : Params → Obj := fun P => { cls := Value.type "tuple", data := Data.seq #[] }
noncomputable def q2o111 : Params → Obj := fun P => { cls := Value.none, data := Data.func { name := Str.ofString "__new__", qualname := Str.ofString "Token.__new__", params := stA (tyM 5 "__new__"), body := .stmts (stB (tyM 5 "__new__")), scope := stS (tyM 5 "__new__"), globals := 0, closure := [], defaults := Value.none, kwdefaults := Value.none } }
noncomputable def q2o112 : Params → Obj := fun P => { cls := Value.type "code", data := Data.fields #[Value.str (Str.ofString "__new__") 413, Value.str (Str.ofString "Token.__new__") 414, Value.str (Str.ofString "/claim/cut.py") 415, Value.int 42 0, Value.int 6 0, Value.int 0 0, Value.int 0 0, Value.int 3 0, Value.ref 107, Value.bool Bool.true, Value.int 276 0, Value.ref 108, Value.none, Value.ref 109, Value.ref 110, Value.ref 111, Value.int 422 0, Value.int 42 0, Value.str (Str.ofString "/claim/cut.py") 423] }
noncomputable def q2o113 : Params → Obj := fun P => { cls := Value.type "function", data := Data.func { name := Str.ofString "__new__", qualname := Str.ofString "Token.__new__", params := stA (tyM 5 "__new__"), body := .stmts (stB (tyM 5 "__new__")), scope := stS (tyM 5 "__new__"), globals := 3, closure := [], defaults := Value.none, kwdefaults := Value.none, doc := Value.str (stD (tyM 5 "__new__")) 424, pyModule := Value.str (Str.ofString "pycodestyle") 289, code := Value.ref 112 } }
noncomputable def q2o114 : Params → Obj := fun P => { cls := Value.type "tuple", data := Data.seq #[] }
noncomputable def q2o115 : Params → Obj := fun P => { cls := Value.none, data := Data.fields #[] }
noncomputable def q2o116 : Params → Obj := fun P => { cls := Value.type "tuple", data := Data.seq #[Value.str (Str.ofString "cls") 429, Value.str (Str.ofString "iterable") 430, Value.str (Str.ofString "result") 431] }
noncomputable def q2o117 : Params → Obj := fun P => { cls := Value.type "tuple", data := Data.seq #[] }
noncomputable def q2o118 : Params → Obj := fun P => { cls := Value.none, data := Data.func { name := Str.ofString "_make", qualname := Str.ofString "Token._make", params := stA (tyM 5 "_make"), body := .stmts (stB (tyM 5 "_make")), scope := stS (tyM 5 "_make"), globals := 0, closure := [], defaults := Value.none, kwdefaults := Value.none } }
noncomputable def q2o119 : Params → Obj := fun P => { cls := Value.type "code", data := Data.fields #[Value.str (Str.ofString "_make") 426, Value.str (Str.ofString "Token._make") 427, Value.str (Str.ofString "/claim/cut.py") 428, Value.int 46 0, Value.int 2 0, Value.int 0 0, Value.int 0 0, Value.int 3 0, Value.ref 114, Value.bool Bool.true, Value.int 276 0, Value.ref 115, Value.none, Value.ref 116, Value.ref 117, Value.ref 118, Value.int 432 0, Value.int 46 0, Value.str (Str.ofString "/claim/cut.py") 433] }
noncomputable def q2o120 : Params → Obj := fun P => { cls := Value.type "function", data := Data.func { name := Str.ofString "_make", qualname := Str.ofString "Token._make", params := stA (tyM 5 "_make"), body := .stmts (stB (tyM 5 "_make")), scope := stS (tyM 5 "_make"), globals := 3, closure := [], defaults := Value.none, kwdefaults := Value.none, doc := Value.str (stD (tyM 5 "_make")) 434, pyModule := Value.str (Str.ofString "pycodestyle") 289, annotations := Option.some 123, code := Value.ref 119 } }
noncomputable def q2o121 : Params → Obj := fun P => { cls := Value.type "dict", data := Data.dict #[{ hash := PyData.keyHash P (Str.ofString "__module__"), key := Value.str (Str.ofString "__module__") 436, val := Value.str (Str.ofString "pycodestyle") 289 }, { hash := PyData.keyHash P (Str.ofString "__name__"), key := Value.str (Str.ofString "__name__") 439, val := Value.str (Str.ofString "_make") 438 }, { hash := PyData.keyHash P (Str.ofString "__qualname__"), key := Value.str (Str.ofString "__qualname__") 442, val := Value.str (Str.ofString "Token._make") 441 }, { hash := PyData.keyHash P (Str.ofString "__doc__"), key := Value.str (Str.ofString "__doc__") 444, val := Value.str (Str.ofString "Make a new Token object from a sequence or iterable") 434 }, { hash := PyData.keyHash P (Str.ofString "__annotations__"), key := Value.str (Str.ofString "__annotations__") 446, val := Value.ref 123 }] 5 }
noncomputable def q2o122 : Params → Obj := fun P => { cls := Value.type "classmethod", dict := Option.some 121, data := Data.fields #[Value.ref 120, Value.bool Bool.false] }
noncomputable def q2o123 : Params → Obj := fun P => { cls := Value.type "dict", data := Data.dict #[] }
noncomputable def q2o124 : Params → Obj := fun P => { cls := Value.type "tuple", data := Data.seq #[Value.ref 99] }
noncomputable def q2o125 : Params → Obj := fun P => { cls := Value.type "tuple", data := Data.seq #[Value.str (Str.ofString "__class__") 451] }
noncomputable def q2o126 : Params → Obj := fun P => { cls := Value.none, data := Data.fields #[] }
noncomputable def q2o127 : Params → Obj := fun P => { cls := Value.type "tuple", data := Data.seq #[Value.str (Str.ofString "self") 452, Value.str (Str.ofString "kwds") 453, Value.str (Str.ofString "result") 454] }
noncomputable def q2o128 : Params → Obj := fun P => { cls := Value.type "tuple", data := Data.seq #[] }
noncomputable def q2o129 : Params → Obj := fun P => { cls := Value.none, data := Data.func { name := Str.ofString "_replace", qualname := Str.ofString "Token._replace", params := stA (tyM 5 "_replace"), body := .stmts (stB (tyM 5 "_replace")), scope := stS (tyM 5 "_replace"), globals := 0, closure := [], defaults := Value.none, kwdefaults := Value.none } }
noncomputable def q2o130 : Params → Obj := fun P => { cls := Value.type "code", data := Data.fields #[Value.str (Str.ofString "_replace") 448, Value.str (Str.ofString "Token._replace") 449, Value.str (Str.ofString "/claim/cut.py") 450, Value.int 54 0, Value.int 1 0, Value.int 1 0, Value.int 0 0, Value.int 11 0, Value.ref 125, Value.bool Bool.true, Value.int 276 0, Value.ref 126, Value.none, Value.ref 127, Value.ref 128, Value.ref 129, Value.int 455 0, Value.int 54 0, Value.str (Str.ofString "/claim/cut.py") 456] }
noncomputable def q2o131 : Params → Obj := fun P => { cls := Value.type "function", data := Data.func { name := Str.ofString "_replace", qualname := Str.ofString "Token._replace", params := stA (tyM 5 "_replace"), body := .stmts (stB (tyM 5 "_replace")), scope := stS (tyM 5 "_replace"), globals := 3, closure := [(Str.ofString "__class__", 99)], defaults := Value.none, kwdefaults := Value.none, doc := Value.str (stD (tyM 5 "_replace")) 457, pyModule := Value.str (Str.ofString "pycodestyle") 289, code := Value.ref 130, closureTuple := Value.ref 124 } }
noncomputable def q2o132 : Params → Obj := fun P => { cls := Value.type "tuple", data := Data.seq #[] }
noncomputable def q2o133 : Params → Obj := fun P => { cls := Value.none, data := Data.fields #[] }
noncomputable def q2o134 : Params → Obj := fun P => { cls := Value.type "tuple", data := Data.seq #[Value.str (Str.ofString "self") 463] }
noncomputable def q2o135 : Params → Obj := fun P => { cls := Value.type "tuple", data := Data.seq #[] }
noncomputable def q2o136 : Params → Obj := fun P => { cls := Value.none, data := Data.func { name := Str.ofString "__repr__", qualname := Str.ofString "Token.__repr__", params := stA (tyM 5 "__repr__"), body := .stmts (stB (tyM 5 "__repr__")), scope := stS (tyM 5 "__repr__"), globals := 0, closure := [], defaults := Value.none, kwdefaults := Value.none } }
noncomputable def q2o137 : Params → Obj := fun P => { cls := Value.type "code", data := Data.fields #[Value.str (Str.ofString "__repr__") 460, Value.str (Str.ofString "Token.__repr__") 461, Value.str (Str.ofString "/claim/cut.py") 462, Value.int 65 0, Value.int 1 0, Value.int 0 0, Value.int 0 0, Value.int 3 0, Value.ref 132, Value.bool Bool.true, Value.int 276 0, Value.ref 133, Value.none, Value.ref 134, Value.ref 135, Value.ref 136, Value.int 464 0, Value.int 65 0, Value.str (Str.ofString "/claim/cut.py") 465] }
noncomputable def q2o138 : Params → Obj := fun P => { cls := Value.type "function", data := Data.func { name := Str.ofString "__repr__", qualname := Str.ofString "Token.__repr__", params := stA (tyM 5 "__repr__"), body := .stmts (stB (tyM 5 "__repr__")), scope := stS (tyM 5 "__repr__"), globals := 3, closure := [], defaults := Value.none, kwdefaults := Value.none, doc := Value.str (stD (tyM 5 "__repr__")) 466, pyModule := Value.str (Str.ofString "pycodestyle") 289, code := Value.ref 137 } }
noncomputable def q2o139 : Params → Obj := fun P => { cls := Value.type "tuple", data := Data.seq #[] }
noncomputable def q2o140 : Params → Obj := fun P => { cls := Value.none, data := Data.fields #[] }
noncomputable def q2o141 : Params → Obj := fun P => { cls := Value.type "tuple", data := Data.seq #[Value.str (Str.ofString "self") 471] }
noncomputable def q2o142 : Params → Obj := fun P => { cls := Value.type "tuple", data := Data.seq #[] }
noncomputable def q2o143 : Params → Obj := fun P => { cls := Value.none, data := Data.func { name := Str.ofString "_asdict", qualname := Str.ofString "Token._asdict", params := stA (tyM 5 "_asdict"), body := .stmts (stB (tyM 5 "_asdict")), scope := stS (tyM 5 "_asdict"), globals := 0, closure := [], defaults := Value.none, kwdefaults := Value.none } }
noncomputable def q2o144 : Params → Obj := fun P => { cls := Value.type "code", data := Data.fields #[Value.str (Str.ofString "_asdict") 468, Value.str (Str.ofString "Token._asdict") 469, Value.str (Str.ofString "/claim/cut.py") 470, Value.int 69 0, Value.int 1 0, Value.int 0 0, Value.int 0 0, Value.int 3 0, Value.ref 139, Value.bool Bool.true, Value.int 276 0, Value.ref 140, Value.none, Value.ref 141, Value.ref 142, Value.ref 143, Value.int 472 0, Value.int 69 0, Value.str (Str.ofString "/claim/cut.py") 473] }
noncomputable def q2o145 : Params → Obj := fun P => { cls := Value.type "function", data := Data.func { name := Str.ofString "_asdict", qualname := Str.ofString "Token._asdict", params := stA (tyM 5 "_asdict"), body := .stmts (stB (tyM 5 "_asdict")), scope := stS (tyM 5 "_asdict"), globals := 3, closure := [], defaults := Value.none, kwdefaults := Value.none, pyModule := Value.str (Str.ofString "pycodestyle") 289, code := Value.ref 144 } }
noncomputable def q2o146 : Params → Obj := fun P => { cls := Value.type "tuple", data := Data.seq #[] }
noncomputable def q2o147 : Params → Obj := fun P => { cls := Value.none, data := Data.fields #[] }
noncomputable def q2o148 : Params → Obj := fun P => { cls := Value.type "tuple", data := Data.seq #[Value.str (Str.ofString "self") 478] }
noncomputable def q2o149 : Params → Obj := fun P => { cls := Value.type "tuple", data := Data.seq #[] }
noncomputable def q2o150 : Params → Obj := fun P => { cls := Value.none, data := Data.func { name := Str.ofString "__getnewargs__", qualname := Str.ofString "Token.__getnewargs__", params := stA (tyM 5 "__getnewargs__"), body := .stmts (stB (tyM 5 "__getnewargs__")), scope := stS (tyM 5 "__getnewargs__"), globals := 0, closure := [], defaults := Value.none, kwdefaults := Value.none } }
noncomputable def q2o151 : Params → Obj := fun P => { cls := Value.type "code", data := Data.fields #[Value.str (Str.ofString "__getnewargs__") 475, Value.str (Str.ofString "Token.__getnewargs__") 476, Value.str (Str.ofString "/claim/cut.py") 477, Value.int 72 0, Value.int 1 0, Value.int 0 0, Value.int 0 0, Value.int 3 0, Value.ref 146, Value.bool Bool.true, Value.int 276 0, Value.ref 147, Value.none, Value.ref 148, Value.ref 149, Value.ref 150, Value.int 479 0, Value.int 72 0, Value.str (Str.ofString "/claim/cut.py") 480] }
noncomputable def q2o152 : Params → Obj := fun P => { cls := Value.type "function", data := Data.func { name := Str.ofString "__getnewargs__", qualname := Str.ofString "Token.__getnewargs__", params := stA (tyM 5 "__getnewargs__"), body := .stmts (stB (tyM 5 "__getnewargs__")), scope := stS (tyM 5 "__getnewargs__"), globals := 3, closure := [], defaults := Value.none, kwdefaults := Value.none, doc := Value.str (stD (tyM 5 "__getnewargs__")) 481, pyModule := Value.str (Str.ofString "pycodestyle") 289, code := Value.ref 151 } }
noncomputable def q2o153 : Params → Obj := fun P => { cls := Value.type "tuple", data := Data.seq #[Value.str (Str.ofString "kind") 483, Value.str (Str.ofString "string") 484, Value.str (Str.ofString "start") 485, Value.str (Str.ofString "end") 486, Value.str (Str.ofString "line") 487] }
noncomputable def q2o154 : Params → Obj := fun P => { cls := Value.type "dict", data := Data.dict #[{ hash := PyData.keyHash P (Str.ofString "index"), key := Value.str (Str.ofString "index") 495, val := Value.int 0 489 }, { hash := PyData.keyHash P (Str.ofString "__doc__"), key := Value.str (Str.ofString "__doc__") 497, val := Value.str (Str.ofString "Alias for field number 0") 490 }] 2 }
noncomputable def q2o155 : Params → Obj := fun P => { cls := Value.ref 77, dict := Option.some 154 }
noncomputable def q2o156 : Params → Obj := fun P => { cls := Value.type "frame", data := Data.dict #[{ hash := PyData.keyHash P (Str.ofString "self"), key := Value.str (Str.ofString "self") 491, val := Value.ref 155 }, { hash := PyData.keyHash P (Str.ofString "index"), key := Value.str (Str.ofString "index") 492, val := Value.int 0 489 }, { hash := PyData.keyHash P (Str.ofString "doc"), key := Value.str (Str.ofString "doc") 493, val := Value.str (Str.ofString "Alias for field number 0") 490 }] 3 }
noncomputable def q2o157 : Params → Obj := fun P => { cls := Value.type "dict", data := Data.dict #[{ hash := PyData.keyHash P (Str.ofString "index"), key := Value.str (Str.ofString "index") 505, val := Value.int 1 499 }, { hash := PyData.keyHash P (Str.ofString "__doc__"), key := Value.str (Str.ofString "__doc__") 507, val := Value.str (Str.ofString "Alias for field number 1") 500 }] 2 }
noncomputable def q2o158 : Params → Obj := fun P => { cls := Value.ref 77, dict := Option.some 157 }
noncomputable def q2o159 : Params → Obj := fun P => { cls := Value.type "frame", data := Data.dict #[{ hash := PyData.keyHash P (Str.ofString "self"), key := Value.str (Str.ofString "self") 501, val := Value.ref 158 }, { hash := PyData.keyHash P (Str.ofString "index"), key := Value.str (Str.ofString "index") 502, val := Value.int 1 499 }, { hash := PyData.keyHash P (Str.ofString "doc"), key := Value.str (Str.ofString "doc") 503, val := Value.str (Str.ofString "Alias for field number 1") 500 }] 3 }
noncomputable def q2o160 : Params → Obj := fun P => { cls := Value.type "dict", data := Data.dict #[{ hash := PyData.keyHash P (Str.ofString "index"), key := Value.str (Str.ofString "index") 515, val := Value.int 2 509 }, { hash := PyData.keyHash P (Str.ofString "__doc__"), key := Value.str (Str.ofString "__doc__") 517, val := Value.str (Str.ofString "Alias for field number 2") 510 }] 2 }
noncomputable def q2o161 : Params → Obj := fun P => { cls := Value.ref 77, dict := Option.some 160 }
noncomputable def q2o162 : Params → Obj := fun P => { cls := Value.type "frame", data := Data.dict #[{ hash := PyData.keyHash P (Str.ofString "self"), key := Value.str (Str.ofString "self") 511, val := Value.ref 161 }, { hash := PyData.keyHash P (Str.ofString "index"), key := Value.str (Str.ofString "index") 512, val := Value.int 2 509 }, { hash := PyData.keyHash P (Str.ofString "doc"), key := Value.str (Str.ofString "doc") 513, val := Value.str (Str.ofString "Alias for field number 2") 510 }] 3 }
noncomputable def q2o163 : Params → Obj := fun P => { cls := Value.type "dict", data := Data.dict #[{ hash := PyData.keyHash P (Str.ofString "index"), key := Value.str (Str.ofString "index") 525, val := Value.int 3 519 }, { hash := PyData.keyHash P (Str.ofString "__doc__"), key := Value.str (Str.ofString "__doc__") 527, val := Value.str (Str.ofString "Alias for field number 3") 520 }] 2 }
noncomputable def q2o164 : Params → Obj := fun P => { cls := Value.ref 77, dict := Option.some 163 }
noncomputable def q2o165 : Params → Obj := fun P => { cls := Value.type "frame", data := Data.dict #[{ hash := PyData.keyHash P (Str.ofString "self"), key := Value.str (Str.ofString "self") 521, val := Value.ref 164 }, { hash := PyData.keyHash P (Str.ofString "index"), key := Value.str (Str.ofString "index") 522, val := Value.int 3 519 }, { hash := PyData.keyHash P (Str.ofString "doc"), key := Value.str (Str.ofString "doc") 523, val := Value.str (Str.ofString "Alias for field number 3") 520 }] 3 }
noncomputable def q2o166 : Params → Obj := fun P => { cls := Value.type "dict", data := Data.dict #[{ hash := PyData.keyHash P (Str.ofString "index"), key := Value.str (Str.ofString "index") 535, val := Value.int 4 529 }, { hash := PyData.keyHash P (Str.ofString "__doc__"), key := Value.str (Str.ofString "__doc__") 537, val := Value.str (Str.ofString "Alias for field number 4") 530 }] 2 }
noncomputable def q2o167 : Params → Obj := fun P => { cls := Value.ref 77, dict := Option.some 166 }
noncomputable def q2o168 : Params → Obj := fun P => { cls := Value.type "frame", data := Data.dict #[{ hash := PyData.keyHash P (Str.ofString "self"), key := Value.str (Str.ofString "self") 531, val := Value.ref 167 }, { hash := PyData.keyHash P (Str.ofString "index"), key := Value.str (Str.ofString "index") 532, val := Value.int 4 529 }, { hash := PyData.keyHash P (Str.ofString "doc"), key := Value.str (Str.ofString "doc") 533, val := Value.str (Str.ofString "Alias for field number 4") 530 }] 3 }
noncomputable def q2o169 : Params → Obj := fun P => { cls := Value.type "tuple", data := Data.seq #[] }
noncomputable def q2o170 : Params → Obj := fun P => { cls := Value.type "list", data := Data.seq #[] }
noncomputable def q2o171 : Params → Obj := fun P => { cls := Value.type "dict", data := Data.dict #[{ hash := PyData.keyHash P (Str.ofString "__module__"), key := Value.str (Str.ofString "__module__") 397, val := Value.str (Str.ofString "pycodestyle") 289 }, { hash := PyData.keyHash P (Str.ofString "__firstlineno__"), key := Value.str (Str.ofString "__firstlineno__") 401, val := Value.int 36 400 }, { hash := PyData.keyHash P (Str.ofString "__doc__"), key := Value.str (Str.ofString "__doc__") 403, val := Value.str (Str.ofString "Token(kind, string, start, end, line)") 402 }, { hash := PyData.keyHash P (Str.ofString "__slots__"), key := Value.str (Str.ofString "__slots__") 405, val := Value.ref 104 }, { hash := PyData.keyHash P (Str.ofString "_fields"), key := Value.str (Str.ofString "_fields") 411, val := Value.ref 105 }, { hash := PyData.keyHash P (Str.ofString "_field_defaults"), key := Value.str (Str.ofString "_field_defaults") 412, val := Value.ref 106 }, { hash := PyData.keyHash P (Str.ofString "__new__"), key := Value.str (Str.ofString "__new__") 425, val := Value.ref 173 }, { hash := PyData.keyHash P (Str.ofString "_make"), key := Value.str (Str.ofString "_make") 447, val := Value.ref 122 }, { hash := PyData.keyHash P (Str.ofString "_replace"), key := Value.str (Str.ofString "_replace") 458, val := Value.ref 131 }, { hash := PyData.keyHash P (Str.ofString "__replace__"), key := Value.str (Str.ofString "__replace__") 459, val := Value.ref 131 }, { hash := PyData.keyHash P (Str.ofString "__repr__"), key := Value.str (Str.ofString "__repr__") 467, val := Value.ref 138 }, { hash := PyData.keyHash P (Str.ofString "_asdict"), key := Value.str (Str.ofString "_asdict") 474, val := Value.ref 145 }, { hash := PyData.keyHash P (Str.ofString "__getnewargs__"), key := Value.str (Str.ofString "__getnewargs__") 482, val := Value.ref 152 }, { hash := PyData.keyHash P (Str.ofString "__match_args__"), key := Value.str (Str.ofString "__match_args__") 488, val := Value.ref 153 }, { hash := PyData.keyHash P (Str.ofString "kind"), key := Value.str (Str.ofString "kind") 498, val := Value.ref 155 }, { hash := PyData.keyHash P (Str.ofString "string"), key := Value.str (Str.ofString "string") 508, val := Value.ref 158 }, { hash := PyData.keyHash P (Str.ofString "start"), key := Value.str (Str.ofString "start") 518, val := Value.ref 161 }, { hash := PyData.keyHash P (Str.ofString "end"), key := Value.str (Str.ofString "end") 528, val := Value.ref 164 }, { hash := PyData.keyHash P (Str.ofString "line"), key := Value.str (Str.ofString "line") 538, val := Value.ref 167 }, { hash := PyData.keyHash P (Str.ofString "__static_attributes__"), key := Value.str (Str.ofString "__static_attributes__") 539, val := Value.ref 169 }] 2 }
noncomputable def q2o172 : Params → Obj := fun P => { cls := Value.type "type", data := Data.cls { name := Str.ofString "Token", bases := [Value.type "tuple"], mro := [Value.ref 172, Value.type "tuple", Value.type "object"], ns := 171, qualname := Str.ofString "Token", hasDict := Bool.false }, slots := #[Option.some (Value.ref 96), Option.none, Option.some (Value.str (Str.ofString "Token") 390), Option.some (Value.str (Str.ofString "Token") 398), Option.some Value.none, Option.some (Value.bool Bool.false)] }
noncomputable def q2o173 : Params → Obj := fun P => { cls := Value.type "staticmethod", data := Data.fields #[Value.ref 113] }
noncomputable def q2o174 : Params → Obj := fun P => { cls := Value.type "super", data := Data.fields #[Value.ref 172, Value.ref 172, Value.ref 172] }
noncomputable def q2o175 : Params → Obj := fun P => { cls := Value.type "builtin_function_or_method", data := Data.fields #[Value.builtin "object.__init_subclass__", Value.ref 172] }
noncomputable def q3o3 : Params → Obj := fun P => { cls := Value.type "dict", data := Data.dict #[{ hash := PyData.keyHash P (Str.ofString "__name__"), key := Value.str (Str.ofString "__name__") 165, val := Value.str (Str.ofString "law_bd0043_01") 731 }, { hash := PyData.keyHash P (Str.ofString "__doc__"), key := Value.str (Str.ofString "__doc__") 166, val := Value.none }, { hash := PyData.keyHash P (Str.ofString "__package__"), key := Value.str (Str.ofString "__package__") 167, val := Value.none }, { hash := PyData.keyHash P (Str.ofString "__loader__"), key := Value.str (Str.ofString "__loader__") 168, val := Value.builtin "__main__.__loader__#opaque" }, { hash := PyData.keyHash P (Str.ofString "__spec__"), key := Value.str (Str.ofString "__spec__") 169, val := Value.none }, { hash := PyData.keyHash P (Str.ofString "__annotations__"), key := Value.str (Str.ofString "__annotations__") 170, val := Value.ref 6 }, { hash := PyData.keyHash P (Str.ofString "__builtins__"), key := Value.str (Str.ofString "__builtins__") 171, val := Value.ref 4 }, { hash := PyData.keyHash P (Str.ofString "__file__"), key := Value.str (Str.ofString "__file__") 173, val := Value.str (Str.ofString "/claim/cut.py") 172 }, { hash := PyData.keyHash P (Str.ofString "__cached__"), key := Value.str (Str.ofString "__cached__") 174, val := Value.none }, { hash := PyData.keyHash P (Str.ofString "_sre"), key := Value.str (Str.ofString "_sre") 275, val := Value.ref 12 }, { hash := PyData.keyHash P (Str.ofString "_wall"), key := Value.str (Str.ofString "_wall") 288, val := Value.ref 38 }, { hash := PyData.keyHash P (Str.ofString "_tuplegetter"), key := Value.str (Str.ofString "_tuplegetter") 347, val := Value.ref 77 }, { hash := PyData.keyHash P (Str.ofString "tokenize"), key := Value.str (Str.ofString "tokenize") 389, val := Value.ref 91 }, { hash := PyData.keyHash P (Str.ofString "Token"), key := Value.str (Str.ofString "Token") 543, val := Value.ref 172 }, { hash := PyData.keyHash P (Str.ofString "STARTSWITH_DEF_REGEX"), key := Value.str (Str.ofString "STARTSWITH_DEF_REGEX") 603, val := Value.ref 180 }, { hash := PyData.keyHash P (Str.ofString "STARTSWITH_GENERIC_REGEX"), key := Value.str (Str.ofString "STARTSWITH_GENERIC_REGEX") 707, val := Value.ref 185 }, { hash := PyData.keyHash P (Str.ofString "whitespace_around_named_parameter_equals"), key := Value.str (Str.ofString "whitespace_around_named_parameter_equals") 730, val := Value.ref 192 }, { hash := PyData.keyHash P (Str.ofString "_law_far"), key := Value.str (Str.ofString "_law_far") 734, val := Value.str (Str.ofString "E251 unexpected spaces around keyword / parameter equals") 733 }, { hash := PyData.keyHash P (Str.ofString "_law_near"), key := Value.str (Str.ofString "_law_near") 736, val := Value.str (Str.ofString "E252 missing whitespace around parameter equals") 735 }, { hash := PyData.keyHash P (Str.ofString "_law_cell"), key := Value.str (Str.ofString "_law_cell") 744, val := Value.ref 199 }, { hash := PyData.keyHash P (Str.ofString "_law_kind"), key := Value.str (Str.ofString "_law_kind") 751, val := Value.ref 206 }, { hash := PyData.keyHash P (Str.ofString "_law_tokens"), key := Value.str (Str.ofString "_law_tokens") 766, val := Value.ref 213 }, { hash := PyData.keyHash P (Str.ofString "_law_equals"), key := Value.str (Str.ofString "_law_equals") 777, val := Value.ref 220 }, { hash := PyData.keyHash P (Str.ofString "_law_built"), key := Value.str (Str.ofString "_law_built") 792, val := Value.ref 227 }, { hash := PyData.keyHash P (Str.ofString "law"), key := Value.str (Str.ofString "law") 809, val := Value.ref 234 }] 25 }
noncomputable def q3o29 : Params → Obj := fun P => { cls := Value.none, data := Data.fields #[Value.int 2 0, Value.int 0 0, Value.ref 37, Value.int 6 0, Value.int 0 0, Value.ref 44, Value.int 24 0, Value.int 0 0, Value.ref 87, Value.int 36 0, Value.int 0 0, Value.ref 102, Value.int 83 0, Value.int 0 0, Value.ref 191, Value.int 147 0, Value.int 0 0, Value.ref 198, Value.int 149 0, Value.int 0 0, Value.ref 205, Value.int 155 0, Value.int 0 0, Value.ref 212, Value.int 165 0, Value.int 0 0, Value.ref 219, Value.int 168 0, Value.int 0 0, Value.ref 226, Value.int 187 0, Value.int 0 0, Value.ref 233] }
noncomputable def q3o176 : Params → Obj := fun P => { cls := Value.type "list", data := Data.seq #[Value.int 14 547, Value.int 4 548, Value.int 0 549, Value.int 3 550, Value.int 4294967295 551, Value.int 6 552, Value.int 0 553, Value.int 17 554, Value.int 0 555, Value.int 7 556, Value.int 29 557, Value.int 16 558, Value.int 97 559, Value.int 16 560, Value.int 115 561, Value.int 16 562, Value.int 121 563, Value.int 16 564, Value.int 110 565, Value.int 16 566, Value.int 99 567, Value.int 24 568, Value.int 9 569, Value.int 1 570, Value.int 4294967295 571, Value.int 13 572, Value.int 4 573, Value.int 8 574, Value.int 12 575, Value.int 0 576, Value.int 1 577, Value.int 16 578, Value.int 100 579, Value.int 16 580, Value.int 101 581, Value.int 16 582, Value.int 102 583, Value.int 15 584, Value.int 11 585, Value.int 9 586, Value.int 16 587, Value.int 100 588, Value.int 16 589, Value.int 101 590, Value.int 16 591, Value.int 102 592, Value.int 15 593, Value.int 2 594, Value.int 0 595, Value.int 17 596, Value.int 1 597, Value.int 6 598, Value.int 10 599, Value.int 1 600] }
noncomputable def q3o177 : Params → Obj := fun P => { cls := Value.type "dict", data := Data.dict #[] }
noncomputable def q3o178 : Params → Obj := fun P => { cls := Value.type "tuple", data := Data.seq #[Value.none, Value.none] }
noncomputable def q3o179 : Params → Obj := fun P => { cls := Value.type "tuple", data := Data.seq #[Value.int 14 0, Value.int 4 0, Value.int 0 0, Value.int 3 0, Value.int 4294967295 0, Value.int 6 0, Value.int 0 0, Value.int 17 0, Value.int 0 0, Value.int 7 0, Value.int 29 0, Value.int 16 0, Value.int 97 0, Value.int 16 0, Value.int 115 0, Value.int 16 0, Value.int 121 0, Value.int 16 0, Value.int 110 0, Value.int 16 0, Value.int 99 0, Value.int 24 0, Value.int 9 0, Value.int 1 0, Value.int 4294967295 0, Value.int 13 0, Value.int 4 0, Value.int 8 0, Value.int 12 0, Value.int 0 0, Value.int 1 0, Value.int 16 0, Value.int 100 0, Value.int 16 0, Value.int 101 0, Value.int 16 0, Value.int 102 0, Value.int 15 0, Value.int 11 0, Value.int 9 0, Value.int 16 0, Value.int 100 0, Value.int 16 0, Value.int 101 0, Value.int 16 0, Value.int 102 0, Value.int 15 0, Value.int 2 0, Value.int 0 0, Value.int 17 0, Value.int 1 0, Value.int 6 0, Value.int 10 0, Value.int 1 0] }
noncomputable def q3o180 : Params → Obj := fun P => { cls := Value.type "re.Pattern", data := Data.fields #[Value.str (Str.ofString "^(async\\s+def|def)\\b") 545, Value.int 32 602, Value.int 1 0, Value.none, Value.none, Value.ref 179, Value.int 0 0] }
noncomputable def q3o181 : Params → Obj := fun P => { cls := Value.type "list", data := Data.seq #[Value.int 14 607, Value.int 4 608, Value.int 0 609, Value.int 6 610, Value.int 4294967295 611, Value.int 6 612, Value.int 0 613, Value.int 17 614, Value.int 0 615, Value.int 7 616, Value.int 29 617, Value.int 16 618, Value.int 97 619, Value.int 16 620, Value.int 115 621, Value.int 16 622, Value.int 121 623, Value.int 16 624, Value.int 110 625, Value.int 16 626, Value.int 99 627, Value.int 24 628, Value.int 9 629, Value.int 1 630, Value.int 4294967295 631, Value.int 13 632, Value.int 4 633, Value.int 8 634, Value.int 12 635, Value.int 0 636, Value.int 1 637, Value.int 16 638, Value.int 100 639, Value.int 16 640, Value.int 101 641, Value.int 16 642, Value.int 102 643, Value.int 15 644, Value.int 35 645, Value.int 9 646, Value.int 16 647, Value.int 100 648, Value.int 16 649, Value.int 101 650, Value.int 16 651, Value.int 102 652, Value.int 15 653, Value.int 26 654, Value.int 13 655, Value.int 16 656, Value.int 99 657, Value.int 16 658, Value.int 108 659, Value.int 16 660, Value.int 97 661, Value.int 16 662, Value.int 115 663, Value.int 16 664, Value.int 115 665, Value.int 15 666, Value.int 13 667, Value.int 11 668, Value.int 16 669, Value.int 116 670, Value.int 16 671, Value.int 121 672, Value.int 16 673, Value.int 112 674, Value.int 16 675, Value.int 101 676, Value.int 15 677, Value.int 2 678, Value.int 0 679, Value.int 17 680, Value.int 1 681, Value.int 24 682, Value.int 9 683, Value.int 1 684, Value.int 4294967295 685, Value.int 13 686, Value.int 4 687, Value.int 8 688, Value.int 12 689, Value.int 0 690, Value.int 1 691, Value.int 24 692, Value.int 9 693, Value.int 1 694, Value.int 4294967295 695, Value.int 13 696, Value.int 4 697, Value.int 8 698, Value.int 14 699, Value.int 0 700, Value.int 1 701, Value.int 16 702, Value.int 91 703, Value.int 1 704] }
noncomputable def q3o182 : Params → Obj := fun P => { cls := Value.type "dict", data := Data.dict #[] }
noncomputable def q3o183 : Params → Obj := fun P => { cls := Value.type "tuple", data := Data.seq #[Value.none, Value.none] }
noncomputable def q3o184 : Params → Obj := fun P => { cls := Value.type "tuple", data := Data.seq #[Value.int 14 0, Value.int 4 0, Value.int 0 0, Value.int 6 0, Value.int 4294967295 0, Value.int 6 0, Value.int 0 0, Value.int 17 0, Value.int 0 0, Value.int 7 0, Value.int 29 0, Value.int 16 0, Value.int 97 0, Value.int 16 0, Value.int 115 0, Value.int 16 0, Value.int 121 0, Value.int 16 0, Value.int 110 0, Value.int 16 0, Value.int 99 0, Value.int 24 0, Value.int 9 0, Value.int 1 0, Value.int 4294967295 0, Value.int 13 0, Value.int 4 0, Value.int 8 0, Value.int 12 0, Value.int 0 0, Value.int 1 0, Value.int 16 0, Value.int 100 0, Value.int 16 0, Value.int 101 0, Value.int 16 0, Value.int 102 0, Value.int 15 0, Value.int 35 0, Value.int 9 0, Value.int 16 0, Value.int 100 0, Value.int 16 0, Value.int 101 0, Value.int 16 0, Value.int 102 0, Value.int 15 0, Value.int 26 0, Value.int 13 0, Value.int 16 0, Value.int 99 0, Value.int 16 0, Value.int 108 0, Value.int 16 0, Value.int 97 0, Value.int 16 0, Value.int 115 0, Value.int 16 0, Value.int 115 0, Value.int 15 0, Value.int 13 0, Value.int 11 0, Value.int 16 0, Value.int 116 0, Value.int 16 0, Value.int 121 0, Value.int 16 0, Value.int 112 0, Value.int 16 0, Value.int 101 0, Value.int 15 0, Value.int 2 0, Value.int 0 0, Value.int 17 0, Value.int 1 0, Value.int 24 0, Value.int 9 0, Value.int 1 0, Value.int 4294967295 0, Value.int 13 0, Value.int 4 0, Value.int 8 0, Value.int 12 0, Value.int 0 0, Value.int 1 0, Value.int 24 0, Value.int 9 0, Value.int 1 0, Value.int 4294967295 0, Value.int 13 0, Value.int 4 0, Value.int 8 0, Value.int 14 0, Value.int 0 0, Value.int 1 0, Value.int 16 0, Value.int 91 0, Value.int 1 0] }
noncomputable def q3o185 : Params → Obj := fun P => { cls := Value.type "re.Pattern", data := Data.fields #[Value.str (Str.ofString "^(async\\s+def|def|class|type)\\s+\\w+\\[") 605, Value.int 32 706, Value.int 1 0, Value.none, Value.none, Value.ref 184, Value.int 0 0] }
noncomputable def q3o186 : Params → Obj := fun P => { cls := Value.type "tuple", data := Data.seq #[] }
noncomputable def q3o187 : Params → Obj := fun P => { cls := Value.none, data := Data.fields #[] }
noncomputable def q3o188 : Params → Obj := fun P => { cls := Value.type "tuple", data := Data.seq #[Value.str (Str.ofString "logical_line") 711, Value.str (Str.ofString "tokens") 712, Value.str (Str.ofString "paren_stack") 713, Value.str (Str.ofString "no_space") 714, Value.str (Str.ofString "require_space") 715, Value.str (Str.ofString "prev_end") 716, Value.str (Str.ofString "annotated_func_arg") 717, Value.str (Str.ofString "in_def") 718, Value.str (Str.ofString "in_generic") 719, Value.str (Str.ofString "message") 720, Value.str (Str.ofString "missing_message") 721, Value.str (Str.ofString "token_type") 722, Value.str (Str.ofString "text") 723, Value.str (Str.ofString "start") 724, Value.str (Str.ofString "end") 725, Value.str (Str.ofString "line") 726] }
noncomputable def q3o189 : Params → Obj := fun P => { cls := Value.type "tuple", data := Data.seq #[] }
noncomputable def q3o190 : Params → Obj := fun P => { cls := Value.none, data := Data.func { name := Str.ofString "whitespace_around_named_parameter_equals", qualname := Str.ofString "whitespace_around_named_parameter_equals", params := stA (tyF "whitespace_around_named_parameter_equals"), body := .stmts (stB (tyF "whitespace_around_named_parameter_equals")), scope := stS (tyF "whitespace_around_named_parameter_equals"), globals := 0, closure := [], defaults := Value.none, kwdefaults := Value.none } }
noncomputable def q3o191 : Params → Obj := fun P => { cls := Value.type "code", data := Data.fields #[Value.str (Str.ofString "whitespace_around_named_parameter_equals") 708, Value.str (Str.ofString "whitespace_around_named_parameter_equals") 709, Value.str (Str.ofString "/claim/cut.py") 710, Value.int 83 0, Value.int 2 0, Value.int 0 0, Value.int 0 0, Value.int 35 0, Value.ref 186, Value.bool Bool.true, Value.int 276 0, Value.ref 187, Value.none, Value.ref 188, Value.ref 189, Value.ref 190, Value.int 727 0, Value.int 83 0, Value.str (Str.ofString "/claim/cut.py") 728] }
noncomputable def q3o192 : Params → Obj := fun P => { cls := Value.type "function", data := Data.func { name := Str.ofString "whitespace_around_named_parameter_equals", qualname := Str.ofString "whitespace_around_named_parameter_equals", params := stA (tyF "whitespace_around_named_parameter_equals"), body := .stmts (stB (tyF "whitespace_around_named_parameter_equals")), scope := stS (tyF "whitespace_around_named_parameter_equals"), globals := 3, closure := [], defaults := Value.none, kwdefaults := Value.none, doc := Value.str (stD (tyF "whitespace_around_named_parameter_equals")) 729, pyModule := Value.str (Str.ofString "pycodestyle") 289, code := Value.ref 191 } }
noncomputable def q3o193 : Params → Obj := fun P => { cls := Value.type "tuple", data := Data.seq #[] }
noncomputable def q3o194 : Params → Obj := fun P => { cls := Value.none, data := Data.fields #[] }
noncomputable def q3o195 : Params → Obj := fun P => { cls := Value.type "tuple", data := Data.seq #[Value.str (Str.ofString "script") 740, Value.str (Str.ofString "at") 741] }
noncomputable def q3o196 : Params → Obj := fun P => { cls := Value.type "tuple", data := Data.seq #[] }
noncomputable def q3o197 : Params → Obj := fun P => { cls := Value.none, data := Data.func { name := Str.ofString "_law_cell", qualname := Str.ofString "_law_cell", params := stA (tyF "_law_cell"), body := .stmts (stB (tyF "_law_cell")), scope := stS (tyF "_law_cell"), globals := 0, closure := [], defaults := Value.none, kwdefaults := Value.none } }
noncomputable def q3o198 : Params → Obj := fun P => { cls := Value.type "code", data := Data.fields #[Value.str (Str.ofString "_law_cell") 737, Value.str (Str.ofString "_law_cell") 738, Value.str (Str.ofString "/claim/cut.py") 739, Value.int 147 0, Value.int 2 0, Value.int 0 0, Value.int 0 0, Value.int 3 0, Value.ref 193, Value.bool Bool.true, Value.int 276 0, Value.ref 194, Value.none, Value.ref 195, Value.ref 196, Value.ref 197, Value.int 742 0, Value.int 147 0, Value.str (Str.ofString "/claim/cut.py") 743] }
noncomputable def q3o199 : Params → Obj := fun P => { cls := Value.type "function", data := Data.func { name := Str.ofString "_law_cell", qualname := Str.ofString "_law_cell", params := stA (tyF "_law_cell"), body := .stmts (stB (tyF "_law_cell")), scope := stS (tyF "_law_cell"), globals := 3, closure := [], defaults := Value.none, kwdefaults := Value.none, pyModule := Value.str (Str.ofString "law_bd0043_01") 731, code := Value.ref 198 } }
noncomputable def q3o200 : Params → Obj := fun P => { cls := Value.type "tuple", data := Data.seq #[] }
noncomputable def q3o201 : Params → Obj := fun P => { cls := Value.none, data := Data.fields #[] }
noncomputable def q3o202 : Params → Obj := fun P => { cls := Value.type "tuple", data := Data.seq #[Value.str (Str.ofString "word") 748] }
noncomputable def q3o203 : Params → Obj := fun P => { cls := Value.type "tuple", data := Data.seq #[] }
noncomputable def q3o204 : Params → Obj := fun P => { cls := Value.none, data := Data.func { name := Str.ofString "_law_kind", qualname := Str.ofString "_law_kind", params := stA (tyF "_law_kind"), body := .stmts (stB (tyF "_law_kind")), scope := stS (tyF "_law_kind"), globals := 0, closure := [], defaults := Value.none, kwdefaults := Value.none } }
noncomputable def q3o205 : Params → Obj := fun P => { cls := Value.type "code", data := Data.fields #[Value.str (Str.ofString "_law_kind") 745, Value.str (Str.ofString "_law_kind") 746, Value.str (Str.ofString "/claim/cut.py") 747, Value.int 149 0, Value.int 1 0, Value.int 0 0, Value.int 0 0, Value.int 3 0, Value.ref 200, Value.bool Bool.true, Value.int 276 0, Value.ref 201, Value.none, Value.ref 202, Value.ref 203, Value.ref 204, Value.int 749 0, Value.int 149 0, Value.str (Str.ofString "/claim/cut.py") 750] }
noncomputable def q3o206 : Params → Obj := fun P => { cls := Value.type "function", data := Data.func { name := Str.ofString "_law_kind", qualname := Str.ofString "_law_kind", params := stA (tyF "_law_kind"), body := .stmts (stB (tyF "_law_kind")), scope := stS (tyF "_law_kind"), globals := 3, closure := [], defaults := Value.none, kwdefaults := Value.none, pyModule := Value.str (Str.ofString "law_bd0043_01") 731, code := Value.ref 205 } }
noncomputable def q3o207 : Params → Obj := fun P => { cls := Value.type "tuple", data := Data.seq #[] }
noncomputable def q3o208 : Params → Obj := fun P => { cls := Value.none, data := Data.fields #[] }
noncomputable def q3o209 : Params → Obj := fun P => { cls := Value.type "tuple", data := Data.seq #[Value.str (Str.ofString "words") 755, Value.str (Str.ofString "gaps") 756, Value.str (Str.ofString "row") 757, Value.str (Str.ofString "line") 758, Value.str (Str.ofString "spots") 759, Value.str (Str.ofString "word") 760, Value.str (Str.ofString "gap") 761, Value.str (Str.ofString "found") 762, Value.str (Str.ofString "spot") 763] }
noncomputable def q3o210 : Params → Obj := fun P => { cls := Value.type "tuple", data := Data.seq #[] }
noncomputable def q3o211 : Params → Obj := fun P => { cls := Value.none, data := Data.func { name := Str.ofString "_law_tokens", qualname := Str.ofString "_law_tokens", params := stA (tyF "_law_tokens"), body := .stmts (stB (tyF "_law_tokens")), scope := stS (tyF "_law_tokens"), globals := 0, closure := [], defaults := Value.none, kwdefaults := Value.none } }
noncomputable def q3o212 : Params → Obj := fun P => { cls := Value.type "code", data := Data.fields #[Value.str (Str.ofString "_law_tokens") 752, Value.str (Str.ofString "_law_tokens") 753, Value.str (Str.ofString "/claim/cut.py") 754, Value.int 155 0, Value.int 3 0, Value.int 0 0, Value.int 0 0, Value.int 3 0, Value.ref 207, Value.bool Bool.true, Value.int 276 0, Value.ref 208, Value.none, Value.ref 209, Value.ref 210, Value.ref 211, Value.int 764 0, Value.int 155 0, Value.str (Str.ofString "/claim/cut.py") 765] }
noncomputable def q3o213 : Params → Obj := fun P => { cls := Value.type "function", data := Data.func { name := Str.ofString "_law_tokens", qualname := Str.ofString "_law_tokens", params := stA (tyF "_law_tokens"), body := .stmts (stB (tyF "_law_tokens")), scope := stS (tyF "_law_tokens"), globals := 3, closure := [], defaults := Value.none, kwdefaults := Value.none, pyModule := Value.str (Str.ofString "law_bd0043_01") 731, code := Value.ref 212 } }
noncomputable def q3o214 : Params → Obj := fun P => { cls := Value.type "tuple", data := Data.seq #[] }
noncomputable def q3o215 : Params → Obj := fun P => { cls := Value.none, data := Data.fields #[] }
noncomputable def q3o216 : Params → Obj := fun P => { cls := Value.type "tuple", data := Data.seq #[Value.str (Str.ofString "words") 770, Value.str (Str.ofString "gaps") 771, Value.str (Str.ofString "asked") 772, Value.str (Str.ofString "number") 773, Value.str (Str.ofString "is_told") 774] }
noncomputable def q3o217 : Params → Obj := fun P => { cls := Value.type "tuple", data := Data.seq #[] }
noncomputable def q3o218 : Params → Obj := fun P => { cls := Value.none, data := Data.func { name := Str.ofString "_law_equals", qualname := Str.ofString "_law_equals", params := stA (tyF "_law_equals"), body := .stmts (stB (tyF "_law_equals")), scope := stS (tyF "_law_equals"), globals := 0, closure := [], defaults := Value.none, kwdefaults := Value.none } }
noncomputable def q3o219 : Params → Obj := fun P => { cls := Value.type "code", data := Data.fields #[Value.str (Str.ofString "_law_equals") 767, Value.str (Str.ofString "_law_equals") 768, Value.str (Str.ofString "/claim/cut.py") 769, Value.int 165 0, Value.int 5 0, Value.int 0 0, Value.int 0 0, Value.int 3 0, Value.ref 214, Value.bool Bool.true, Value.int 276 0, Value.ref 215, Value.none, Value.ref 216, Value.ref 217, Value.ref 218, Value.int 775 0, Value.int 165 0, Value.str (Str.ofString "/claim/cut.py") 776] }
noncomputable def q3o220 : Params → Obj := fun P => { cls := Value.type "function", data := Data.func { name := Str.ofString "_law_equals", qualname := Str.ofString "_law_equals", params := stA (tyF "_law_equals"), body := .stmts (stB (tyF "_law_equals")), scope := stS (tyF "_law_equals"), globals := 3, closure := [], defaults := Value.none, kwdefaults := Value.none, pyModule := Value.str (Str.ofString "law_bd0043_01") 731, code := Value.ref 219 } }
noncomputable def q3o221 : Params → Obj := fun P => { cls := Value.type "tuple", data := Data.seq #[] }
noncomputable def q3o222 : Params → Obj := fun P => { cls := Value.none, data := Data.fields #[] }
noncomputable def q3o223 : Params → Obj := fun P => { cls := Value.type "tuple", data := Data.seq #[Value.str (Str.ofString "script") 781, Value.str (Str.ofString "is_def") 782, Value.str (Str.ofString "words") 783, Value.str (Str.ofString "gaps") 784, Value.str (Str.ofString "asked") 785, Value.str (Str.ofString "at") 786, Value.str (Str.ofString "number") 787, Value.str (Str.ofString "more") 788, Value.str (Str.ofString "is_told") 789] }
noncomputable def q3o224 : Params → Obj := fun P => { cls := Value.type "tuple", data := Data.seq #[] }
noncomputable def q3o225 : Params → Obj := fun P => { cls := Value.none, data := Data.func { name := Str.ofString "_law_built", qualname := Str.ofString "_law_built", params := stA (tyF "_law_built"), body := .stmts (stB (tyF "_law_built")), scope := stS (tyF "_law_built"), globals := 0, closure := [], defaults := Value.none, kwdefaults := Value.none } }
noncomputable def q3o226 : Params → Obj := fun P => { cls := Value.type "code", data := Data.fields #[Value.str (Str.ofString "_law_built") 778, Value.str (Str.ofString "_law_built") 779, Value.str (Str.ofString "/claim/cut.py") 780, Value.int 168 0, Value.int 1 0, Value.int 0 0, Value.int 0 0, Value.int 3 0, Value.ref 221, Value.bool Bool.true, Value.int 276 0, Value.ref 222, Value.none, Value.ref 223, Value.ref 224, Value.ref 225, Value.int 790 0, Value.int 168 0, Value.str (Str.ofString "/claim/cut.py") 791] }
noncomputable def q3o227 : Params → Obj := fun P => { cls := Value.type "function", data := Data.func { name := Str.ofString "_law_built", qualname := Str.ofString "_law_built", params := stA (tyF "_law_built"), body := .stmts (stB (tyF "_law_built")), scope := stS (tyF "_law_built"), globals := 3, closure := [], defaults := Value.none, kwdefaults := Value.none, pyModule := Value.str (Str.ofString "law_bd0043_01") 731, code := Value.ref 226 } }
noncomputable def q3o228 : Params → Obj := fun P => { cls := Value.type "tuple", data := Data.seq #[] }
noncomputable def q3o229 : Params → Obj := fun P => { cls := Value.none, data := Data.fields #[] }
noncomputable def q3o230 : Params → Obj := fun P => { cls := Value.type "tuple", data := Data.seq #[Value.str (Str.ofString "script") 796, Value.str (Str.ofString "words") 797, Value.str (Str.ofString "gaps") 798, Value.str (Str.ofString "asked") 799, Value.str (Str.ofString "is_def") 800, Value.str (Str.ofString "tokens") 801, Value.str (Str.ofString "due") 802, Value.str (Str.ofString "spot") 803, Value.str (Str.ofString "is_told") 804, Value.str (Str.ofString "at") 805, Value.str (Str.ofString "told") 806] }
noncomputable def q3o231 : Params → Obj := fun P => { cls := Value.type "tuple", data := Data.seq #[] }
noncomputable def q3o232 : Params → Obj := fun P => { cls := Value.none, data := Data.func { name := Str.ofString "law", qualname := Str.ofString "law", params := stA (tyF "law"), body := .stmts (stB (tyF "law")), scope := stS (tyF "law"), globals := 0, closure := [], defaults := Value.none, kwdefaults := Value.none } }
noncomputable def q3o233 : Params → Obj := fun P => { cls := Value.type "code", data := Data.fields #[Value.str (Str.ofString "law") 793, Value.str (Str.ofString "law") 794, Value.str (Str.ofString "/claim/cut.py") 795, Value.int 187 0, Value.int 1 0, Value.int 0 0, Value.int 0 0, Value.int 3 0, Value.ref 228, Value.bool Bool.true, Value.int 276 0, Value.ref 229, Value.none, Value.ref 230, Value.ref 231, Value.ref 232, Value.int 807 0, Value.int 187 0, Value.str (Str.ofString "/claim/cut.py") 808] }
noncomputable def q3o234 : Params → Obj := fun P => { cls := Value.type "function", data := Data.func { name := Str.ofString "law", qualname := Str.ofString "law", params := stA (tyF "law"), body := .stmts (stB (tyF "law")), scope := stS (tyF "law"), globals := 3, closure := [], defaults := Value.none, kwdefaults := Value.none, pyModule := Value.str (Str.ofString "law_bd0043_01") 731, code := Value.ref 233 } }
noncomputable def S1 (w : World) (os : OsState) : Shared := { heap := { objs := #[ob w 0, ob w 1, ob w 2, q1o3 w.params, ob w 4, ob w 5, ob w 6, ob w 7, ob w 8, ob w 9, ob w 10, ob w 11, ob w 12, ob w 13, ob w 14, ob w 15, ob w 16, ob w 17, ob w 18, ob w 19, ob w 20, ob w 21, ob w 22, ob w 23, ob w 24, ob w 25, ob w 26, ob w 27, q1o28 w.params, q1o29 w.params, q1o30 w.params, q1o31 w.params, q1o32 w.params, q1o33 w.params, q1o34 w.params, q1o35 w.params, q1o36 w.params, q1o37 w.params, q1o38 w.params, q1o39 w.params, q1o40 w.params, q1o41 w.params, q1o42 w.params, q1o43 w.params, q1o44 w.params, q1o45 w.params, q1o46 w.params, q1o47 w.params, q1o48 w.params, q1o49 w.params, q1o50 w.params, q1o51 w.params, q1o52 w.params, q1o53 w.params, q1o54 w.params, q1o55 w.params, q1o56 w.params, q1o57 w.params, q1o58 w.params, q1o59 w.params, q1o60 w.params, q1o61 w.params, q1o62 w.params, q1o63 w.params, q1o64 w.params, q1o65 w.params, q1o66 w.params, q1o67 w.params, q1o68 w.params, q1o69 w.params, q1o70 w.params, q1o71 w.params, q1o72 w.params, q1o73 w.params, q1o74 w.params, q1o75 w.params, q1o76 w.params, q1o77 w.params, q1o78 w.params, q1o79 w.params, q1o80 w.params, q1o81 w.params, q1o82 w.params, q1o83 w.params, q1o84 w.params, q1o85 w.params, q1o86 w.params, q1o87 w.params, q1o88 w.params, q1o89 w.params, q1o90 w.params, q1o91 w.params, q1o92 w.params, q1o93 w.params, q1o94 w.params, q1o95 w.params], life := {} }, gens := #[], drawn := {}, toks := 390, os := os }
noncomputable def S2 (w : World) (os : OsState) : Shared := { heap := { objs := #[ob w 0, ob w 1, ob w 2, q2o3 w.params, ob w 4, ob w 5, ob w 6, ob w 7, ob w 8, ob w 9, ob w 10, ob w 11, ob w 12, ob w 13, ob w 14, ob w 15, ob w 16, ob w 17, ob w 18, ob w 19, ob w 20, ob w 21, ob w 22, ob w 23, ob w 24, ob w 25, ob w 26, ob w 27, q1o28 w.params, q2o29 w.params, q1o30 w.params, q1o31 w.params, q1o32 w.params, q1o33 w.params, q1o34 w.params, q1o35 w.params, q1o36 w.params, q1o37 w.params, q1o38 w.params, q1o39 w.params, q1o40 w.params, q1o41 w.params, q1o42 w.params, q1o43 w.params, q1o44 w.params, q1o45 w.params, q1o46 w.params, q1o47 w.params, q1o48 w.params, q1o49 w.params, q1o50 w.params, q1o51 w.params, q1o52 w.params, q1o53 w.params, q1o54 w.params, q1o55 w.params, q1o56 w.params, q1o57 w.params, q1o58 w.params, q1o59 w.params, q1o60 w.params, q1o61 w.params, q1o62 w.params, q1o63 w.params, q1o64 w.params, q1o65 w.params, q1o66 w.params, q1o67 w.params, q1o68 w.params, q1o69 w.params, q1o70 w.params, q1o71 w.params, q1o72 w.params, q1o73 w.params, q1o74 w.params, q1o75 w.params, q1o76 w.params, q1o77 w.params, q1o78 w.params, q1o79 w.params, q1o80 w.params, q1o81 w.params, q1o82 w.params, q1o83 w.params, q1o84 w.params, q1o85 w.params, q1o86 w.params, q1o87 w.params, q1o88 w.params, q1o89 w.params, q1o90 w.params, q1o91 w.params, q1o92 w.params, q1o93 w.params, q1o94 w.params, q1o95 w.params, q2o96 w.params, q2o97 w.params, q2o98 w.params, q2o99 w.params, q2o100 w.params, q2o101 w.params, q2o102 w.params, q2o103 w.params, q2o104 w.params, q2o105 w.params, q2o106 w.params, q2o107 w.params, q2o108 w.params, q2o109 w.params, q2o110 w.params, q2o111 w.params, q2o112 w.params, q2o113 w.params, q2o114 w.params, q2o115 w.params, q2o116 w.params, q2o117 w.params, q2o118 w.params, q2o119 w.params, q2o120 w.params, q2o121 w.params, q2o122 w.params, q2o123 w.params, q2o124 w.params, q2o125 w.params, q2o126 w.params, q2o127 w.params, q2o128 w.params, q2o129 w.params, q2o130 w.params, q2o131 w.params, q2o132 w.params, q2o133 w.params, q2o134 w.params, q2o135 w.params, q2o136 w.params, q2o137 w.params, q2o138 w.params, q2o139 w.params, q2o140 w.params, q2o141 w.params, q2o142 w.params, q2o143 w.params, q2o144 w.params, q2o145 w.params, q2o146 w.params, q2o147 w.params, q2o148 w.params, q2o149 w.params, q2o150 w.params, q2o151 w.params, q2o152 w.params, q2o153 w.params, q2o154 w.params, q2o155 w.params, q2o156 w.params, q2o157 w.params, q2o158 w.params, q2o159 w.params, q2o160 w.params, q2o161 w.params, q2o162 w.params, q2o163 w.params, q2o164 w.params, q2o165 w.params, q2o166 w.params, q2o167 w.params, q2o168 w.params, q2o169 w.params, q2o170 w.params, q2o171 w.params, q2o172 w.params, q2o173 w.params, q2o174 w.params, q2o175 w.params], life := {} }, gens := #[], drawn := {}, toks := 544, os := os }
noncomputable def S3 (w : World) (os : OsState) : Shared := { heap := { objs := #[ob w 0, ob w 1, ob w 2, q3o3 w.params, ob w 4, ob w 5, ob w 6, ob w 7, ob w 8, ob w 9, ob w 10, ob w 11, ob w 12, ob w 13, ob w 14, ob w 15, ob w 16, ob w 17, ob w 18, ob w 19, ob w 20, ob w 21, ob w 22, ob w 23, ob w 24, ob w 25, ob w 26, ob w 27, q1o28 w.params, q3o29 w.params, q1o30 w.params, q1o31 w.params, q1o32 w.params, q1o33 w.params, q1o34 w.params, q1o35 w.params, q1o36 w.params, q1o37 w.params, q1o38 w.params, q1o39 w.params, q1o40 w.params, q1o41 w.params, q1o42 w.params, q1o43 w.params, q1o44 w.params, q1o45 w.params, q1o46 w.params, q1o47 w.params, q1o48 w.params, q1o49 w.params, q1o50 w.params, q1o51 w.params, q1o52 w.params, q1o53 w.params, q1o54 w.params, q1o55 w.params, q1o56 w.params, q1o57 w.params, q1o58 w.params, q1o59 w.params, q1o60 w.params, q1o61 w.params, q1o62 w.params, q1o63 w.params, q1o64 w.params, q1o65 w.params, q1o66 w.params, q1o67 w.params, q1o68 w.params, q1o69 w.params, q1o70 w.params, q1o71 w.params, q1o72 w.params, q1o73 w.params, q1o74 w.params, q1o75 w.params, q1o76 w.params, q1o77 w.params, q1o78 w.params, q1o79 w.params, q1o80 w.params, q1o81 w.params, q1o82 w.params, q1o83 w.params, q1o84 w.params, q1o85 w.params, q1o86 w.params, q1o87 w.params, q1o88 w.params, q1o89 w.params, q1o90 w.params, q1o91 w.params, q1o92 w.params, q1o93 w.params, q1o94 w.params, q1o95 w.params, q2o96 w.params, q2o97 w.params, q2o98 w.params, q2o99 w.params, q2o100 w.params, q2o101 w.params, q2o102 w.params, q2o103 w.params, q2o104 w.params, q2o105 w.params, q2o106 w.params, q2o107 w.params, q2o108 w.params, q2o109 w.params, q2o110 w.params, q2o111 w.params, q2o112 w.params, q2o113 w.params, q2o114 w.params, q2o115 w.params, q2o116 w.params, q2o117 w.params, q2o118 w.params, q2o119 w.params, q2o120 w.params, q2o121 w.params, q2o122 w.params, q2o123 w.params, q2o124 w.params, q2o125 w.params, q2o126 w.params, q2o127 w.params, q2o128 w.params, q2o129 w.params, q2o130 w.params, q2o131 w.params, q2o132 w.params, q2o133 w.params, q2o134 w.params, q2o135 w.params, q2o136 w.params, q2o137 w.params, q2o138 w.params, q2o139 w.params, q2o140 w.params, q2o141 w.params, q2o142 w.params, q2o143 w.params, q2o144 w.params, q2o145 w.params, q2o146 w.params, q2o147 w.params, q2o148 w.params, q2o149 w.params, q2o150 w.params, q2o151 w.params, q2o152 w.params, q2o153 w.params, q2o154 w.params, q2o155 w.params, q2o156 w.params, q2o157 w.params, q2o158 w.params, q2o159 w.params, q2o160 w.params, q2o161 w.params, q2o162 w.params, q2o163 w.params, q2o164 w.params, q2o165 w.params, q2o166 w.params, q2o167 w.params, q2o168 w.params, q2o169 w.params, q2o170 w.params, q2o171 w.params, q2o172 w.params, q2o173 w.params, q2o174 w.params, q2o175 w.params, q3o176 w.params, q3o177 w.params, q3o178 w.params, q3o179 w.params, q3o180 w.params, q3o181 w.params, q3o182 w.params, q3o183 w.params, q3o184 w.params, q3o185 w.params, q3o186 w.params, q3o187 w.params, q3o188 w.params, q3o189 w.params, q3o190 w.params, q3o191 w.params, q3o192 w.params, q3o193 w.params, q3o194 w.params, q3o195 w.params, q3o196 w.params, q3o197 w.params, q3o198 w.params, q3o199 w.params, q3o200 w.params, q3o201 w.params, q3o202 w.params, q3o203 w.params, q3o204 w.params, q3o205 w.params, q3o206 w.params, q3o207 w.params, q3o208 w.params, q3o209 w.params, q3o210 w.params, q3o211 w.params, q3o212 w.params, q3o213 w.params, q3o214 w.params, q3o215 w.params, q3o216 w.params, q3o217 w.params, q3o218 w.params, q3o219 w.params, q3o220 w.params, q3o221 w.params, q3o222 w.params, q3o223 w.params, q3o224 w.params, q3o225 w.params, q3o226 w.params, q3o227 w.params, q3o228 w.params, q3o229 w.params, q3o230 w.params, q3o231 w.params, q3o232 w.params, q3o233 w.params, q3o234 w.params], life := {} }, gens := #[], drawn := {}, toks := 810, os := os }
noncomputable abbrev bK : List Stmt := behindTheImports pgK
noncomputable abbrev envK : Env := { scope := pgK.main.scope, locals := mainNs, globals := mainNs, cells := [], code := Value.ref 30, frame := some 31 }
noncomputable abbrev cK : Code := .body bK envK
noncomputable abbrev posK : Pos := ⟨0, 0, 0, 0⟩
noncomputable abbrev pos1K : Pos := { line := 24, col := 0, endLine := 35, endCol := 11 }
noncomputable abbrev pos2K : Pos := { line := 36, col := 0, endLine := 80, endCol := 54 }
noncomputable abbrev pos3K : Pos := { line := 187, col := 0, endLine := 196, endCol := 28 }
noncomputable abbrev BK : List Frame := [topFrame posK]
noncomputable def goA (w : World) : Option (Shared × Thread) := PySem.W.Fast.tw15667345088766844465 PySem.W.Fast.tw14364793385576792824 pgK w 28 annK 12 (S0 w) (topStub pgK)
theorem goA_some (w : World) : (goA w).isSome = true := by kernel_rfl
noncomputable def Sa (w : World) : Shared := ((goA w).get (goA_some w)).1
theorem goA_is (w : World) : goA w = some (Sa w, ⟨PySem.W.Fast.tw11892475500146522536 PySem.W.Fast.tw14364793385576792824 cK, cK, posK, BK⟩) := by kernel_rfl
theorem preA (w : World) : topGo treeTable pgK w 28 annK 12 (S0 w) (topStub pgK) = some (Sa w, ⟨denote treeTable cK, cK, posK, BK⟩) := by
  rw [PySem.W.Fast.te15667345088766844465, PySem.W.Fast.te11892475500146522536, PySem.W.Fast.te14364793385576792824]
  exact goA_is w
theorem blkA (w : World) : segRun treeTable pgK w 28 annK 1 1 (Sa w) (blockOf bK envK cK posK BK) = some (.next, Sa w, cK, posK) := by
  rw [PySem.W.Fast.te14374325043358763698, PySem.W.Fast.te14364793385576792824]
  kernel_rfl
theorem partA (w : World) : segRun treeTable pgK w 28 annK 1 661 (Sa w) (piecesOf (bK.take 4) envK cK posK BK) = some (.next, S1 w (S0 w).os, cK, pos1K) := by
  rw [PySem.W.Fast.te14374325043358763698, PySem.W.Fast.te14364793385576792824]
  kernel_rfl
theorem partB (w : World) (os : OsState) : segRun treeTable pgK w 28 annK 1 1341 (S1 w os) (piecesOf ((bK.drop 4).take 1) envK cK pos1K BK) = some (.next, S2 w os, cK, pos2K) := by
  rw [PySem.W.Fast.te14374325043358763698, PySem.W.Fast.te14364793385576792824]
  kernel_rfl
theorem partC (w : World) (os : OsState) : segRun treeTable pgK w 28 annK 1 528 (S2 w os) (piecesOf (bK.drop 5) envK cK pos2K BK) = some (.next, S3 w os, cK, pos3K) := by
  rw [PySem.W.Fast.te14374325043358763698, PySem.W.Fast.te14364793385576792824]
  kernel_rfl
theorem partD (w : World) (os : OsState) : topRun treeTable pgK w 28 annK 2 (S3 w os) ⟨doneF .next, cK, pos3K, BK⟩ = some (S3 w os) := by
  rw [PySem.W.Fast.te14082659384304107361, PySem.W.Fast.te14364793385576792824]
  kernel_rfl
-- the looks at what is left
theorem ok_1 (w : World) (os : OsState) : staticsOk (importedModules pgK.main.body) (S0 w).heap (S3 w os).heap = true := by kernel_rfl
theorem ok_2 (w : World) (os : OsState) : namesBound pgK (S3 w os).heap = true := by kernel_rfl
theorem ok_3 (w : World) (os : OsState) : gensDone (S3 w os) = true := by kernel_rfl
theorem ok_4 (w : World) (os : OsState) : laidKept (S0 w).heap (S3 w os).heap = true := by kernel_rfl
noncomputable def OS (w : World) (os : OsState) := PySem.W.Fast.tw4187177175401517315 hd.view_39 lsK (PySem.W.Fast.tw5923862056798008813 pgK.main.body) XtK true (S3 w os)
theorem lk_0 (w : World) (os : OsState) : OS w os = openGood hd.view_39 lsK := by kernel_rfl
theorem lk_all (w : World) (os : OsState) : openSeen hd.view_39 lsK (importedModules pgK.main.body) XtK true (S3 w os) = openGood hd.view_39 lsK := by
  rw [PySem.W.Fast.te4187177175401517315, PySem.W.Fast.te5923862056798008813]
  exact lk_0 w os
theorem obs_K (w : World) (os : OsState) : asK.map (S3 w os).heap.get? = (hd.heap_39 w.params).map fun p => some p.2 := by kernel_rfl
theorem parts_eq (b : List Stmt) : b.take 4 ++ ((b.drop 4).take 1 ++ (b.drop 5 ++ [])) = b := by
  rw [List.append_nil, ← List.drop_drop (i := 1) (j := 4), List.take_append_drop, List.take_append_drop]
theorem chain {α : Type} {p : Program} {w : World} {n₀ : Nat} {ann : Option Value} {S0 Sa S1 S2 S3 : Shared} {b : List Stmt} {env : Env} {pA p1 p2 p3 q : Pos} {f : Shared → α} {good : α}
    (ef : fencedOpening treeTable p w 5180 = some S0) (z1 : (S0.heap.isNs mainGlobals && S0.gens.size == 0) = true) (z2 : S0.heap.objs.size = n₀) (z3 : S0.heap.nsMap mainGlobals "__annotations__" = ann)
    (hA : topGo treeTable p w n₀ ann 12 S0 (topStub p) = some (Sa, ⟨denote treeTable (.body b env), .body b env, pA, [topFrame q]⟩))
    (hB : segRun treeTable p w n₀ ann 1 1 Sa (blockOf b env (.body b env) pA [topFrame q]) = some (.next, Sa, .body b env, pA))
    (h1 : segRun treeTable p w n₀ ann 1 661 Sa (piecesOf (b.take 4) env (.body b env) pA [topFrame q]) = some (.next, S1, .body b env, p1))
    (h2 : segRun treeTable p w n₀ ann 1 1341 S1 (piecesOf ((b.drop 4).take 1) env (.body b env) p1 [topFrame q]) = some (.next, S2, .body b env, p2))
    (h3 : segRun treeTable p w n₀ ann 1 528 S2 (piecesOf (b.drop 5) env (.body b env) p2 [topFrame q]) = some (.next, S3, .body b env, p3))
    (h4 : topRun treeTable p w n₀ ann 2 S3 ⟨doneF .next, .body b env, p3, [topFrame q]⟩ = some S3)
    (o1 : staticsOk (importedModules p.main.body) S0.heap S3.heap = true) (o2 : namesBound p S3.heap = true) (o3 : gensDone S3 = true) (o4 : laidKept S0.heap S3.heap = true)
    (hc : f S3 = good) : (openEnds treeTable p w 5180).map f = some good := by
  have k1 := piece_app (rest := []) h3 (piece_nil h4)
  have k2 := piece_app h2 k1
  have k3 := piece_app h1 k2
  rw [parts_eq] at k3
  have k5 := go_top hA (piece_block hB k3)
  have k6 := topRun_mono (5180 - (12 + (1 + (661 + (1341 + (528 + 2)))))) _ _ _ _ k5
  have k7 : topRun treeTable p w n₀ ann 5180 S0 (topStub p) = some S3 := k6
  have et : topFrom treeTable p w 5180 S0 = some S3 := by
    unfold topFrom
    rw [z1, z2, z3]
    show (topRun treeTable p w n₀ ann 5180 S0 (topStub p)).bind _ = _
    rw [k7]
    show (match staticsOk (importedModules p.main.body) S0.heap S3.heap && namesBound p S3.heap && gensDone S3 && laidKept S0.heap S3.heap with | true => some S3 | false => none) = _
    rw [o1, o2, o3, o4]
    rfl
  unfold openEnds
  rw [ef]
  show (topFrom treeTable p w 5180 S0).map f = _
  rw [et, ← hc]
  rfl
theorem left : LeftO pgK hd.view_39 lsK XtK (kHook hd.heap_39 asK asK_eq).obs (kHook hd.heap_39 asK asK_eq).val 5180 := fun w =>
  chain (f := fun s => (openSeen hd.view_39 lsK (importedModules pgK.main.body) XtK true s, asK.map s.heap.get?)) ((fo_eq _ _ _).trans (fo_is w)) (S0_ns w) (S0_size w) (S0_ann w) (preA w) (blkA w) (partA w) (partB w (S0 w).os) (partC w (S0 w).os) (partD w (S0 w).os)
    (ok_1 w _) (ok_2 w _) (ok_3 w _) (ok_4 w _) (Prod.ext (lk_all w _) (obs_K w _))
theorem saidL : looksOpen PySem.Challenge.rw_bd0043_01.row.prog = true := by
  unfold looksOpen
  rw [PySem.W.Fast.te8326940854005059898, PySem.W.Fast.te17119622794617984870, PySem.W.Fast.te12862048085361865435, PySem.W.Fast.te8377067652309620493]
  repeat' with_reducible apply look_both
  all_goals decide +kernel
theorem saidR : (PySem.Challenge.rw_bd0043_01).row.wellSaid = true := by
  unfold OpenRow.wellSaid OpenRow.partSaid
  repeat' with_reducible apply look_both
  · exact saidL
  all_goals decide +kernel
theorem said : (PySem.Challenge.rw_bd0043_01).wellSaid = true := by
  unfold OpenLaw.wellSaid
  rw [PySem.W.Fast.te8326940854005059898, PySem.W.Fast.te17119622794617984870, PySem.W.Fast.te9558739934217749035, PySem.W.Fast.te16286561074155671207, PySem.W.Fast.te10501279942588096481, PySem.W.Fast.te8179353310426384613]
  repeat' with_reducible apply look_both
  · exact saidR
  all_goals decide +kernel
theorem hasLawD : (defOf hd.view_39 (Str.ofString "law")).isSome = true := by kernel_rfl
noncomputable def lawD : DefRec := ((defOf hd.view_39 (Str.ofString "law")).get hasLawD).1
theorem lawD_def : defOf hd.view_39 rwK.toRowW.name = some (lawD, []) := by kernel_rfl
theorem lawD_the : rwK.toRowW.prog.theDef rwK.toRowW.name = some (lawD.params, lawD.body, lawD.scope) := by kernel_rfl
theorem lawD_kw : kwWritten? lawD.params.kwonlyargs lawD.params.kw_defaults = some [] := by kernel_rfl
theorem chains : (chainsOk hd.view_39 && opensWell rwK.toRowW.prog && (frees rwK.toRowW && rwK.toRowW.within.isEmpty)) = true := by kernel_rfl
theorem bareK : rwK.toRowW.prog.bare := ⟨rfl, rfl, rfl, rfl, rfl, by decide +kernel⟩
theorem hd (walk : WalkO hd.view_39 lsK (XL hd.view_39 []) (kHook hd.heap_39 asK asK_eq).says rwK.toRowW lawD [] fun f vs => PySem.call f vs) : PySem.Challenge.rw_bd0043_01.Holds := by
  refine holds_law said fun said1 => ?_
  refine holds_open (q := hd.view_39) (loose := lsK) (Xt := XtK) (XP := XL hd.view_39 []) (Yf := (kHook hd.heap_39 asK asK_eq).obs) (Ya := (kHook hd.heap_39 asK asK_eq).val) (YP := (kHook hd.heap_39 asK asK_eq).says) (N := 5180) left (kHook hd.heap_39 asK asK_eq).of (kHook hd.heap_39 asK asK_eq).keeps
    (fun s e => xl_of s (Bool.and_eq_true_iff.mp e).1) XL.keeps lawD_def lawD_the lawD_kw (fun s e => recFacts_of (Bool.and_eq_true_iff.mp e).2) (by rfl) said1 chains bareK ?hw walk
  case hw => w_witness2
end Mine

end
section
open PySem PySem.W PyProof.Rows PySem.Calls
set_option maxRecDepth 100000
set_option maxHeartbeats 4000000
namespace Mine

noncomputable def isD (n : String) (d : DefRec) : Bool := d.name == Str.ofString n
theorem hasCell : ((recsOf hd.view_39).find? (isD "_law_cell")).isSome = true := by decide +kernel
theorem hasKind : ((recsOf hd.view_39).find? (isD "_law_kind")).isSome = true := by decide +kernel
theorem hasTokens : ((recsOf hd.view_39).find? (isD "_law_tokens")).isSome = true := by decide +kernel
theorem hasEquals : ((recsOf hd.view_39).find? (isD "_law_equals")).isSome = true := by decide +kernel
theorem hasBuilt : ((recsOf hd.view_39).find? (isD "_law_built")).isSome = true := by decide +kernel
theorem hasLaw : ((recsOf hd.view_39).find? (isD "law")).isSome = true := by decide +kernel
theorem hasGen : ((recsOf hd.view_39).find? (isD "whitespace_around_named_parameter_equals")).isSome = true := by decide +kernel
noncomputable def dCell : DefRec := ((recsOf hd.view_39).find? (isD "_law_cell")).get hasCell
noncomputable def dKind : DefRec := ((recsOf hd.view_39).find? (isD "_law_kind")).get hasKind
noncomputable def dTokens : DefRec := ((recsOf hd.view_39).find? (isD "_law_tokens")).get hasTokens
noncomputable def dEquals : DefRec := ((recsOf hd.view_39).find? (isD "_law_equals")).get hasEquals
noncomputable def dBuilt : DefRec := ((recsOf hd.view_39).find? (isD "_law_built")).get hasBuilt
noncomputable def dLaw : DefRec := ((recsOf hd.view_39).find? (isD "law")).get hasLaw
noncomputable def dGen : DefRec := ((recsOf hd.view_39).find? (isD "whitespace_around_named_parameter_equals")).get hasGen
theorem dMem {n : String} (h : ((recsOf hd.view_39).find? (isD n)).isSome = true) : ((recsOf hd.view_39).find? (isD n)).get h ∈ recsOf hd.view_39 := by
  obtain ⟨d, e⟩ := Option.isSome_iff_exists.mp h
  have : ((recsOf hd.view_39).find? (isD n)).get h = d := by simp [e]
  rw [this]
  exact List.mem_of_find?_eq_some e

/-- the tables: what the globals are worth -/
noncomputable def cellI (ns : List Int) (i : Int) : Int := if i < ns.length then (if ns.getD i.toNat 0 < 0 then -ns.getD i.toNat 0 else ns.getD i.toNat 0) else 7 * i + 3
noncomputable def wordsAll : List String := ["def", "f", "(", "a", ",", ":", "int", "=", "1", "g", "c", ")"]
noncomputable def kindI (w : Str) : Int :=
  if w = Str.ofString "(" then 54 else if w = Str.ofString ")" then 54 else if w = Str.ofString "," then 54 else if w = Str.ofString ":" then 54 else if w = Str.ofString "=" then 54
  else if w = Str.ofString "1" then 2 else 1

noncomputable def gvT (x : Str) : Option PV :=
  if x = Str.ofString "_law_near" then some (.str (Str.ofString "E252 missing whitespace around parameter equals"))
  else if x = Str.ofString "_law_far" then some (.str (Str.ofString "E251 unexpected spaces around keyword / parameter equals"))
  else none
noncomputable def gaT (x a : Str) : Option PV :=
  if x = Str.ofString "tokenize" then (
    if a = Str.ofString "NAME" then some (.int 1)
    else if a = Str.ofString "NUMBER" then some (.int 2)
    else if a = Str.ofString "COMMENT" then some (.int 61)
    else if a = Str.ofString "NL" then some (.int 62)
    else if a = Str.ofString "OP" then some (.int 54) else none) else none
noncomputable def T0 : Tb := ⟨gvT, gaT, fun _ _ => none, 0⟩
/-- the law's own functions too -/
noncomputable def fnT (ns : List Int) (f : Str) (vs : List PV) : CV PV :=
  if f = Str.ofString "_law_cell" then (match vs with
    | [.lst xs, .int i] => some (.int (cellI ns i), xs = ns.map .int ∧ 0 ≤ i ∧ i < 2 ^ 62)
    | _ => none)
  else if f = Str.ofString "_law_kind" then (match vs with
    | [.str w] => some (.int (kindI w), w ∈ wordsAll.map Str.ofString)
    | _ => none)
  else if f = Str.ofString "Token" then (match vs with
    | [a, b, c, d, e] => some (.tok [a, b, c, d, e], noMls [a, b, c, d, e] = true)
    | _ => none)
  else none
noncomputable def T1 (ns : List Int) : Tb := ⟨gvT, gaT, fnT ns, 350⟩
end Mine

end
section
open PySem PySem.W PyProof.Rows PySem.Calls
set_option maxRecDepth 100000
set_option maxHeartbeats 4000000
namespace Mine

noncomputable abbrev prg : Program := PySem.Challenge.rw_bd0043_01.row.prog
theorem wpAny_big {α : Type} {M : Model} {A : Around} {t : Sem α} {Q : α → Shared → Prop} {E : Value → Shared → Prop} {s : Shared} {d u : Nat} (hh : A.handled = none) (hd : A.depth ≤ d) (hu : A.units ≤ u)
    (h : wpAny M { handled := none, depth := d, frames := none, guards := none, units := u } t Q E s) : wpAny M A t Q E s := fun Γ p hΓ => by
  obtain ⟨a1, a2, a3, a4, a5⟩ := hΓ
  exact h Γ p ⟨a1.trans hh, Nat.le_trans a2 hd, fun l q => (nomatch q), fun l q => (nomatch q), Nat.le_trans a5 hu⟩

theorem mem_keep {h h' : Heap} {news : List (Addr × Obj)} (D : X.Mem h h' [] news) : Keep h h' := fun b o e => D.keep b o e (by rw [show X.away [] b = true from rfl, Bool.or_true])

section
variable {w : World} {s : Shared}
local macro_rules | `(tactic| x_close) => `(tactic| exact ⟨rfl, (by first | exact mem_keep (by assumption) | exact Keep.refl _), _, _, rfl⟩)
theorem x_static (X : (hd.heap_39 w.params).In s.heap) :
    wpAny (model prg w) { handled := none, depth := 900, frames := none, guards := none, units := 9000 } (call (.builtin "staticmethod.__get__") [.ref 173, .none, .ref 172]) (fun v s' => v = .ref 113 ∧ Keep s.heap s'.heap ∧ ∃ h tk, s' = { s with heap := h, toks := tk }) (fun _ _ => False) s := by
  x_run
end
section
variable {w : World} {s : Shared}
local macro_rules | `(tactic| x_close) => `(tactic| exact ⟨_, _, rfl, X.Mem.at (by assumption) 0 _ _ rfl, (X.Mem.nw (by assumption) (_, _) (.head _)).2, mem_keep (by assumption), _, _, rfl⟩)
theorem x_tupnew (X : (hd.heap_39 w.params).In s.heap) {v1 v2 v3 v4 v5 : Value} {t : Addr} (ht : s.heap.get? t = some { cls := .type "tuple", dict := none, data := .seq #[v1, v2, v3, v4, v5], slots := #[] }) :
    wpAny (model prg w) { handled := none, depth := 900, frames := none, guards := none, units := 9000 } (call (.builtin "tuple.__new__") [.ref 172, .ref t])
      (fun v s' => ∃ a d, v = .ref a ∧ s'.heap.get? a = some (tokO 172 d [v1, v2, v3, v4, v5]) ∧ s.heap.get? a = none ∧ Keep s.heap s'.heap ∧ ∃ h tk, s' = { s with heap := h, toks := tk }) (fun _ _ => False) s := by
  x_run
end
section
variable {w : World} {s : Shared}
local macro_rules | `(tactic| x_close) => `(tactic| exact ⟨rfl, (by first | exact mem_keep (by assumption) | exact Keep.refl _), _, _, rfl⟩)
theorem x_init (X : (hd.heap_39 w.params).In s.heap) {v1 v2 v3 v4 v5 u1 u2 u3 u4 u5 : Value} {t d : Addr} (ht : s.heap.get? t = some { cls := .ref 172, dict := some d, data := .seq #[u1, u2, u3, u4, u5], slots := #[] }) :
    wpAny (model prg w) { handled := none, depth := 900, frames := none, guards := none, units := 9000 } (call (.builtin "object.__init__") [.ref t, v1, v2, v3, v4, v5])
      (fun v s' => v = .none ∧ Keep s.heap s'.heap ∧ ∃ h tk, s' = { s with heap := h, toks := tk }) (fun _ _ => False) s := by
  x_run
end
end Mine

end
section
open PySem PySem.W PyProof.Rows PySem.Calls
set_option maxRecDepth 100000
set_option maxHeartbeats 4000000
namespace Mine

noncomputable def fd113 (P : Params) : Option FuncData := match (hd.heap_39 P).lookup 113 with | some ⟨_, _, .func fd, _⟩ => some fd | _ => none
noncomputable def newScope : Scope := { kind := .function, names := [("_cls", .local), ("kind", .local), ("string", .local), ("start", .local), ("end", .local), ("line", .local), ("tuple", .globalImplicit)], isGenerator := false, isCoroutine := false, more := [] }

noncomputable def binds6 (v1 v2 v3 v4 v5 : Value) : List (Str × Value) := [("_cls", .ref 172), ("kind", v1), ("string", v2), ("start", v3), ("end", v4), ("line", v5)]

theorem look113 (P : Params) : ∃ fd q1 q2 q3 q4 q5 q6 q7 q8 q9 r1 r2 r3 r4 r5 k1 k2 dd, (hd.heap_39 P).lookup 113 = some ⟨.type "function", none, .func fd, #[]⟩ ∧ fd.code = .ref 112 ∧ fd.qualname = "Token.__new__" ∧ fd.scope = newScope ∧
    (∀ L, callEnv fd L 113 = envOf "Token.__new__" newScope L 113 (.ref 112)) ∧
    fd.body = .stmts [.Expr (.Constant (.str dd) k1 q1) q2, .Return (some (.Call (.Attribute (.Name "tuple" q3) "__new__" q4) [.Name "_cls" q5, .Tuple [.Name "kind" r1, .Name "string" r2, .Name "start" r3, .Name "end" r4, .Name "line" r5] k2 q6] [] q7)) q8] ∧
    (q4.endLine == q7.line) = true ∧ q9 = q1 ∧
    (∀ v1 v2 v3 v4 v5 : Value, bindArgs fd ⟨[.ref 172, v1, v2, v3, v4, v5], []⟩ = pure (binds6 v1 v2 v3 v4 v5)) := by
  refine ⟨_, _, _, _, _, _, _, _, _, _, _, _, _, _, _, _, _, _, rfl, rfl, rfl, rfl, fun L => rfl, rfl, rfl, rfl, fun v1 v2 v3 v4 v5 => ?_⟩
  kernel_rfl
end Mine

end
section
open PySem PySem.W PyProof.Rows PySem.Calls
set_option maxRecDepth 100000
set_option maxHeartbeats 4000000
namespace Mine
section
variable {w : World} {A : Around} {s : Shared} {h₀ : Heap} {T : Tb} {mg mb : Str → Option Value}

theorem codeIn113 (P : Params) : codeIn (hd.heap_39 P) (.ref 112) "Token.__new__" = true := by kernel_rfl
theorem find_tup_new : findCls [] (.type "tuple") (.type "type") "__new__" = some (.val (.builtin "tuple.__new__")) := by kernel_rfl
theorem spread5 {prog : Program} {L : Addr} {h₁ : Heap} {g : Array GenState} {d : Drawn} {tk : Nat} {os : OsState} {m : Str → Option Value} {hb : Heap} {v1 v2 v3 v4 v5 : Value} (F : Fr hb L h₁ m) (e1 : m "kind" = some v1) (e2 : m "string" = some v2) (e3 : m "start" = some v3) (e4 : m "end" = some v4) (e5 : m "line" = some v5) {pos r1 r2 r3 r4 r5 : Pos}
    {Q : List Value → Shared → Prop} {E : Value → Shared → Prop} (h : Q [v1, v2, v3, v4, v5] ⟨h₁, g, d, tk, os⟩) :
    wpAny (model prog w) A (spliced (backTo pos (starEach [.Name "kind" r1, .Name "string" r2, .Name "start" r3, .Name "end" r4, .Name "line" r5] (envOf "Token.__new__" newScope L 113 (.ref 112))))) Q E ⟨h₁, g, d, tk, os⟩ := by
  refine Calls.spliced_cons (ld (s := ⟨h₁, g, d, tk, os⟩) F e1 ?_)
  refine Calls.spliced_cons (ld (s := ⟨h₁, g, d, tk, os⟩) F e2 ?_)
  refine Calls.spliced_cons (ld (s := ⟨h₁, g, d, tk, os⟩) F e3 ?_)
  refine Calls.spliced_cons (ld (s := ⟨h₁, g, d, tk, os⟩) F e4 ?_)
  refine Calls.spliced_cons (ld (s := ⟨h₁, g, d, tk, os⟩) F e5 ?_)
  exact Calls.spliced_nil h

theorem newFn (g : h₀.Ns mainGlobals mg) (b : h₀.Ns builtinsNs mb) (hn1 : mg "tuple" = none) (hn2 : mb "tuple" = some (.type "tuple")) (hlim : h₀.NoLimit) (KX : (hd.heap_39 w.params).In h₀) (hh : A.handled = none) (hdp : A.depth ≤ 880) (hu : A.units ≤ 8000)
    (hk0 : Keep h₀ s.heap) {v1 v2 v3 v4 v5 : Value} {Q : Value → Shared → Prop} {E : Value → Shared → Prop}
    (h : ∀ a d h' tk, h'.get? a = some (tokO 172 d [v1, v2, v3, v4, v5]) → Keep s.heap h' → s.heap.get? a = none → Q (.ref a) { s with heap := h', toks := tk }) :
    wpAny (model prg w) A (call (.ref 113) [.ref 172, v1, v2, v3, v4, v5]) Q E s := by
  obtain ⟨fd, q1, q2, q3, q4, q5, q6, q7, q8, q9, r1, r2, r3, r4, r5, k1, k2, dd, hl, hc, hq, hs, he, hb, hln, _, hbind⟩ := look113 w.params
  refine wpAny_call (codeAny_call_def (fd := fd) (by have : recursionLimit = 1000 := rfl; omega) (hk0 _ _ (KX _ _ hl)) rfl (hlim.keeps hk0) ?_ hb (BindsTo.of_eq (hbind v1 v2 v3 v4 v5)) ?_ ?_ (fun h₁ hns hkeep => ?_) (by rw [hs]; rfl) (by rw [hs]; rfl) (by rw [hs]; rfl))
  · rw [hc, hq]
    exact codeRec_of (KX.keeps hk0) (codeIn113 w.params)
  · rw [hs]; intro x hx; revert x; decide +kernel
  · rw [hs]; intro x hx
    simp only [binds6, List.mem_cons, List.mem_nil_iff, or_false] at hx
    rcases hx with rfl | rfl | rfl | rfl | rfl | rfl <;> rfl
  · rw [he]
    have F : Fr s.heap s.heap.objs.size h₁ (fun x => (binds6 v1 v2 v3 v4 v5).reverse.lookup x) := ⟨hns, hkeep, Nat.le_refl _⟩
    have hint : interactive (envOf "Token.__new__" newScope s.heap.objs.size 113 (.ref 112)) = false := rfl
    refine wpAny_execs_cons (wpAny_Expr_any (Constant_str ?_) hint rfl)
    refine wpAny_execs_cons (wpAny_Return_some ?_)
    refine methodCall_ok rfl hln rfl ?_
    refine ld_builtin_at (s := { s with heap := h₁, toks := s.toks + (binds6 v1 v2 v3 v4 v5).length + 1 }) F (g.keeps hk0) hn1 (b.keeps hk0) hn2 ?_
    refine method_type (T := "tuple") (K := []) F (fun _ _ e => nomatch e) rfl rfl find_tup_new rfl ?_
    refine callWith_of (P := fun _ => True) (by rfl) (fun h _ => keeper_builtin _ h) ?_
    have K1 : Keep s.heap h₁ := hkeep
    have hcls : ∀ (st : Shared) (Q' E' : Value → Shared → Prop), st.heap = h₁ → Q' (.ref 172) st → wpAny (model prg w) (A.deeper (envOf "Token.__new__" newScope s.heap.objs.size 113 (.ref 112))) (eval (.Name "_cls" q5) (envOf "Token.__new__" newScope s.heap.objs.size 113 (.ref 112))) Q' E' st := fun st Q' E' e q => ld (s := st) (by rw [e]; exact F) (v := .ref 172) rfl q
    refine evalArgs_plain ?_
    refine Calls.spliced_cons (hcls _ _ _ rfl ?_)
    refine Calls.spliced_cons (Tuple_ (k := k2) (spread5 F (v1 := v1) (v2 := v2) (v3 := v3) (v4 := v4) (v5 := v5) rfl rfl rfl rfl rfl ?_))
    refine wpAny_newTuple ?_ (by show 5 ≤ sizeLine; decide)
    refine Calls.spliced_nil ⟨trivial, ?_⟩
    have K2 : Keep h₁ (h₁.push (tupO [v1, v2, v3, v4, v5])) := Keep.push _ _
    refine wpAny_mono (wpAny_big (d := 900) (u := 9000) hh (by show A.depth + 1 ≤ 900; omega) (by show A.units + 3 ≤ 9000; omega) (x_tupnew (w := w) (t := h₁.objs.size) (KX.keeps (hk0.trans (K1.trans K2))) (Heap.get?_push_size _ rfl))) ?_ (fun _ _ x => x.elim)
    rintro v s' ⟨a, d, rfl, ha, hn, hk, h', tk, rfl⟩
    refine h a d h' tk ha (K1.trans (K2.trans hk)) ?_
    cases e : s.heap.get? a with
    | none => rfl
    | some o => rw [K2 _ _ (K1 _ _ e)] at hn; cases hn
end
end Mine

end
section
open PySem PySem.W PyProof.Rows PySem.Calls
set_option maxRecDepth 100000
set_option maxHeartbeats 4000000
namespace Mine
section
variable {w : World} {A : Around} {s : Shared} {h₀ : Heap} {T : Tb} {mg mb : Str → Option Value}

theorem lk_call {M : Model} {h : Heap} {P : Params} (X : (hd.heap_39 P).In h) : Looks M h (specialOf (.ref 172) "__call__") (some (.builtin "type.__call__")) := looks_specialIn X (by kernel_rfl)
theorem lk_typ {M : Model} {h : Heap} {P : Params} (X : (hd.heap_39 P).In h) : Looks M h (isInstance (.ref 172) (.type "type")) true := looks_instIn X (by kernel_rfl)
theorem lk_made {M : Model} {h : Heap} {P : Params} (X : (hd.heap_39 P).In h) (hp : M.w.params = P) : Looks M h (Bind.madeBy (.ref 172)) none := Looks.of_peek X (by subst hp; kernel_rfl)
theorem lk_mro {M : Model} {h : Heap} {P : Params} (X : (hd.heap_39 P).In h) (hp : M.w.params = P) : Looks M h (mroOf (.ref 172)) [.ref 172, .type "tuple", .type "object"] := Looks.of_peek X (by subst hp; kernel_rfl)
theorem rd_cls (P : Params) : readsIn (hd.heap_39 P) 172 (.type "type") = true := by kernel_rfl
theorem fc_new (P : Params) : findCls (hd.heap_39 P) (.ref 172) (.type "type") "__new__" = some (.get (.builtin "staticmethod.__get__") (.ref 173) .none (.ref 172)) := by kernel_rfl
theorem look172 (P : Params) : ∃ cd sl, (hd.heap_39 P).lookup 172 = some ⟨.type "type", none, .cls cd, sl⟩ := ⟨_, _, rfl⟩
theorem lk_init {M : Model} {h : Heap} {P : Params} (X : (hd.heap_39 P).In h) : Looks M h (typeLookup (.ref 172) "__init__") (some (.builtin "object.__init__")) := looks_findIn X (by kernel_rfl)
theorem lk_self {M : Model} {h : Heap} {P : Params} (X : (hd.heap_39 P).In h) : Looks M h (isSubtype (.ref 172) (.ref 172)) true := looks_subIn X (by kernel_rfl)

theorem tokCall (g : h₀.Ns mainGlobals mg) (b : h₀.Ns builtinsNs mb) (hn1 : mg "tuple" = none) (hn2 : mb "tuple" = some (.type "tuple")) (hlim : h₀.NoLimit) (KX : (hd.heap_39 w.params).In h₀) (hh : A.handled = none) (hdp : A.depth ≤ 800) (hu : A.units ≤ 7000)
    (hk0 : Keep h₀ s.heap) {v1 v2 v3 v4 v5 : Value} {Q : Value → Shared → Prop} {E : Value → Shared → Prop}
    (h : ∀ a d h' tk, h'.get? a = some (tokO 172 d [v1, v2, v3, v4, v5]) → Keep s.heap h' → s.heap.get? a = none → Q (.ref a) { s with heap := h', toks := tk }) :
    wpAny (model prg w) A (call (.ref 172) [v1, v2, v3, v4, v5]) Q E s := by
  obtain ⟨cd, sl, hl⟩ := look172 w.params
  have X1 := KX.keeps hk0
  refine wpAny_call (codeAny_of_tree ?_)
  show wpAny _ _ (callAny (.ref 172) _) _ _ _
  refine nd_load (X1 _ _ hl) ?_
  show wpAny _ _ (callAny.viaDunder (.ref 172) _) _ _ _
  unfold callAny.viaDunder
  refine wpAny_bind ((lk_call X1).here ?_)
  dsimp only
  rw [tc_bind]
  refine wpAny_bind (wpAny_pure (wpAny_bind (wpAny_pure ?_)))
  refine wpAny_pure (a := Fin.again (.call (.builtin "type.__call__") ⟨.ref 172 :: [v1, v2, v3, v4, v5], []⟩)) (And.intro rfl ?_)
  refine codeAny_call_builtin_at (Code.quiet_builtin _ (by decide +kernel)) entry_typeCall ?_
  refine check_slot tc_kind tc_split (lk_typ X1) (tc_args _ _ _) ?_
  unfold Builtin.«type.__call__»
  have m1 := lk_mro (M := model prg w) X1 rfl
  have m2 := lk_made (M := model prg w) X1 rfl
  obtain ⟨hp, gg, dd, tt, oo⟩ := s
  dsimp only at *
  repeat ((fail_if_success (with_reducible refine cls_bind X1 (rd_cls _) (fc_new _) ?_)); first | simp only [if_false] | lk)
  refine cls_bind X1 (rd_cls _) (fc_new _) ?_
  have hf : (Code.builtin "type.__call__" ⟨[.ref 172, v1, v2, v3, v4, v5], []⟩).frames = 0 := by kernel_rfl
  have hcl : (Code.builtin "type.__call__" ⟨[.ref 172, v1, v2, v3, v4, v5], []⟩).isCaller = false := by kernel_rfl
  have hw : (Code.builtin "type.__call__" ⟨[.ref 172, v1, v2, v3, v4, v5], []⟩).weight ≤ 20 := by
    unfold Code.weight
    rw [hf, hcl]
    split <;> split <;> simp
  have hun : (Code.builtin "type.__call__" ⟨[.ref 172, v1, v2, v3, v4, v5], []⟩).cUnits ≤ 20 := by
    show 1 + 3 * (Code.builtin "type.__call__" ⟨[.ref 172, v1, v2, v3, v4, v5], []⟩).frames ≤ 20
    rw [hf]; decide
  have hdU : (A.under (Code.builtin "type.__call__" ⟨[.ref 172, v1, v2, v3, v4, v5], []⟩)).depth ≤ 820 := by show A.depth + _ ≤ 820; omega
  have huU : (A.under (Code.builtin "type.__call__" ⟨[.ref 172, v1, v2, v3, v4, v5], []⟩)).units ≤ 7100 := by show A.units + _ ≤ 7100; omega
  refine wpAny_mono (wpAny_big (d := 900) (u := 9000) (A := (A.under (Code.builtin "type.__call__" ⟨[.ref 172, v1, v2, v3, v4, v5], []⟩)).in1) hh (Nat.le_trans hdU (by decide)) (Nat.le_trans (Nat.succ_le_succ huU) (by decide)) (x_static (w := w) (s := ⟨hp, gg, dd, tt + 1, oo⟩) X1)) ?_ (fun _ _ x => x.elim)
  rintro v s' ⟨rfl, hk, h', tk, rfl⟩
  refine handed_on rfl ?_
  refine wpAny_bind (wpAny_holding (newFn (A := A.under (Code.builtin "type.__call__" ⟨[.ref 172, v1, v2, v3, v4, v5], []⟩)) (s := ⟨h', gg, dd, tk, oo⟩) g b hn1 hn2 hlim KX hh (Nat.le_trans hdU (by decide)) (Nat.le_trans huU (by decide)) (hk0.trans hk) fun a d h2 tk2 ha K2 hn => ?_))
  have X2 : (hd.heap_39 w.params).In h2 := KX.keeps ((hk0.trans hk).trans K2)
  refine wpAny_bind (Looks.here (r := true) ((tok_type ha).andThen (lk_self X2)) ?_)
  simp only [Bool.not_true, Bool.false_eq_true, if_false]
  refine wpAny_bind (wpAny_holding ?_)
  unfold callSpecial?
  refine wpAny_bind (Looks.here (r := some (.builtin "object.__init__")) ((tok_type ha).andThen (lk_init X2)) ?_)
  refine wpAny_holding ?_
  rw [oi_bind]
  refine wpAny_bind (wpAny_pure (wpAny_bind ?_))
  refine wpAny_mono (wpAny_big (d := 900) (u := 9000) (A := A.under (Code.builtin "type.__call__" ⟨[.ref 172, v1, v2, v3, v4, v5], []⟩)) hh (Nat.le_trans hdU (by decide)) (Nat.le_trans huU (by decide)) (x_init (w := w) (t := a) (d := d) X2 ha)) ?_ (fun _ _ x => x.elim)
  rintro v s' ⟨rfl, hk3, h3, tk3, rfl⟩
  refine wpAny_pure ?_
  refine wpAny_pure ?_
  refine h a d h3 tk3 (hk3 _ _ ha) ((hk.trans K2).trans hk3) ?_
  cases e : hp.get? a with
  | none => rfl
  | some o => rw [hk _ _ e] at hn; cases hn
end
end Mine

end
section
open PySem PySem.W PyProof.Rows PySem.Calls
set_option maxRecDepth 100000
set_option maxHeartbeats 4000000
namespace Mine
section
variable {w : World} {h₀ : Heap} {mg mb : Str → Option Value} {loose : List Str} {mean : ExcName → Option Value}

theorem tokCls (P : Params) : TokCls (hd.heap_39 P) 172 := ⟨by kernel_rfl, by kernel_rfl, by kernel_rfl, by kernel_rfl⟩
theorem rd91 (P : Params) : readsIn (hd.heap_39 P) 91 (.type "type") = true := by kernel_rfl
theorem fc_name (P : Params) : ∃ t, findCls (hd.heap_39 P) (.ref 91) (.type "type") "NAME" = some (.val (.int 1 t)) := ⟨_, rfl⟩
theorem fc_number (P : Params) : ∃ t, findCls (hd.heap_39 P) (.ref 91) (.type "type") "NUMBER" = some (.val (.int 2 t)) := ⟨_, rfl⟩
theorem fc_comment (P : Params) : ∃ t, findCls (hd.heap_39 P) (.ref 91) (.type "type") "COMMENT" = some (.val (.int 61 t)) := ⟨_, rfl⟩
theorem fc_nl (P : Params) : ∃ t, findCls (hd.heap_39 P) (.ref 91) (.type "type") "NL" = some (.val (.int 62 t)) := ⟨_, rfl⟩
theorem fc_op (P : Params) : ∃ t, findCls (hd.heap_39 P) (.ref 91) (.type "type") "OP" = some (.val (.int 54 t)) := ⟨_, rfl⟩
theorem ns_near (P : Params) : ∃ t, nsIn (hd.heap_39 P) mainGlobals "_law_near" = some (some (.str "E252 missing whitespace around parameter equals" t)) := ⟨_, rfl⟩
theorem ns_far (P : Params) : ∃ t, nsIn (hd.heap_39 P) mainGlobals "_law_far" = some (some (.str "E251 unexpected spaces around keyword / parameter equals" t)) := ⟨_, rfl⟩
theorem ns_tokenize (P : Params) : nsIn (hd.heap_39 P) mainGlobals "tokenize" = some (some (.ref 91)) := by kernel_rfl
theorem ns_Token (P : Params) : nsIn (hd.heap_39 P) mainGlobals "Token" = some (some (.ref 172)) := by kernel_rfl

theorem no_global (KX : (hd.heap_39 w.params).In h₀) (g : h₀.Ns mainGlobals mg) : ∀ x : String, x ∈ ["len", "abs", "int", "bool", "list", "zip", "range", "tuple"] → mg (Str.ofString x) = none := by
  intro x hx
  simp only [List.mem_cons, List.mem_nil_iff, or_false] at hx
  rcases hx with rfl | rfl | rfl | rfl | rfl | rfl | rfl | rfl <;> exact mg_none_of KX g (by kernel_rfl)

theorem attr_ok {A : Around} {s : Shared} (KX : (hd.heap_39 w.params).In h₀) (k : Keep h₀ s.heap) {a : Str} {i : Int} (e : ∃ t, findCls (hd.heap_39 w.params) (.ref 91) (.type "type") a = some (.val (.int i t))) {Q : Value → Shared → Prop} {E : Value → Shared → Prop}
    (h : ∀ u tk, (∀ C ρ h, VR C ρ h (.int i) u) → Q u { s with toks := tk }) : wpAny (model prg w) A (getAttr (.ref 91) a true) Q E s := by
  obtain ⟨t, e⟩ := e
  exact cls_value (KX.keeps k) (rd91 _) e rfl (h _ _ fun _ _ _ => .int _ _)

theorem gd0 (KX : (hd.heap_39 w.params).In h₀) (T : Top hd.view_39 loose mean mg mb h₀) : Gd prg w h₀ 172 T0 mg mb where
  g := T.g
  b := T.b
  nolimit := T.nolimit
  bn := fun x hx => by
    refine ⟨no_global KX T.g x ?_, ?_⟩
    · simp only [List.mem_cons, List.mem_nil_iff, or_false] at hx ⊢
      rcases hx with rfl | rfl <;> simp
    · simp only [List.mem_cons, List.mem_nil_iff, or_false] at hx
      rcases hx with rfl | rfl <;> (rw [T.builtins _ (by decide)]; kernel_rfl)
  bt := fun x hx => by
    refine ⟨no_global KX T.g x ?_, ?_⟩
    · simp only [List.mem_cons, List.mem_nil_iff, or_false] at hx ⊢
      rcases hx with rfl | rfl | rfl | rfl | rfl | rfl <;> simp
    · simp only [List.mem_cons, List.mem_nil_iff, or_false] at hx
      rcases hx with rfl | rfl | rfl | rfl | rfl | rfl <;> (rw [T.builtins _ (by decide)]; kernel_rfl)
  gv := fun x v e => by
    unfold T0 gvT at e
    dsimp only at e
    split at e
    · rename_i q; subst q; cases e
      obtain ⟨t, e⟩ := ns_near w.params
      exact ⟨_, mg_of KX T.g e, fun _ _ _ => .str _ _⟩
    · split at e
      · rename_i q; subst q; cases e
        obtain ⟨t, e⟩ := ns_far w.params
        exact ⟨_, mg_of KX T.g e, fun _ _ _ => .str _ _⟩
      · cases e
  ga := fun x a v e => by
    unfold T0 gaT at e
    dsimp only at e
    split at e
    · rename_i q; subst q
      refine ⟨91, mg_of KX T.g (ns_tokenize _), fun A s Q E k h => ?_⟩
      split at e
      · rename_i q; subst q; cases e; exact attr_ok KX k (fc_name _) h
      · split at e
        · rename_i q; subst q; cases e; exact attr_ok KX k (fc_number _) h
        · split at e
          · rename_i q; subst q; cases e; exact attr_ok KX k (fc_comment _) h
          · split at e
            · rename_i q; subst q; cases e; exact attr_ok KX k (fc_nl _) h
            · split at e
              · rename_i q; subst q; cases e; exact attr_ok KX k (fc_op _) h
              · cases e
    · cases e
  fn := fun f vs v c e => nomatch e
  ti := fun A s a d vs k u x value slice Q E hk ha hs h0 h1 hx h => tok_item (KX.keeps hk) (tokCls _) ha hs h0 h1 hx (h s.heap s.toks (Keep.refl _))
  tu := fun A s a d vs n Q E hh hk ha hn h => tok_unpack hh (KX.keeps hk) (tokCls _) ha hn fun h' k => h h' s.toks k
  fnName := fun f vs v c e => nomatch e

theorem fnAt_of (T : Top hd.view_39 loose mean mg mb h₀) {d : DefRec} (hd' : d ∈ recsOf hd.view_39) : ∃ a cd, FnAt h₀ mg d.name d.params d.body d.scope a cd := by
  obtain ⟨a, o, pm, code, doc, h1, h2, h3, h4⟩ := T.fn d hd'
  exact ⟨a, code, h1, ⟨o, pm, doc, h2, h3⟩, h4⟩
end
end Mine

end
section
open PySem PySem.W PyProof.Rows PySem.Calls
set_option maxRecDepth 100000
set_option maxHeartbeats 4000000
namespace Mine
section
variable {w : World} {h₀ : Heap} {mg mb : Str → Option Value} {A : Around} {s : Shared} {C : Cx} {ρ : List Addr}

theorem zip_fst {ns : List Str} {us : List Value} {p : Str → Prop} (h : ∀ n ∈ ns, p n) : ∀ x ∈ ns.zip us, p x.1 := fun x hx => h _ (List.of_mem_zip hx).1
theorem noMls_ints : ∀ ns : List Int, noMls (ns.map .int) = true
  | [] => rfl
  | n :: r => by simp only [List.map, noMls, noMl, Bool.true_and]; exact noMls_ints r
theorem two {us : List Value} (h : us.length = 2) : ∃ a b, us = [a, b] := by
  match us, h with
  | [a, b], _ => exact ⟨a, b, rfl⟩
theorem one {us : List Value} (h : us.length = 1) : ∃ a, us = [a] := by
  match us, h with
  | [a], _ => exact ⟨a, rfl⟩

theorem cell_eval (xs : List PV) (i : Int) : exsP T0 dCell.scope 20 20 ⟨((dCell.params.args.map (·.arg)).zip [.lst xs, .int i]).reverse, []⟩ dCell.body =
    some (⟨((dCell.params.args.map (·.arg)).zip [.lst xs, .int i]).reverse, []⟩, .ret (if decide (i < (xs.length : Int)) then .int (if intOf (xs.getD i.toNat .none) < 0 then -intOf (xs.getD i.toNat .none) else intOf (xs.getD i.toNat .none)) else .int (7 * i + 3)),
      (True ∧ ((True ∧ True) ∧ (xs.length : Int) < 2 ^ 63) ∧ True) ∧ (decide (i < (xs.length : Int)) = true → ((((True ∧ True ∧ 0 ≤ i ∧ i < (xs.length : Int) ∧ i < 2 ^ 63) ∧ True) ∧ ∃ j, xs.getD i.toNat PV.none = PV.int j) ∧ True) ∧ True) ∧
        (decide (i < (xs.length : Int)) = false → (True ∧ True ∧ IntMulOk 7 i) ∧ True ∧ True)) := by kernel_rfl

theorem getD_ints {ns : List Int} {i : Int} (h0 : 0 ≤ i) (h1 : i < ns.length) : (ns.map PV.int).getD i.toNat .none = .int (ns.getD i.toNat 0) := by
  have : i.toNat < ns.length := by omega
  simp [List.getD_eq_getElem?_getD, this]

theorem cell_ok (G0 : Gd prg w h₀ 172 T0 mg mb) {a : Addr} {cd : Value} (hF : FnAt h₀ mg dCell.name dCell.params dCell.body dCell.scope a cd) {ns : List Int} (hns : (ns.length : Int) < 2 ^ 62) {i : Int} (h0 : 0 ≤ i) (h1 : i < 2 ^ 62)
    {us : List Value} {Q : Value → Shared → Prop} {E : Value → Shared → Prop} (rm : Rm 20 A) (hk0 : Keep h₀ s.heap) (hsz : h₀.objs.size ≤ s.heap.objs.size) (hC : C.cls = 172) (hd : ∀ a, Free C ρ a ∨ (s.heap.get? a).isSome = true) (hv : VRs C ρ s.heap [.lst (ns.map .int), .int i] us)
    (h : Out C ρ s (.int (cellI ns i)) Q) : wpAny (model prg w) A (call (.ref a) us) Q E s := by
  refine fnCall (k := 12) hF G0.nolimit (fun pm doc us hu => ?_) (fun us hu => ?_) (by kernel_rfl) (by kernel_rfl) (by kernel_rfl) (by decide +kernel) ?_ (fun A C L rm hC => ?_) (rm.less (by omega)) hk0 hsz hC hd hv h
  · obtain ⟨a, b, rfl⟩ := two hu
    kernel_rfl
  · exact zip_fst (p := fun n => dCell.scope.names.lookup n = some .local) (by decide +kernel)
  · simp only [noMls, noMl, noMls_ints, Bool.and_self]
  · refine Tri.run (T := T0) (by rw [hC]; exact G0) rm (by kernel_rfl) 20 20 (cell_eval (ns.map .int) i) ?_ ⟨_, rfl, ?_⟩
    · rw [List.length_map]
      refine ⟨⟨trivial, ⟨⟨trivial, trivial⟩, by omega⟩, trivial⟩, fun q => ?_, fun q => ?_⟩
      · have q' := of_decide_eq_true q
        refine ⟨⟨⟨⟨⟨trivial, trivial, h0, q', by omega⟩, trivial⟩, _, getD_ints h0 q'⟩, trivial⟩, trivial⟩
      · exact ⟨⟨trivial, trivial, .of_left (by decide)⟩, trivial, trivial⟩
    · rw [List.length_map]
      unfold cellI
      by_cases q : i < (ns.length : Int)
      · rw [if_pos q, decide_eq_true q, getD_ints h0 q]
        rfl
      · rw [if_neg q, decide_eq_false q]
        rfl
end
end Mine

end
section
open PySem PySem.W PyProof.Rows PySem.Calls
set_option maxRecDepth 100000
set_option maxHeartbeats 4000000
namespace Mine
noncomputable def asIf (st : Stmt) : Stmt := .If (ifT st) (ifB st) (ifO st) (ifP st)
noncomputable def asFor (st : Stmt) : Stmt := .For (forT st) (forI st) (forB st) [] (forP st)
section
variable {w : World} {h₀ : Heap} {mg mb : Str → Option Value} {A : Around} {s : Shared} {C : Cx} {ρ : List Addr}

theorem shaped_hash : SeqAt.shaped (PyData.str (Str.ofString "#")) = true := by decide +kernel
theorem shaped_under : SeqAt.shaped (PyData.str (Str.ofString "_")) = true := by decide +kernel
theorem shaped_int (i : Int) : SeqAt.shaped (PyData.int i) = true := by simp [SeqAt.shaped, PyData.canLay0, PyData.depth]
theorem shaped_bool (b : Bool) : SeqAt.shaped (PyData.bool b) = true := by simp [SeqAt.shaped, PyData.canLay0, PyData.depth]

noncomputable def chkWord (w : Str) : Bool := SeqAt.shaped (.str (Txt.item w 0)) && decide (0 < w.length) && (!PyData.eqv (.str (Txt.item w 0)) (.str (Str.ofString "#"))) &&
  ((Txt.isalpha (Txt.item w 0) || (PyData.eqv (.str (Txt.item w 0)) (.str (Str.ofString "_")) || false)) == decide (kindI w = 1)) &&
  (decide (kindI w = 1) || decide (kindI w = (if Txt.isdigit (Txt.item w 0) then 2 else 54)))
theorem chkWords : ∀ w ∈ wordsAll.map Str.ofString, chkWord w = true := by decide +kernel

theorem kind_body : dKind.body = [asIf (nth dKind.body 0), asIf (nth dKind.body 1), nth dKind.body 2] := by kernel_rfl
theorem kind_t0 (w : Str) : tvP T0 dKind.scope 20 ⟨[("word", .str w)], []⟩ (ifT (nth dKind.body 0)) = some (PyData.eqv (.str (Txt.item w 0)) (.str (Str.ofString "#")),
      (True ∧ True ∧ fitsSsize 0 = true ∧ -(w.length : Int) ≤ 0 ∧ 0 < (w.length : Int)) ∧ True ∧ SeqAt.shaped (PyData.str (Txt.item w 0)) = true ∧ SeqAt.shaped (PyData.str (Str.ofString "#")) = true) := by kernel_rfl
theorem kind_t1 (w : Str) : tvP T0 dKind.scope 20 ⟨[("word", .str w)], []⟩ (ifT (nth dKind.body 1)) = some (Txt.isalpha (Txt.item w 0) || (PyData.eqv (.str (Txt.item w 0)) (.str (Str.ofString "_")) || false),
      (((True ∧ True ∧ fitsSsize 0 = true ∧ -(w.length : Int) ≤ 0 ∧ 0 < (w.length : Int)) ∧ True) ∧ True) ∧
        (Txt.isalpha (Txt.item w 0) = false → ((True ∧ True ∧ fitsSsize 0 = true ∧ -(w.length : Int) ≤ 0 ∧ 0 < (w.length : Int)) ∧ True ∧ SeqAt.shaped (PyData.str (Txt.item w 0)) = true ∧ SeqAt.shaped (PyData.str (Str.ofString "_")) = true) ∧
            (PyData.eqv (.str (Txt.item w 0)) (.str (Str.ofString "_")) = false → True))) := by kernel_rfl
theorem kind_b1 (w : Str) : exsP T0 dKind.scope 20 20 ⟨[("word", .str w)], []⟩ (ifB (nth dKind.body 1)) = some (⟨[("word", .str w)], []⟩, .ret (.int 1), True) := by kernel_rfl
theorem kind_r (w : Str) : exsP T0 dKind.scope 20 20 ⟨[("word", .str w)], []⟩ [nth dKind.body 2] = some (⟨[("word", .str w)], []⟩, .ret (if Txt.isdigit (Txt.item w 0) then .int 2 else .int 54),
      (((True ∧ True ∧ fitsSsize 0 = true ∧ -(w.length : Int) ≤ 0 ∧ 0 < (w.length : Int)) ∧ True) ∧ True) ∧ (Txt.isdigit (Txt.item w 0) = true → True) ∧ (Txt.isdigit (Txt.item w 0) = false → True)) := by kernel_rfl

theorem kind_ok (G0 : Gd prg w h₀ 172 T0 mg mb) {a : Addr} {cd : Value} (hF : FnAt h₀ mg dKind.name dKind.params dKind.body dKind.scope a cd) {x : Str} (hx : x ∈ wordsAll.map Str.ofString)
    {us : List Value} {Q : Value → Shared → Prop} {E : Value → Shared → Prop} (rm : Rm 20 A) (hk0 : Keep h₀ s.heap) (hsz : h₀.objs.size ≤ s.heap.objs.size) (hC : C.cls = 172) (hd : ∀ a, Free C ρ a ∨ (s.heap.get? a).isSome = true) (hv : VRs C ρ s.heap [.str x] us)
    (h : Out C ρ s (.int (kindI x)) Q) : wpAny (model prg w) A (call (.ref a) us) Q E s := by
  have hc := chkWords x hx
  unfold chkWord at hc
  simp only [Bool.and_eq_true, Bool.not_eq_true', beq_iff_eq, Bool.or_eq_true, decide_eq_true_eq] at hc
  obtain ⟨⟨⟨⟨hc0, hc1⟩, hc2⟩, hc3⟩, hc4⟩ := hc
  have hc1' : 0 < (x.length : Int) := by omega
  have hfs : fitsSsize 0 = true := by decide
  refine fnCall (k := 12) hF G0.nolimit (fun pm doc us hu => ?_) (fun us hu => ?_) (by kernel_rfl) (by kernel_rfl) (by kernel_rfl) (by decide +kernel) rfl (fun A C L rm hC => ?_) (rm.less (by omega)) hk0 hsz hC hd hv h
  · obtain ⟨a, rfl⟩ := one hu
    kernel_rfl
  · exact zip_fst (p := fun n => dKind.scope.names.lookup n = some .local) (by decide +kernel)
  · have G1 : Gd prg w h₀ C.cls T0 mg mb := by rw [hC]; exact G0
    have hP : (⟨((dKind.params.args.map (·.arg)).zip [PV.str x]).reverse, []⟩ : PS) = ⟨[("word", .str x)], []⟩ := by kernel_rfl
    rw [hP, kind_body]
    have hk : dKind.scope.kind = .function := by kernel_rfl
    refine Tri.cons (Tri.If G1 rm hk 20 (kind_t0 x) ⟨⟨trivial, trivial, hfs, by omega, hc1'⟩, trivial, hc0, shaped_hash⟩ (fun q => ?_) fun _ => ?_)
    · rw [hc2] at q; cases q
    · have ho : ifO (nth dKind.body 0) = [] := by kernel_rfl
      rw [ho]
      refine Tri.nil (.inl ⟨rfl, ?_⟩)
      refine Tri.cons (Tri.If G1 rm hk 20 (kind_t1 x) ⟨⟨⟨⟨trivial, trivial, hfs, by omega, hc1'⟩, trivial⟩, trivial⟩, fun _ => ⟨⟨⟨trivial, trivial, hfs, by omega, hc1'⟩, trivial, hc0, shaped_under⟩, fun _ => trivial⟩⟩ (fun q => ?_) fun q => ?_)
      · refine Tri.run G1 rm hk 20 20 (kind_b1 x) trivial (.inr ⟨(fun q => nomatch q), _, rfl, ?_⟩)
        rw [hc3] at q
        rw [of_decide_eq_true q]
        rfl
      · have ho : ifO (nth dKind.body 1) = [] := by kernel_rfl
        rw [ho]
        refine Tri.nil (.inl ⟨rfl, ?_⟩)
        refine Tri.run G1 rm hk 20 20 (kind_r x) ⟨⟨⟨⟨trivial, trivial, hfs, by omega, hc1'⟩, trivial⟩, trivial⟩, fun _ => trivial, fun _ => trivial⟩ ⟨_, rfl, ?_⟩
        rw [hc3] at q
        have hne := of_decide_eq_false q
        rcases hc4 with e | e
        · exact absurd e hne
        · rw [e]
          cases Txt.isdigit (Txt.item x 0) <;> rfl
end
end Mine

end
section
open PySem PySem.W PyProof.Rows PySem.Calls
set_option maxRecDepth 100000
set_option maxHeartbeats 4000000
namespace Mine
section
variable {w : World} {h₀ : Heap} {mg mb : Str → Option Value} {A : Around} {s : Shared} {C : Cx} {ρ : List Addr}

theorem keeper_fn {M : Model} {h : Heap} {a : Addr} {o : Obj} {fd : FuncData} (ho : h.get? a = some o) (hd : o.data = .func fd) : Looks M h (keeperOf (.ref a)) .frame := by
  unfold keeperOf
  refine (Looks.ld ho).andThen ?_
  rw [hd]
  exact .now
theorem keep172 (P : Params) : keepIn (hd.heap_39 P) (.ref 172) = true := by kernel_rfl

theorem FnAt.keeper {name : Str} {params : Arguments} {body : List Stmt} {scope : Scope} {a : Addr} {cd : Value} (hF : FnAt h₀ mg name params body scope a cd) {M : Model} {h : Heap} (k : Keep h₀ h) :
    ∃ kp, (kp = Keeper.frame ∨ kp = Keeper.machine ∨ kp = Keeper.boundFrame) ∧ Looks M h (keeperOf (.ref a)) kp := by
  obtain ⟨o, pm, doc, ho, hd⟩ := hF.obj
  exact ⟨.frame, .inl rfl, keeper_fn (k _ _ ho) hd⟩

theorem gd1 (KX : (hd.heap_39 w.params).In h₀) (G0 : Gd prg w h₀ 172 T0 mg mb) {ns : List Int} (hns : (ns.length : Int) < 2 ^ 62)
    {a1 a2 : Addr} {cd1 cd2 : Value} (hF1 : FnAt h₀ mg dCell.name dCell.params dCell.body dCell.scope a1 cd1) (hF2 : FnAt h₀ mg dKind.name dKind.params dKind.body dKind.scope a2 cd2) : Gd prg w h₀ 172 (T1 ns) mg mb where
  g := G0.g
  b := G0.b
  nolimit := G0.nolimit
  bn := G0.bn
  bt := G0.bt
  gv := G0.gv
  ga := G0.ga
  ti := G0.ti
  tu := G0.tu
  fnName := fun f vs v c e => by
    unfold T1 fnT at e
    dsimp only at e
    split at e
    · rename_i q; subst q; exact ⟨by decide, by decide, by decide⟩
    · split at e
      · rename_i q; subst q; exact ⟨by decide, by decide, by decide⟩
      · split at e
        · rename_i q; subst q; exact ⟨by decide, by decide, by decide⟩
        · cases e
  fn := fun f vs v c e hc => by
    unfold T1 fnT at e
    dsimp only at e
    split at e
    · rename_i q; subst q
      split at e
      · rename_i xs i
        cases e
        obtain ⟨rfl, h0, h1⟩ := hc
        refine ⟨a1, hF1.here, fun h k => hF1.keeper k, fun A C ρ us s Q E rm hk hsz hC hd hv h => ?_⟩
        exact cell_ok G0 hF1 hns h0 h1 (rm.less (by show 20 ≤ 350; decide)) hk hsz hC hd hv h
      · cases e
    · split at e
      · rename_i q; subst q
        split at e
        · rename_i x
          cases e
          refine ⟨a2, hF2.here, fun h k => hF2.keeper k, fun A C ρ us s Q E rm hk hsz hC hd hv h => ?_⟩
          exact kind_ok G0 hF2 hc (rm.less (by show 20 ≤ 350; decide)) hk hsz hC hd hv h
        · cases e
      · split at e
        · rename_i q; subst q
          split at e
          · cases e
            refine ⟨172, mg_of KX G0.g (ns_Token _), fun h k => keeps_K (keep172 w.params) h (KX.keeps k), fun A C ρ us s Q E rm hk hsz hC hd hv h => ?_⟩
            cases hv with | cons r1 hv => cases hv with | cons r2 hv => cases hv with | cons r3 hv => cases hv with | cons r4 hv => cases hv with | cons r5 hv =>
              cases hv
              have rm' : Rm 350 A := rm
              have hlim : recursionLimit = 1000 := rfl
              have hcl : cLine = 9900 := rfl
              refine tokCall G0.g G0.b (G0.bt "tuple" (by simp)).1 (G0.bt "tuple" (by simp)).2 G0.nolimit KX rm'.hh (by have := rm'.depth; omega) (by have := rm'.units; omega) hk fun a d h' tk ha K hn => ?_
              refine h _ h' tk K (.tok (d := d) (by rw [hC]; exact ha) ?_ (VRs.keep (.cons r1 (.cons r2 (.cons r3 (.cons r4 (.cons r5 .nil))))) K))
              rcases hd a with f | f
              · exact f
              · rw [hn] at f; cases f
          · cases e
        · cases e
end
end Mine

end
section
open PySem PySem.W PyProof.Rows PySem.Calls
set_option maxRecDepth 100000
set_option maxHeartbeats 4000000
namespace Mine

noncomputable def blank : Str := Str.ofString " "
noncomputable def adv (st : Str × List (Str × Nat)) (z : Str × Int) : Str × List (Str × Nat) := ((st.1 ++ Txt.mul blank z.2) ++ z.1, st.2 ++ [(z.1, (st.1 ++ Txt.mul blank z.2).length)])
noncomputable def laid (zs : List (Str × Int)) : Str × List (Str × Nat) := zs.foldl adv (Str.ofString "", [])
noncomputable def pvSpot (p : Str × Nat) : PV := .tup [.str p.1, .int (p.2 : Int)]
noncomputable def pvTok (line : Str) (p : Str × Nat) : PV := .tok [.int (kindI p.1), .str p.1, .tup [.int 1, .int (p.2 : Int)], .tup [.int 1, .int ((p.2 : Int) + (p.1.length : Int))], .str (line ++ Str.ofString "\n")]
noncomputable def toksP (zs : List (Str × Int)) : List PV := (laid zs).2.map (pvTok (laid zs).1)
noncomputable def GoodZ (zs : List (Str × Int)) : Prop := (∀ z ∈ zs, z.1 ∈ wordsAll.map Str.ofString ∧ 0 ≤ z.2 ∧ z.2 ≤ 2) ∧ zs.length ≤ 1000

theorem word_len : ∀ w ∈ wordsAll.map Str.ofString, w.length ≤ 3 := by decide +kernel
theorem mul_len {g : Int} (h0 : 0 ≤ g) : (Txt.mul blank g).length = g.toNat := by
  have h := len_mul_k1 (x := blank) (n := g) (by decide +kernel)
  rw [if_neg (by omega)] at h
  omega
theorem laid_snoc (zs : List (Str × Int)) (z : Str × Int) : laid (zs ++ [z]) = adv (laid zs) z := by simp [laid]
theorem laid_take {zs : List (Str × Int)} {i : Nat} (h : i < zs.length) : laid (zs.take (i + 1)) = adv (laid (zs.take i)) zs[i] := by
  rw [← List.take_append_getElem h, laid_snoc]
theorem laid_len (zs : List (Str × Int)) (h : ∀ z ∈ zs, z.1 ∈ wordsAll.map Str.ofString ∧ 0 ≤ z.2 ∧ z.2 ≤ 2) : ∀ i, i ≤ zs.length → (laid (zs.take i)).1.length ≤ 5 * i ∧ (laid (zs.take i)).2.length = i ∧ ∀ p ∈ (laid (zs.take i)).2, p.1 ∈ wordsAll.map Str.ofString
  | 0, _ => by
    refine ⟨?_, rfl, fun p hp => ?_⟩
    · show (Str.ofString "").length ≤ 0
      decide +kernel
    · simp [laid] at hp
  | i + 1, hi => by
    have hlt : i < zs.length := by omega
    obtain ⟨h1, h2, h3⟩ := laid_len zs h i (by omega)
    obtain ⟨g1, g2, g3⟩ := h zs[i] (List.getElem_mem hlt)
    rw [laid_take hlt]
    have hw := word_len _ g1
    refine ⟨?_, ?_, fun p hp => ?_⟩
    · show ((_ ++ _) ++ _ : Str).length ≤ _
      rw [Str.length_append, Str.length_append, mul_len g2]
      omega
    · show (_ ++ [_]).length = _
      rw [List.length_append, h2]; rfl
    · rcases List.mem_append.mp hp with q | q
      · exact h3 p q
      · rw [List.mem_singleton.mp q]; exact g1

theorem getD_map {α : Type} (f : α → PV) (l : List α) {i : Nat} (h : i < l.length) : (l.map f).getD i .none = f l[i] := by
  simp [List.getD_eq_getElem?_getD, h]
theorem noMls_map {α : Type} (f : α → PV) (h : ∀ x, noMl (f x) = true) : ∀ l : List α, noMls (l.map f) = true
  | [] => rfl
  | x :: r => by simp only [List.map, noMls, h, Bool.true_and]; exact noMls_map f h r
theorem noMl_tok (line : Str) (p : Str × Nat) : noMl (pvTok line p) = true := rfl

section
variable {w : World} {h₀ : Heap} {mg mb : Str → Option Value} {A : Around} {s : Shared} {C : Cx} {ρ : List Addr} {L : Addr} {nm : Str} {a : Addr} {cd : Value}

theorem tk_body : dTokens.body = [nth dTokens.body 0, asFor (nth dTokens.body 1), nth dTokens.body 2, asFor (nth dTokens.body 3), nth dTokens.body 4] := by kernel_rfl
theorem tk_0 (ns : List Int) (ws gs : List PV) : exsP (T1 ns) dTokens.scope 20 20 ⟨[("row", .int 1), ("gaps", .lst gs), ("words", .lst ws)], []⟩ [nth dTokens.body 0] =
    some (⟨[("row", .int 1), ("gaps", .lst gs), ("words", .lst ws), ("spots", .ml 0), ("line", .str (Str.ofString ""))], [[]]⟩, .next, ((True ∧ True) ∧ 2 ≤ sizeLine) ∧ True) := by kernel_rfl
theorem tk_b1 (ns : List Int) (ws gs sp : List PV) (x line : Str) (g : Int) : exsP (T1 ns) dTokens.scope 20 20 ⟨[("row", .int 1), ("gaps", .lst gs), ("words", .lst ws), ("spots", .ml 0), ("line", .str line), ("word", .str x), ("gap", .int g)], [sp]⟩ (forB (nth dTokens.body 1)) =
    some (⟨[("row", .int 1), ("gaps", .lst gs), ("words", .lst ws), ("spots", .ml 0), ("line", .str (line ++ Txt.mul (Str.ofString " ") g ++ x)), ("word", .str x), ("gap", .int g)], [sp ++ [.tup [.str x, .int ((line ++ Txt.mul (Str.ofString " ") g).length : Nat)]]]⟩, .next,
      (True ∧ (True ∧ True ∧ MulOk (Str.ofString " ") g) ∧ line.length + (Txt.mul (Str.ofString " ") g).length ≤ sizeLine) ∧
        (((True ∧ ((True ∧ True) ∧ (((line ++ Txt.mul (Str.ofString " ") g).length : Nat) : Int) < 2 ^ 63) ∧ True) ∧ 2 ≤ sizeLine) ∧ sp.length ≤ sizeLine) ∧
          (True ∧ True ∧ (line ++ Txt.mul (Str.ofString " ") g).length + x.length ≤ sizeLine) ∧ True) := by kernel_rfl
theorem tk_2 (ns : List Int) (ws gs sp : List PV) (line : Str) : exsP (T1 ns) dTokens.scope 20 20 ⟨[("row", .int 1), ("gaps", .lst gs), ("words", .lst ws), ("spots", .ml 0), ("line", .str line)], [sp]⟩ [nth dTokens.body 2] =
    some (⟨[("row", .int 1), ("gaps", .lst gs), ("words", .lst ws), ("spots", .ml 0), ("line", .str line), ("found", .ml 1)], [sp, []]⟩, .next, True ∧ True) := by kernel_rfl
theorem tk_b3 (ns : List Int) (ws gs sp fo : List PV) (line x : Str) (p : Nat) : exsP (T1 ns) dTokens.scope 20 20 ⟨[("row", .int 1), ("gaps", .lst gs), ("words", .lst ws), ("spots", .ml 0), ("line", .str line), ("found", .ml 1), ("word", .str x), ("spot", .int (p : Int))], [sp, fo]⟩ (forB (nth dTokens.body 3)) =
    some (⟨[("row", .int 1), ("gaps", .lst gs), ("words", .lst ws), ("spots", .ml 0), ("line", .str line), ("found", .ml 1), ("word", .str x), ("spot", .int (p : Int))], [sp, fo ++ [pvTok line (x, p)]]⟩, .next,
      (((((True ∧ True) ∧ x ∈ wordsAll.map Str.ofString) ∧ True ∧ ((True ∧ True ∧ True) ∧ 2 ≤ sizeLine) ∧ ((True ∧ (True ∧ ((True ∧ True) ∧ (x.length : Int) < 2 ^ 63) ∧ True) ∧ True) ∧ 2 ≤ sizeLine) ∧
          (True ∧ True ∧ line.length + (Str.ofString "\n").length ≤ sizeLine) ∧ True) ∧
            noMls [.int (kindI x), .str x, .tup [.int 1, .int (p : Int)], .tup [.int 1, .int ((p : Int) + (x.length : Int))], .str (line ++ Str.ofString "\n")] = true) ∧ fo.length ≤ sizeLine) ∧ True) := by kernel_rfl
theorem tk_4 (ns : List Int) (ws gs sp fo : List PV) (line : Str) : exsP (T1 ns) dTokens.scope 20 20 ⟨[("row", .int 1), ("gaps", .lst gs), ("words", .lst ws), ("spots", .ml 0), ("line", .str line), ("found", .ml 1)], [sp, fo]⟩ [nth dTokens.body 4] =
    some (⟨[("row", .int 1), ("gaps", .lst gs), ("words", .lst ws), ("spots", .ml 0), ("line", .str line), ("found", .ml 1)], [sp, fo]⟩, .ret (.ml 1), True) := by kernel_rfl
theorem tk_a1 (ws gs sp : List PV) (x line : Str) (g : Int) : asgP dTokens.scope (forT (nth dTokens.body 1)) (.tup [.str x, .int g]) ⟨[("row", .int 1), ("gaps", .lst gs), ("words", .lst ws), ("spots", .ml 0), ("line", .str line)], [sp]⟩ =
    some ⟨[("row", .int 1), ("gaps", .lst gs), ("words", .lst ws), ("spots", .ml 0), ("line", .str line), ("word", .str x), ("gap", .int g)], [sp]⟩ := by kernel_rfl
theorem tk_a3 (ws gs sp fo : List PV) (x line : Str) (p : Int) : asgP dTokens.scope (forT (nth dTokens.body 3)) (.tup [.str x, .int p]) ⟨[("row", .int 1), ("gaps", .lst gs), ("words", .lst ws), ("spots", .ml 0), ("line", .str line), ("found", .ml 1)], [sp, fo]⟩ =
    some ⟨[("row", .int 1), ("gaps", .lst gs), ("words", .lst ws), ("spots", .ml 0), ("line", .str line), ("found", .ml 1), ("word", .str x), ("spot", .int p)], [sp, fo]⟩ := by kernel_rfl
theorem tk_f1 : ∃ es k tp p cp e1 e2 b pos, asFor (nth dTokens.body 1) = .For (.Tuple es k tp) (.Call (.Name (Str.ofString "zip") p) [e1, e2] [] cp) b [] pos ∧ forT (nth dTokens.body 1) = .Tuple es k tp ∧ forB (nth dTokens.body 1) = b ∧
    ∀ ns ws gs sp line, evs (evP (T1 ns) dTokens.scope 20 ⟨[("row", .int 1), ("gaps", .lst gs), ("words", .lst ws), ("spots", .ml 0), ("line", .str line)], sp⟩) [e1, e2] = some ([.lst ws, .lst gs], True ∧ True ∧ True) :=
  ⟨_, _, _, _, _, _, _, _, _, rfl, rfl, rfl, fun _ _ _ _ _ => by kernel_rfl⟩
theorem tk_i3 (ns : List Int) (ws gs sp fo : List PV) (line : Str) : evP (T1 ns) dTokens.scope 20 ⟨[("row", .int 1), ("gaps", .lst gs), ("words", .lst ws), ("spots", .ml 0), ("line", .str line), ("found", .ml 1)], [sp, fo]⟩ (forI (nth dTokens.body 3)) = some (.ml 0, True) := by kernel_rfl
end
end Mine

end
section
open PySem PySem.W PyProof.Rows PySem.Calls
set_option maxRecDepth 100000
set_option maxHeartbeats 4000000
namespace Mine
section
variable {w : World} {h₀ : Heap} {mg mb : Str → Option Value} {A : Around} {s : Shared} {C : Cx} {ρ : List Addr} {L : Addr} {nm : Str} {a : Addr} {cd : Value}

theorem three {us : List Value} (h : us.length = 3) : ∃ a b c, us = [a, b, c] := by
  match us, h with
  | [a, b, c], _ => exact ⟨a, b, c, rfl⟩
theorem two_line : 2 ≤ sizeLine := by decide
theorem nl_len : (Str.ofString "\n").length = 1 := by decide +kernel
theorem tk_fold (env : Env) (x : Value) : foldedSetIterable (forI (nth dTokens.body 3)) env x = pure x := by kernel_rfl

noncomputable def wsP (zs : List (Str × Int)) : List PV := zs.map fun z => .str z.1
noncomputable def gsP (zs : List (Str × Int)) : List PV := zs.map fun z => .int z.2
noncomputable def tkS (zs : List (Str × Int)) (i : Nat) : PS := ⟨[("row", .int 1), ("gaps", .lst (gsP zs)), ("words", .lst (wsP zs)), ("spots", .ml 0), ("line", .str (laid (zs.take i)).1)], [(laid (zs.take i)).2.map pvSpot]⟩
noncomputable def tkR (zs : List (Str × Int)) (i : Nat) : PS := ⟨[("row", .int 1), ("gaps", .lst (gsP zs)), ("words", .lst (wsP zs)), ("spots", .ml 0), ("line", .str (laid zs).1), ("found", .ml 1)], [(laid zs).2.map pvSpot, ((laid zs).2.take i).map (pvTok (laid zs).1)]⟩

theorem tokens_tri {ns : List Int} (G : Gd prg w h₀ C.cls (T1 ns) mg mb) (rm : Rm ((T1 ns).nd + 12) A) {zs : List (Str × Int)} (hz : GoodZ zs) :
    Tri prg w A C L h₀ dTokens.scope nm a cd dTokens.body ⟨[("row", .int 1), ("gaps", .lst (gsP zs)), ("words", .lst (wsP zs))], []⟩ fun P' f => ∃ v0, f = .ret v0 ∧ fz P'.muts v0 = some (.lst (toksP zs)) := by
  obtain ⟨hz1, hz2⟩ := hz
  have hk : dTokens.scope.kind = .function := by kernel_rfl
  have hsl : sizeLine = 16777216 := rfl
  rw [tk_body]
  refine Tri.cons (Tri.run G rm hk 20 20 (tk_0 ns _ _) ⟨⟨⟨trivial, trivial⟩, two_line⟩, trivial⟩ (.inl ⟨rfl, ?_⟩))
  refine Tri.cons (Tri.mono (post := fun P' f => f = .next ∧ P' = tkS zs zs.length) ?_ ?_)
  · obtain ⟨es, k, tp, p, cp, e1, e2, b, pos, hf1, hf2, hf3, hf4⟩ := tk_f1
    rw [hf1]
    have hl : min (wsP zs).length (gsP zs).length = zs.length := by simp [wsP, gsP]
    refine Tri.forZip (xs := wsP zs) (ys := gsP zs) G rm hk 20 (by kernel_rfl) (hf4 ns _ _ _ _) ⟨trivial, trivial, trivial⟩ (fun i P => P = tkS zs i) rfl (fun C' hC' i P hi hP => ?_) (fun P' hP => ?_)
    · subst hP
      rw [hl] at hi
      have e1 : (wsP zs).getD i .none = .str zs[i].1 := getD_map _ zs hi
      have e2 : (gsP zs).getD i .none = .int zs[i].2 := getD_map _ zs hi
      rw [e1, e2, ← hf2, ← hf3]
      refine ⟨_, tk_a1 _ _ _ _ _ _, ?_⟩
      obtain ⟨g1, g2, g3⟩ := hz1 zs[i] (List.getElem_mem hi)
      obtain ⟨l1, l2, l3⟩ := laid_len zs hz1 i (by omega)
      have hw := word_len _ g1
      have hm := mul_len g2
      unfold blank at hm
      refine Tri.sub (Tri.run (C := C') (by rw [hC']; exact G) rm hk 20 20 (tk_b1 ns _ _ _ _ _ _) ?_ (post := fun P' f => f = .next ∧ P' = ⟨[("row", .int 1), ("gaps", .lst (gsP zs)), ("words", .lst (wsP zs)), ("spots", .ml 0), ("line", .str (laid (zs.take (i + 1))).1), ("word", .str zs[i].1), ("gap", .int zs[i].2)], [(laid (zs.take (i + 1))).2.map pvSpot]⟩) ⟨rfl, ?_⟩) (fun P' f hpf => ?_)
      · refine ⟨⟨trivial, ⟨trivial, trivial, mulOk_of (L := 1) (N := 2) (by decide +kernel) g3 (by omega) (by decide) (by decide)⟩, by omega⟩, ⟨⟨⟨trivial, ⟨⟨trivial, trivial⟩, ?_⟩, trivial⟩, two_line⟩, ?_⟩, ⟨trivial, trivial, ?_⟩, trivial⟩
        · rw [Str.length_append]; omega
        · rw [List.length_map, l2]; omega
        · rw [Str.length_append]; omega
      · rw [laid_take hi]
        simp only [adv, blank, List.map_append, List.map_cons, List.map_nil, pvSpot]
      · obtain ⟨rfl, rfl⟩ := hpf
        exact ⟨tkS zs (i + 1), Sub.looked ⟨rfl, rfl, rfl, rfl, rfl, trivial⟩, .inl rfl, rfl⟩
    · rw [hl] at hP
      exact ⟨rfl, hP⟩
  · rintro P' f ⟨rfl, rfl⟩
    refine .inl ⟨rfl, ?_⟩
    unfold tkS
    rw [List.take_length]
    obtain ⟨l1, l2, l3⟩ := laid_len zs hz1 zs.length (Nat.le_refl _)
    rw [List.take_length] at l1 l2 l3
    refine Tri.cons (Tri.run G rm hk 20 20 (tk_2 ns _ _ _ _) ⟨trivial, trivial⟩ (.inl ⟨rfl, ?_⟩))
    refine Tri.cons (Tri.mono (post := fun P' f => f = .next ∧ P' = tkR zs zs.length) ?_ ?_)
    · have hl : ((laid zs).2.map pvSpot).length = zs.length := by rw [List.length_map, l2]
      refine Tri.forMl (xs := (laid zs).2.map pvSpot) G rm hk 20 (tk_i3 ns _ _ _ _ _) trivial (tk_fold _) (fun i P => P = tkR zs i) ?_ (fun i P hP => ?_) (fun i P hi hP => ?_) (fun P' hP => ?_)
      · simp only [tkR, List.take_zero, List.map_nil]
      · subst hP; rfl
      · subst hP
        rw [hl] at hi
        have hi' : i < (laid zs).2.length := by omega
        have e1 : ((laid zs).2.map pvSpot).getD i .none = pvSpot (laid zs).2[i] := getD_map _ _ hi'
        rw [e1]
        refine ⟨_, tk_a3 _ _ _ _ _ _ _, ?_⟩
        have hin := l3 _ (List.getElem_mem hi')
        have hw := word_len _ hin
        refine Tri.sub (Tri.run G rm hk 20 20 (tk_b3 ns _ _ _ _ _ _ _) ?_ (post := fun P' f => f = .next ∧ P' = ⟨[("row", .int 1), ("gaps", .lst (gsP zs)), ("words", .lst (wsP zs)), ("spots", .ml 0), ("line", .str (laid zs).1), ("found", .ml 1), ("word", .str (laid zs).2[i].1), ("spot", .int ((laid zs).2[i].2 : Int))], [(laid zs).2.map pvSpot, ((laid zs).2.take (i + 1)).map (pvTok (laid zs).1)]⟩) ⟨rfl, ?_⟩) (fun P' f hpf => ?_)
        · refine ⟨⟨⟨⟨⟨⟨trivial, trivial⟩, hin⟩, trivial, ⟨⟨trivial, trivial, trivial⟩, two_line⟩, ⟨⟨trivial, ⟨trivial, ⟨⟨trivial, trivial⟩, by omega⟩, trivial⟩, trivial⟩, two_line⟩, ⟨trivial, trivial, ?_⟩, trivial⟩, rfl⟩, ?_⟩, trivial⟩
          · rw [nl_len]; omega
          · rw [List.length_map, List.length_take]; omega
        · rw [← List.take_append_getElem hi', List.map_append, List.map_cons, List.map_nil]
        · obtain ⟨rfl, rfl⟩ := hpf
          exact ⟨tkR zs (i + 1), Sub.looked ⟨rfl, rfl, rfl, rfl, rfl, rfl, trivial⟩, .inl rfl, rfl⟩
      · rw [hl] at hP
        exact ⟨rfl, hP⟩
    · rintro P' f ⟨rfl, rfl⟩
      refine .inl ⟨rfl, ?_⟩
      unfold tkR
      have ht : (laid zs).2.take zs.length = (laid zs).2 := List.take_of_length_le (by omega)
      rw [ht]
      refine Tri.run G rm hk 20 20 (tk_4 ns _ _ _ _ _) trivial ⟨_, rfl, ?_⟩
      show (if noMls _ = true then some (PV.lst _) else none) = _
      rw [noMls_map _ (noMl_tok _)]
      rfl
end
end Mine

end
section
open PySem PySem.W PyProof.Rows PySem.Calls
set_option maxRecDepth 100000
set_option maxHeartbeats 4000000
namespace Mine

noncomputable def eqWs : List PV := [.str (Str.ofString "="), .str (Str.ofString "1")]
noncomputable def eqGs (n : Int) : List PV := [.int (n.fmod 3), .int ((n.fdiv 3).fmod 3)]
theorem eq_eval (ns : List Int) (ws gs ak : List PV) (t : Bool) (n : Int) : exsP (T1 ns) dEquals.scope 20 20 ⟨[("is_told", .bool t), ("number", .int n), ("asked", .ml 0), ("gaps", .lst gs), ("words", .lst ws)], [ak]⟩ dEquals.body =
    some (⟨[("is_told", .bool t), ("number", .int n), ("asked", .ml 0), ("gaps", .lst gs), ("words", .lst ws)], [ak ++ [.tup [.int (ws.length : Nat), .bool t]]]⟩, .ret (.tup [.lst (ws ++ eqWs), .lst (gs ++ eqGs n)]),
      (((((True ∧ True) ∧ (ws.length : Int) < 2 ^ 63) ∧ True ∧ True) ∧ 2 ≤ sizeLine) ∧ ak.length ≤ sizeLine) ∧
        ((True ∧ ((True ∧ True ∧ True) ∧ 2 ≤ sizeLine) ∧ ws.length + 2 ≤ sizeLine) ∧
            (True ∧ (((True ∧ True ∧ (3 : Int) ≠ 0) ∧ ((True ∧ True ∧ (3 : Int) ≠ 0 ∧ Builtin.divisionGoesByPylong n 3 = false) ∧ True ∧ (3 : Int) ≠ 0) ∧ True) ∧ 2 ≤ sizeLine) ∧ gs.length + 2 ≤ sizeLine) ∧ True) ∧ 2 ≤ sizeLine) := by kernel_rfl

theorem div2 (n : Int) : Builtin.divisionGoesByPylong n 2 = false := by
  unfold Builtin.divisionGoesByPylong
  have : decide ((if (2 : Int) == 0 then 0 else (2 : Int).natAbs.log2 / 30 + 1) > 300) = false := by decide +kernel
  simp only [this, Bool.false_and]
theorem div3 (n : Int) : Builtin.divisionGoesByPylong n 3 = false := by
  unfold Builtin.divisionGoesByPylong
  have : decide ((if (3 : Int) == 0 then 0 else (3 : Int).natAbs.log2 / 30 + 1) > 300) = false := by decide +kernel
  simp only [this, Bool.false_and]
theorem div4 (n : Int) : Builtin.divisionGoesByPylong n 4 = false := by
  unfold Builtin.divisionGoesByPylong
  have : decide ((if (4 : Int) == 0 then 0 else (4 : Int).natAbs.log2 / 30 + 1) > 300) = false := by decide +kernel
  simp only [this, Bool.false_and]

section
variable {w : World} {h₀ : Heap} {mg mb : Str → Option Value} {A : Around} {s : Shared} {C : Cx} {ρ : List Addr} {L : Addr} {nm : Str} {a : Addr} {cd : Value}

theorem five {us : List Value} (h : us.length = 5) : ∃ a b c d e, us = [a, b, c, d, e] := by
  match us, h with
  | [a, b, c, d, e], _ => exact ⟨a, b, c, d, e, rfl⟩

/-- _law_equals, called with the asked list -/
theorem equals_call {ns : List Int} (G : Gd prg w h₀ C.cls (T1 ns) mg mb) (hF : FnAt h₀ mg dEquals.name dEquals.params dEquals.body dEquals.scope a cd) {P : PS} {ws gs ak : List PV} {t : Bool} {n : Int} (hP : P.muts = [ak]) (h1 : ws.length ≤ 1000) (h2 : gs.length ≤ 1000) (h3 : ak.length ≤ 1000)
    {us : List Value} {Q : Value → Shared → Prop} {E : Value → Shared → Prop} (rm : Rm ((T1 ns).nd + 13) A) (R : Rl h₀ C ρ L P s.heap) (hv : VRs C ρ s.heap [.lst ws, .lst gs, .ml 0, .int n, .bool t] us)
    (h : VOut C ρ L h₀ s ⟨P.vars, [ak ++ [.tup [.int (ws.length : Nat), .bool t]]]⟩ (.tup [.lst (ws ++ eqWs), .lst (gs ++ eqGs n)]) Q) : wpAny (model prg w) A (PySem.call (.ref a) us) Q E s := by
  have hsl : sizeLine = 16777216 := rfl
  refine callMut (k := (T1 ns).nd + 12) (postv := fun ms v => ms = [ak ++ [.tup [.int (ws.length : Nat), .bool t]]] ∧ v = .tup [.lst (ws ++ eqWs), .lst (gs ++ eqGs n)]) hF G.nolimit (fun pm doc us hu => ?_) (fun us hu => ?_) (by kernel_rfl) (by kernel_rfl) (by kernel_rfl) (by decide +kernel) (fun A L rm => ?_) rm R hv ?_
  · obtain ⟨a, b, c, d, e, rfl⟩ := five hu
    kernel_rfl
  · exact zip_fst (p := fun n => dEquals.scope.names.lookup n = some .local) (by decide +kernel)
  · rw [hP]
    have hP' : (⟨((dEquals.params.args.map (·.arg)).zip [PV.lst ws, .lst gs, .ml 0, .int n, .bool t]).reverse, [ak]⟩ : PS) = ⟨[("is_told", .bool t), ("number", .int n), ("asked", .ml 0), ("gaps", .lst gs), ("words", .lst ws)], [ak]⟩ := by kernel_rfl
    rw [hP']
    refine Tri.run G rm (by kernel_rfl) 20 20 (eq_eval ns ws gs ak t n) ?_ ⟨_, rfl, rfl, rfl⟩
    exact ⟨⟨⟨⟨⟨⟨trivial, trivial⟩, by omega⟩, trivial, trivial⟩, two_line⟩, by omega⟩,
      ⟨⟨trivial, ⟨⟨trivial, trivial, trivial⟩, two_line⟩, by omega⟩, ⟨trivial, ⟨⟨⟨trivial, trivial, by decide⟩, ⟨⟨trivial, trivial, by decide, div3 n⟩, trivial, by decide⟩, trivial⟩, two_line⟩, by omega⟩, trivial⟩, two_line⟩
  · rintro ms v ⟨rfl, rfl⟩
    exact h
end
end Mine

end
section
open PySem PySem.W PyProof.Rows PySem.Calls
set_option maxRecDepth 100000
set_option maxHeartbeats 4000000
namespace Mine

noncomputable abbrev Zs := List (Str × Int)
noncomputable abbrev Ak := List (Nat × Bool)
noncomputable def wd (x : String) (g : Int) : Str × Int := (Str.ofString x, g)
/-- equals with a number behind it -/
noncomputable def eqP (z : Zs × Ak) (n : Int) (t : Bool) : Zs × Ak := (z.1 ++ [wd "=" (n.fmod 3), wd "1" ((n.fdiv 3).fmod 3)], z.2 ++ [(z.1.length, t)])
noncomputable def isT (d : Bool) (n : Int) : Bool := d && PyData.eqv (.int (n.fmod 2)) (.int 1)
/-- the head of an argument -/
noncomputable def hdP (d : Bool) (i : Nat) (n : Int) (z : Zs) : Zs :=
  ((if 0 < i then z ++ [wd "," 0] else z) ++ [wd "a" (if 0 < i then 1 else 0)]) ++ (if isT d n then [wd ":" 0, wd "int" 1] else [])
/-- one argument -/
noncomputable def argPP (d : Bool) (i : Nat) (n m : Int) (z : Zs × Ak) : Zs × Ak :=
  let z3 := hdP d i n z.1
  if 0 < m.fmod 4 then
    if PyData.eqv (.int (m.fmod 4)) (.int 3) then
      let z5 : Zs × Ak := (z3 ++ [wd "=" ((n.fdiv 2).fmod 3), wd "g" (((n.fdiv 2).fdiv 3).fmod 3), wd "(" 0, wd "c" 0], z.2 ++ [(z3.length, isT d n)])
      let z6 := eqP z5 (m.fdiv 4) false
      (z6.1 ++ [wd ")" 0], z6.2)
    else eqP (z3, z.2) (n.fdiv 2) (isT d n)
  else (z3, z.2)
noncomputable def iterP (ns : List Int) (d : Bool) : Nat → Zs × Ak
  | 0 => (if d then [wd "def" 0, wd "f" 1, wd "(" 0] else [wd "f" 0, wd "(" 0], [])
  | i + 1 => argPP d i (cellI ns (2 + 2 * (i : Int))) (cellI ns (3 + 2 * (i : Int))) (iterP ns d i)
noncomputable def nArgs (ns : List Int) : Nat := (1 + (cellI ns 0).fmod 4).toNat
noncomputable def defP (ns : List Int) : Bool := PyData.eqv (.int ((cellI ns 1).fmod 2)) (.int 1)
noncomputable def builtZ (ns : List Int) : Zs := (iterP ns (defP ns) (nArgs ns)).1 ++ [wd ")" 0]
noncomputable def builtA (ns : List Int) : Ak := (iterP ns (defP ns) (nArgs ns)).2
noncomputable def akP (ak : Ak) : List PV := ak.map fun p => .tup [.int (p.1 : Int), .bool p.2]

theorem argPP_len (d : Bool) (i : Nat) (n m : Int) (z : Zs × Ak) : (argPP d i n m z).1.length ≤ z.1.length + 11 ∧ (argPP d i n m z).2.length ≤ z.2.length + 2 := by
  have h : (hdP d i n z.1).length ≤ z.1.length + 4 := by
    unfold hdP
    split <;> split <;> simp <;> omega
  unfold argPP
  simp only []
  split
  · split
    · simp only [eqP, List.length_append, List.length_cons, List.length_nil]; omega
    · simp only [eqP, List.length_append, List.length_cons, List.length_nil]; omega
  · exact ⟨Nat.le_trans h (by omega), Nat.le_add_right _ _⟩
theorem iterP_len (ns : List Int) (d : Bool) : ∀ i, (iterP ns d i).1.length ≤ 3 + 11 * i ∧ (iterP ns d i).2.length ≤ 2 * i
  | 0 => by cases d <;> exact ⟨by simp [iterP], by simp [iterP]⟩
  | i + 1 => by
    have h1 := iterP_len ns d i
    have h2 := argPP_len d i (cellI ns (2 + 2 * (i : Int))) (cellI ns (3 + 2 * (i : Int))) (iterP ns d i)
    simp only [iterP]
    omega
theorem nArgs_le (ns : List Int) : nArgs ns ≤ 4 := by
  unfold nArgs
  have := Int.fmod_lt_of_pos (cellI ns 0) (show (0 : Int) < 4 by decide)
  omega
theorem nArgs_eq (ns : List Int) : (nArgs ns : Int) = 1 + (cellI ns 0).fmod 4 := by
  unfold nArgs
  have := Int.fmod_nonneg_of_pos (cellI ns 0) (show (0 : Int) < 4 by decide)
  omega

noncomputable def bS (sc : List PV) (d : Bool) (z : Zs × Ak) : PS := ⟨[("script", .lst sc), ("is_def", .bool d), ("words", .lst (wsP z.1)), ("gaps", .lst (gsP z.1)), ("asked", .ml 0)], [akP z.2]⟩
noncomputable def bV (sc ws gs : List PV) (d : Bool) (i n m : Int) : List (Str × PV) := [("script", .lst sc), ("is_def", .bool d), ("words", .lst ws), ("gaps", .lst gs), ("asked", .ml 0), ("at", .int i), ("more", .int m), ("number", .int n)]
noncomputable def bVt (sc ws gs : List PV) (d : Bool) (i n m : Int) (t : Bool) : List (Str × PV) := [("script", .lst sc), ("is_def", .bool d), ("words", .lst ws), ("gaps", .lst gs), ("asked", .ml 0), ("at", .int i), ("more", .int m), ("number", .int n), ("is_told", .bool t)]
noncomputable def bB : List Stmt := forB (nth dBuilt.body 2)

section
variable (ns : List Int) (sc ws gs ak : List PV) (d t : Bool) (i n m : Int)
theorem bt_body : dBuilt.body = [nth dBuilt.body 0, asIf (nth dBuilt.body 1), asFor (nth dBuilt.body 2), nth dBuilt.body 3] := by kernel_rfl
theorem bt_loop : bB = [nth bB 0, asIf (nth bB 1), nth bB 2, nth bB 3, asIf (nth bB 4), asIf (nth bB 5), asIf (nth bB 6)] := by kernel_rfl
theorem bt_else : ifO (nth dBuilt.body 1) = [] ∧ ifO (nth bB 1) = [] ∧ ifO (nth bB 4) = [] ∧ ifO (nth bB 5) = [] ∧ ifO (nth bB 6) = [] := ⟨by kernel_rfl, by kernel_rfl, by kernel_rfl, by kernel_rfl, by kernel_rfl⟩
theorem bt_0 : exsP (T1 ns) dBuilt.scope 20 20 ⟨[("script", .lst sc)], []⟩ [nth dBuilt.body 0] =
    some (⟨[("script", .lst sc), ("is_def", .bool (PyData.eqv (.int ((cellI ns 1).fmod 2)) (.int 1))), ("words", .lst [.str (Str.ofString "f"), .str (Str.ofString "(")]), ("gaps", .lst [.int 0, .int 0]), ("asked", .ml 0)], [[]]⟩, .next,
      ((((((True ∧ True ∧ True) ∧ sc = ns.map .int ∧ (0 : Int) ≤ 1 ∧ (1 : Int) < 2 ^ 62) ∧ True ∧ (2 : Int) ≠ 0) ∧ True ∧ SeqAt.shaped (PyData.int ((cellI ns 1).fmod 2)) = true ∧ SeqAt.shaped (PyData.int 1) = true) ∧
            ((True ∧ True ∧ True) ∧ 2 ≤ sizeLine) ∧ ((True ∧ True ∧ True) ∧ 2 ≤ sizeLine) ∧ True) ∧ 4 ≤ sizeLine) ∧ True) := by kernel_rfl
theorem bt_t1 : tvP (T1 ns) dBuilt.scope 20 ⟨[("script", .lst sc), ("is_def", .bool d), ("words", .lst ws), ("gaps", .lst gs), ("asked", .ml 0)], [ak]⟩ (ifT (nth dBuilt.body 1)) = some (d, True ∧ True) := by kernel_rfl
theorem bt_b1 : exsP (T1 ns) dBuilt.scope 20 20 ⟨[("script", .lst sc), ("is_def", .bool d), ("words", .lst [.str (Str.ofString "f"), .str (Str.ofString "(")]), ("gaps", .lst [.int 0, .int 0]), ("asked", .ml 0)], [ak]⟩ (ifB (nth dBuilt.body 1)) =
    some (⟨[("script", .lst sc), ("is_def", .bool d), ("words", .lst [.str (Str.ofString "def"), .str (Str.ofString "f"), .str (Str.ofString "(")]), ("gaps", .lst [.int 0, .int 1, .int 0]), ("asked", .ml 0)], [ak]⟩, .next,
      (((((True ∧ True) ∧ 1 ≤ sizeLine) ∧ True ∧ 3 ≤ sizeLine) ∧ ((True ∧ True ∧ True ∧ True) ∧ 3 ≤ sizeLine) ∧ True) ∧ 2 ≤ sizeLine) ∧ True) := by kernel_rfl
theorem bt_n : evP (T1 ns) dBuilt.scope 20 ⟨[("script", .lst sc), ("is_def", .bool d), ("words", .lst ws), ("gaps", .lst gs), ("asked", .ml 0)], [ak]⟩ (argN (forI (nth dBuilt.body 2)) 0) =
    some (.int (1 + (cellI ns 0).fmod 4), True ∧ (((True ∧ True ∧ True) ∧ sc = ns.map .int ∧ (0 : Int) ≤ 0 ∧ (0 : Int) < 2 ^ 62) ∧ True ∧ (4 : Int) ≠ 0) ∧ True) := by kernel_rfl
theorem bt_for : ∃ xp p cp pos, asFor (nth dBuilt.body 2) = .For (.Name "at" xp) (.Call (.Name (Str.ofString "range") p) [argN (forI (nth dBuilt.body 2)) 0] [] cp) bB [] pos := ⟨_, _, _, _, rfl⟩
theorem bt_3 : exsP (T1 ns) dBuilt.scope 20 20 ⟨[("script", .lst sc), ("is_def", .bool d), ("words", .lst ws), ("gaps", .lst gs), ("asked", .ml 0)], [ak]⟩ [nth dBuilt.body 3] =
    some (⟨[("script", .lst sc), ("is_def", .bool d), ("words", .lst ws), ("gaps", .lst gs), ("asked", .ml 0)], [ak]⟩, .ret (.tup [.lst (ws ++ [.str (Str.ofString ")")]), .lst (gs ++ [.int 0]), .ml 0, .bool d]),
      ((True ∧ ((True ∧ True) ∧ 1 ≤ sizeLine) ∧ ws.length + 1 ≤ sizeLine) ∧ (True ∧ ((True ∧ True) ∧ 1 ≤ sizeLine) ∧ gs.length + 1 ≤ sizeLine) ∧ True ∧ True ∧ True) ∧ 4 ≤ sizeLine) := by kernel_rfl
-- the loop's body
theorem bl_0 : exsP (T1 ns) dBuilt.scope 20 20 ⟨[("script", .lst sc), ("is_def", .bool d), ("words", .lst ws), ("gaps", .lst gs), ("asked", .ml 0), ("at", .int i)], [ak]⟩ [nth bB 0] =
    some (⟨bV sc ws gs d i (cellI ns (2 + 2 * i)) (cellI ns (3 + 2 * i)), [ak]⟩, .next,
      ((((True ∧ (True ∧ (True ∧ True ∧ IntMulOk 2 i) ∧ True) ∧ True) ∧ sc = ns.map .int ∧ 0 ≤ 2 + 2 * i ∧ 2 + 2 * i < 2 ^ 62) ∧ ((True ∧ (True ∧ (True ∧ True ∧ IntMulOk 2 i) ∧ True) ∧ True) ∧ sc = ns.map .int ∧ 0 ≤ 3 + 2 * i ∧ 3 + 2 * i < 2 ^ 62) ∧ True) ∧ 2 ≤ sizeLine) ∧ True) := by kernel_rfl
theorem bl_t1 : tvP (T1 ns) dBuilt.scope 20 ⟨bV sc ws gs d i n m, [ak]⟩ (ifT (nth bB 1)) = some (decide (0 < i), True ∧ True ∧ True) := by kernel_rfl
theorem bl_b1 : exsP (T1 ns) dBuilt.scope 20 20 ⟨bV sc ws gs d i n m, [ak]⟩ (ifB (nth bB 1)) =
    some (⟨bV sc (ws ++ [.str (Str.ofString ",")]) (gs ++ [.int 0]) d i n m, [ak]⟩, .next,
      (((True ∧ ((True ∧ True) ∧ 1 ≤ sizeLine) ∧ ws.length + 1 ≤ sizeLine) ∧ (True ∧ ((True ∧ True) ∧ 1 ≤ sizeLine) ∧ gs.length + 1 ≤ sizeLine) ∧ True) ∧ 2 ≤ sizeLine) ∧ True) := by kernel_rfl
theorem bl_2 : exsP (T1 ns) dBuilt.scope 20 20 ⟨bV sc ws gs d i n m, [ak]⟩ [nth bB 2, nth bB 3] =
    some (⟨bVt sc (ws ++ [.str (Str.ofString "a")]) (gs ++ [if decide (0 < i) then .int 1 else .int 0]) d i n m (d && PyData.eqv (.int (n.fmod 2)) (.int 1)), [ak]⟩, .next,
      (((True ∧ ((True ∧ True) ∧ 1 ≤ sizeLine) ∧ ws.length + 1 ≤ sizeLine) ∧
            (True ∧ ((((True ∧ True ∧ True) ∧ (decide (0 < i) = true → True) ∧ (decide (0 < i) = false → True)) ∧ True) ∧ 1 ≤ sizeLine) ∧ gs.length + 1 ≤ sizeLine) ∧ True) ∧ 2 ≤ sizeLine) ∧
        (True ∧ (True ∧ True ∧ (2 : Int) ≠ 0) ∧ True ∧ SeqAt.shaped (PyData.int (n.fmod 2)) = true ∧ SeqAt.shaped (PyData.int 1) = true) ∧ True) := by kernel_rfl
theorem bl_t4 : tvP (T1 ns) dBuilt.scope 20 ⟨bVt sc ws gs d i n m t, [ak]⟩ (ifT (nth bB 4)) = some (t, True ∧ True) := by kernel_rfl
theorem bl_b4 : exsP (T1 ns) dBuilt.scope 20 20 ⟨bVt sc ws gs d i n m t, [ak]⟩ (ifB (nth bB 4)) =
    some (⟨bVt sc (ws ++ [.str (Str.ofString ":"), .str (Str.ofString "int")]) (gs ++ [.int 0, .int 1]) d i n m t, [ak]⟩, .next,
      (((True ∧ ((True ∧ True ∧ True) ∧ 2 ≤ sizeLine) ∧ ws.length + 2 ≤ sizeLine) ∧ (True ∧ ((True ∧ True ∧ True) ∧ 2 ≤ sizeLine) ∧ gs.length + 2 ≤ sizeLine) ∧ True) ∧ 2 ≤ sizeLine) ∧ True) := by kernel_rfl
theorem bl_t5 : tvP (T1 ns) dBuilt.scope 20 ⟨bVt sc ws gs d i n m t, [ak]⟩ (ifT (nth bB 5)) = some (decide (0 < m.fmod 4), (True ∧ True ∧ (4 : Int) ≠ 0) ∧ True ∧ True) := by kernel_rfl
theorem bl_t6 : tvP (T1 ns) dBuilt.scope 20 ⟨bVt sc ws gs d i n m t, [ak]⟩ (ifT (nth bB 6)) = some (PyData.eqv (.int (m.fmod 4)) (.int 3), (True ∧ True ∧ (4 : Int) ≠ 0) ∧ True ∧ SeqAt.shaped (PyData.int (m.fmod 4)) = true ∧ SeqAt.shaped (PyData.int 3) = true) := by kernel_rfl
theorem bl_c5 : ∃ es k tp p args cp pos, ifB (nth bB 5) = [.Assign [.Tuple es k tp] (.Call (.Name "_law_equals" p) args [] cp) pos] ∧ tnames es = some [Str.ofString "words", Str.ofString "gaps"] ∧ swP dBuilt.scope es (.Call (.Name "_law_equals" p) args [] cp) = some none ∧
    ∀ (ns : List Int) (sc ws gs ak : List PV) (d t : Bool) (i n m : Int), evs (evP (T1 ns) dBuilt.scope 20 ⟨bVt sc ws gs d i n m t, [ak]⟩) args = some ([.lst ws, .lst gs, .ml 0, .int (n.fdiv 2), .bool t], True ∧ True ∧ True ∧ (True ∧ True ∧ (2 : Int) ≠ 0 ∧ Builtin.divisionGoesByPylong n 2 = false) ∧ True ∧ True) :=
  ⟨_, _, _, _, _, _, _, rfl, rfl, rfl, fun _ _ _ _ _ _ _ _ _ _ => by kernel_rfl⟩
theorem bl_6 : ifB (nth bB 6) = [nth (ifB (nth bB 6)) 0, nth (ifB (nth bB 6)) 1, nth (ifB (nth bB 6)) 2] := by kernel_rfl
theorem bl_60 : exsP (T1 ns) dBuilt.scope 20 20 ⟨bVt sc ws gs d i n m t, [ak]⟩ [nth (ifB (nth bB 6)) 0] =
    some (⟨bVt sc (ws.dropLast ++ [.str (Str.ofString "g"), .str (Str.ofString "("), .str (Str.ofString "c")]) (gs ++ [.int 0, .int 0]) d i n m t, [ak]⟩, .next,
      ((((True ∧ ws.length ≤ sizeLine) ∧ ((True ∧ True ∧ True ∧ True) ∧ 3 ≤ sizeLine) ∧ ws.dropLast.length + 3 ≤ sizeLine) ∧ (True ∧ ((True ∧ True ∧ True) ∧ 2 ≤ sizeLine) ∧ gs.length + 2 ≤ sizeLine) ∧ True) ∧ 2 ≤ sizeLine) ∧ True) := by kernel_rfl
theorem bl_61 : ∃ es k tp p args cp pos, nth (ifB (nth bB 6)) 1 = .Assign [.Tuple es k tp] (.Call (.Name "_law_equals" p) args [] cp) pos ∧ tnames es = some [Str.ofString "words", Str.ofString "gaps"] ∧ swP dBuilt.scope es (.Call (.Name "_law_equals" p) args [] cp) = some none ∧
    ∀ (ns : List Int) (sc ws gs ak : List PV) (d t : Bool) (i n m : Int), evs (evP (T1 ns) dBuilt.scope 20 ⟨bVt sc ws gs d i n m t, [ak]⟩) args = some ([.lst ws, .lst gs, .ml 0, .int (m.fdiv 4), .bool false], True ∧ True ∧ True ∧ (True ∧ True ∧ (4 : Int) ≠ 0 ∧ Builtin.divisionGoesByPylong m 4 = false) ∧ True ∧ True) :=
  ⟨_, _, _, _, _, _, _, rfl, rfl, rfl, fun _ _ _ _ _ _ _ _ _ _ => by kernel_rfl⟩
theorem bl_62 : exsP (T1 ns) dBuilt.scope 20 20 ⟨bVt sc ws gs d i n m t, [ak]⟩ [nth (ifB (nth bB 6)) 2] =
    some (⟨bVt sc (ws ++ [.str (Str.ofString ")")]) (gs ++ [.int 0]) d i n m t, [ak]⟩, .next,
      (((True ∧ ((True ∧ True) ∧ 1 ≤ sizeLine) ∧ ws.length + 1 ≤ sizeLine) ∧ (True ∧ ((True ∧ True) ∧ 1 ≤ sizeLine) ∧ gs.length + 1 ≤ sizeLine) ∧ True) ∧ 2 ≤ sizeLine) ∧ True) := by kernel_rfl
end
end Mine

end
section
open PySem PySem.W PyProof.Rows PySem.Calls
set_option maxRecDepth 100000
set_option maxHeartbeats 4000000
namespace Mine
section
variable {prog : Program} {w : World} {A : Around} {s : Shared} {C : Cx} {ρ : List Addr} {L : Addr} {h₀ h h' : Heap} {P : PS}
variable {sc : Scope} {nm : Str} {a : Addr} {cd : Value} {T : Tb} {mg mb : Str → Option Value}
theorem Tri.seq {st : Stmt} {r : List Stmt} {P1 : PS} {post : PS → Fl → Prop} (t : Tri prog w A C L h₀ sc nm a cd [st] P fun P' f => f = .next ∧ P' = P1) (t2 : Tri prog w A C L h₀ sc nm a cd r P1 post) : Tri prog w A C L h₀ sc nm a cd (st :: r) P post :=
  Tri.cons (Tri.mono t fun P' f q => .inl ⟨q.1, by rw [q.2]; exact t2⟩)
theorem Tri.seqs {x r : List Stmt} {P1 : PS} {post : PS → Fl → Prop} (t : Tri prog w A C L h₀ sc nm a cd x P fun P' f => f = .next ∧ P' = P1) (t2 : Tri prog w A C L h₀ sc nm a cd r P1 post) : Tri prog w A C L h₀ sc nm a cd (x ++ r) P post :=
  Tri.append (Tri.mono t fun P' f q => .inl ⟨q.1, by rw [q.2]; exact t2⟩)
end

theorem wsP_app (x y : Zs) : wsP (x ++ y) = wsP x ++ wsP y := by simp [wsP]
theorem gsP_app (x y : Zs) : gsP (x ++ y) = gsP x ++ gsP y := by simp [gsP]
theorem wsP_len (x : Zs) : (wsP x).length = x.length := by simp [wsP]
theorem gsP_len (x : Zs) : (gsP x).length = x.length := by simp [gsP]
theorem akP_app (x : Ak) (n : Nat) (t : Bool) : akP (x ++ [(n, t)]) = akP x ++ [.tup [.int (n : Int), .bool t]] := by simp [akP]
theorem akP_len (x : Ak) : (akP x).length = x.length := by simp [akP]
theorem eqv_int (x y : Int) : PyData.eqv (.int x) (.int y) = decide (x = y) := by
  first | rfl | (simp [PyData.eqv]; done) | (unfold PyData.eqv; rfl) | (unfold PyData.eqv; simp)

section
variable {w : World} {h₀ : Heap} {mg mb : Str → Option Value} {A : Around} {s : Shared} {C : Cx} {ρ : List Addr} {L : Addr} {nm : Str} {a fa : Addr} {cd fcd : Value}

theorem sets_b (sc ws gs ws' gs' : List PV) (d t : Bool) (i n m : Int) : sets [Str.ofString "words", Str.ofString "gaps"] [.lst ws', .lst gs'] (bVt sc ws gs d i n m t) = bVt sc ws' gs' d i n m t := by kernel_rfl

/-- words, gaps = _law_equals(...) -/
theorem eq_step {ns : List Int} (G : Gd prg w h₀ C.cls (T1 ns) mg mb) (hF : FnAt h₀ mg dEquals.name dEquals.params dEquals.body dEquals.scope fa fcd) (rm : Rm ((T1 ns).nd + 40) A)
    {es : List PySem.Expr} {k : Nat} {tp p cp pos : Pos} {args : List PySem.Expr} {sc : List PV} {d t : Bool} {i n m : Int} {z : Zs} {ak : Ak} {n' : Int} {t' : Bool} {c : Prop}
    (hn : tnames es = some [Str.ofString "words", Str.ofString "gaps"]) (hsw : swP dBuilt.scope es (.Call (.Name "_law_equals" p) args [] cp) = some none)
    (he : evs (evP (T1 ns) dBuilt.scope 20 ⟨bVt sc (wsP z) (gsP z) d i n m t, [akP ak]⟩) args = some ([.lst (wsP z), .lst (gsP z), .ml 0, .int n', .bool t'], c)) (hc : c) (h1 : z.length ≤ 900) (h2 : ak.length ≤ 900) :
    Tri prg w A C L h₀ dBuilt.scope nm a cd [.Assign [.Tuple es k tp] (.Call (.Name "_law_equals" p) args [] cp) pos] ⟨bVt sc (wsP z) (gsP z) d i n m t, [akP ak]⟩ fun P' f => f = .next ∧ P' = ⟨bVt sc (wsP (eqP (z, ak) n' t').1) (gsP (eqP (z, ak) n' t').1) d i n m t, [akP (eqP (z, ak) n' t').2]⟩ := by
  have hk : dBuilt.scope.kind = .function := by kernel_rfl
  refine Tri.asgT rm.hh hk hn (by kernel_rfl) rfl hsw (EvTri.call (postv := fun P' v => P' = ⟨bVt sc (wsP z) (gsP z) d i n m t, [akP (eqP (z, ak) n' t').2]⟩ ∧ v = .tup [.lst (wsP (eqP (z, ak) n' t').1), .lst (gsP (eqP (z, ak) n' t').1)]) G (rm.less (by omega)) hk (by kernel_rfl) hF.here (fun h k => hF.keeper k) he hc (fun ρ s us Q E R hv h => ?_)) ?_
  · refine equals_call G hF (P := ⟨bVt sc (wsP z) (gsP z) d i n m t, [akP ak]⟩) (ak := akP ak) rfl (by rw [wsP_len]; omega) (by rw [gsP_len]; omega) (by rw [akP_len]; omega) (rm.less (by omega)) R hv ?_
    refine h _ _ ⟨?_, ?_⟩
    · simp only [eqP, akP_app, wsP_len]
    · simp only [eqP, wsP_app, gsP_app]; rfl
  · rintro P' v ⟨rfl, rfl⟩
    exact ⟨_, rfl, rfl, rfl, by rw [sets_b]⟩

theorem one_line : 1 ≤ sizeLine := by decide
theorem three_line : 3 ≤ sizeLine := by decide
theorem four_line : 4 ≤ sizeLine := by decide
theorem setv_at (sc ws gs : List PV) (d : Bool) (v : PV) : setv (Str.ofString "at") v ([("script", .lst sc), ("is_def", .bool d), ("words", .lst ws), ("gaps", .lst gs), ("asked", .ml 0)] : List (Str × PV)) = ([("script", .lst sc), ("is_def", .bool d), ("words", .lst ws), ("gaps", .lst gs), ("asked", .ml 0), ("at", v)] : List (Str × PV)) := by kernel_rfl

theorem loop_tri {ns : List Int} (G : Gd prg w h₀ C.cls (T1 ns) mg mb) (hF : FnAt h₀ mg dEquals.name dEquals.params dEquals.body dEquals.scope fa fcd) (rm : Rm ((T1 ns).nd + 40) A) (d : Bool) (i : Nat) (hi : i ≤ 10) {z : Zs × Ak} (h1 : z.1.length ≤ 200) (h2 : z.2.length ≤ 200) :
    Tri prg w A C L h₀ dBuilt.scope nm a cd bB ⟨[("script", .lst (ns.map .int)), ("is_def", .bool d), ("words", .lst (wsP z.1)), ("gaps", .lst (gsP z.1)), ("asked", .ml 0), ("at", .int (i : Int))], [akP z.2]⟩
      fun P' f => (f = .next ∨ f = .cont) ∧ P' = bS (ns.map .int) d (argPP d i (cellI ns (2 + 2 * (i : Int))) (cellI ns (3 + 2 * (i : Int))) z) := by
  have hk : dBuilt.scope.kind = .function := by kernel_rfl
  have hsl : sizeLine = 16777216 := rfl
  have rm' : Rm ((T1 ns).nd + 12) A := rm.less (by omega)
  obtain ⟨o1, o2, o3, o4, o5⟩ := bt_else
  have hm2 : IntMulOk 2 (i : Int) := .of_left (by decide)
  rw [bt_loop]
  have hdi : decide (0 < (i : Int)) = decide (0 < i) := by
    rcases Nat.eq_zero_or_pos i with q | q
    · subst q; rfl
    · rw [decide_eq_true q, decide_eq_true (by omega : (0 : Int) < i)]
  generalize hn : cellI ns (2 + 2 * (i : Int)) = n
  generalize hm : cellI ns (3 + 2 * (i : Int)) = m
  refine Tri.seq (P1 := ⟨bV (ns.map .int) (wsP z.1) (gsP z.1) d i n m, [akP z.2]⟩) (Tri.run G rm' hk 20 20 (bl_0 ns _ _ _ _ d i) ?_ ⟨rfl, by rw [hn, hm]⟩) ?_
  · exact ⟨⟨⟨⟨⟨trivial, ⟨trivial, ⟨trivial, trivial, hm2⟩, trivial⟩, trivial⟩, rfl, by omega, by omega⟩, ⟨⟨trivial, ⟨trivial, ⟨trivial, trivial, hm2⟩, trivial⟩, trivial⟩, rfl, by omega, by omega⟩, trivial⟩, two_line⟩, trivial⟩
  generalize hz1 : (if 0 < i then z.1 ++ [wd "," 0] else z.1) = z1
  have lz1 : z1.length ≤ 201 := by rw [← hz1]; split <;> first | (rw [List.length_append]; show _ + 1 ≤ _; omega) | omega
  refine Tri.seq (P1 := ⟨bV (ns.map .int) (wsP z1) (gsP z1) d i n m, [akP z.2]⟩) ?_ ?_
  · refine Tri.If G rm' hk 20 (bl_t1 ns _ _ _ _ d i n m) ⟨trivial, trivial, trivial⟩ (fun q => ?_) (fun q => ?_)
    · rw [hdi] at q
      have q' := of_decide_eq_true q
      refine Tri.run G rm' hk 20 20 (bl_b1 ns _ _ _ _ d i n m) ⟨⟨⟨⟨trivial, ⟨⟨trivial, trivial⟩, one_line⟩, ?_⟩, ⟨trivial, ⟨⟨trivial, trivial⟩, one_line⟩, ?_⟩, trivial⟩, two_line⟩, trivial⟩ ⟨rfl, ?_⟩
      · rw [wsP_len]; omega
      · rw [gsP_len]; omega
      · rw [← hz1, if_pos q', wsP_app, gsP_app]; rfl
    · rw [hdi] at q
      have q' := of_decide_eq_false q
      rw [o2]
      refine Tri.nil ⟨rfl, ?_⟩
      rw [← hz1, if_neg q']
  generalize hz2 : z1 ++ [wd "a" (if 0 < i then 1 else 0)] = z2
  have lz2 : z2.length ≤ 202 := by rw [← hz2]; simp; omega
  refine Tri.seqs (x := [nth bB 2, nth bB 3]) (P1 := ⟨bVt (ns.map .int) (wsP z2) (gsP z2) d i n m (isT d n), [akP z.2]⟩) (Tri.run G rm' hk 20 20 (bl_2 ns _ _ _ _ d i n m) ?_ ⟨rfl, ?_⟩) ?_
  · refine ⟨⟨⟨⟨trivial, ⟨⟨trivial, trivial⟩, one_line⟩, ?_⟩, ⟨trivial, ⟨⟨⟨⟨trivial, trivial, trivial⟩, fun _ => trivial, fun _ => trivial⟩, trivial⟩, one_line⟩, ?_⟩, trivial⟩, two_line⟩, ⟨trivial, ⟨trivial, trivial, by decide⟩, trivial, shaped_int _, shaped_int _⟩, trivial⟩
    · rw [wsP_len]; omega
    · rw [gsP_len]; omega
  · rw [← hz2, wsP_app, gsP_app, hdi]
    by_cases q : 0 < i
    · rw [if_pos q, decide_eq_true q]; rfl
    · rw [if_neg q, decide_eq_false q]; rfl
  generalize ht : isT d n = t
  have hz3 : hdP d i n z.1 = z2 ++ (if t then [wd ":" 0, wd "int" 1] else []) := by
    unfold hdP
    rw [hz1, hz2, ht]
  generalize hz3' : hdP d i n z.1 = z3 at hz3
  have lz3 : z3.length ≤ 204 := by rw [hz3]; cases t <;> simp <;> omega
  refine Tri.seq (P1 := ⟨bVt (ns.map .int) (wsP z3) (gsP z3) d i n m t, [akP z.2]⟩) ?_ ?_
  · refine Tri.If G rm' hk 20 (bl_t4 ns _ _ _ _ d t i n m) ⟨trivial, trivial⟩ (fun q => ?_) (fun q => ?_)
    · refine Tri.run G rm' hk 20 20 (bl_b4 ns _ _ _ _ d t i n m) ⟨⟨⟨⟨trivial, ⟨⟨trivial, trivial, trivial⟩, two_line⟩, ?_⟩, ⟨trivial, ⟨⟨trivial, trivial, trivial⟩, two_line⟩, ?_⟩, trivial⟩, two_line⟩, trivial⟩ ⟨rfl, ?_⟩
      · rw [wsP_len]; omega
      · rw [gsP_len]; omega
      · rw [hz3, q, wsP_app, gsP_app]; rfl
    · rw [o3]
      refine Tri.nil ⟨rfl, ?_⟩
      rw [hz3, q, wsP_app, gsP_app]
      simp [wsP, gsP]
  have lak := h2
  by_cases q5 : 0 < m.fmod 4
  · refine Tri.seq (P1 := ⟨bVt (ns.map .int) (wsP (eqP (z3, z.2) (n.fdiv 2) t).1) (gsP (eqP (z3, z.2) (n.fdiv 2) t).1) d i n m t, [akP (eqP (z3, z.2) (n.fdiv 2) t).2]⟩) ?_ ?_
    · refine Tri.If G rm' hk 20 (bl_t5 ns _ _ _ _ d t i n m) ⟨⟨trivial, trivial, by decide⟩, trivial, trivial⟩ (fun q => ?_) (fun q => absurd q5 (of_decide_eq_false q))
      obtain ⟨es, k, tp, p, args, cp, pos, e1, e2, e3, e4⟩ := bl_c5
      rw [e1]
      exact eq_step G hF rm e2 e3 (e4 ns _ _ _ _ d t i n m) ⟨trivial, trivial, trivial, ⟨trivial, trivial, by decide, div2 n⟩, trivial, trivial⟩ (by omega) (by omega)
    · refine Tri.cons (Tri.If G rm' hk 20 (bl_t6 ns _ _ _ _ d t i n m) ⟨⟨trivial, trivial, by decide⟩, trivial, shaped_int _, shaped_int _⟩ (fun q => ?_) (fun q => ?_))
      · rw [bl_6]
        have lw : (wsP (eqP (z3, z.2) (n.fdiv 2) t).1).length ≤ 206 := by rw [wsP_len]; simp only [eqP, List.length_append, List.length_cons, List.length_nil]; omega
        have lg : (gsP (eqP (z3, z.2) (n.fdiv 2) t).1).length ≤ 206 := by rw [gsP_len]; simp only [eqP, List.length_append, List.length_cons, List.length_nil]; omega
        generalize hz5 : z3 ++ [wd "=" ((n.fdiv 2).fmod 3), wd "g" (((n.fdiv 2).fdiv 3).fmod 3), wd "(" 0, wd "c" 0] = z5
        have lz5 : z5.length ≤ 208 := by rw [← hz5]; simp; omega
        refine Tri.seq (P1 := ⟨bVt (ns.map .int) (wsP z5) (gsP z5) d i n m t, [akP (z.2 ++ [(z3.length, t)])]⟩) (Tri.run G rm' hk 20 20 (bl_60 ns _ _ _ _ d t i n m) ?_ ⟨rfl, ?_⟩) ?_
        · refine ⟨⟨⟨⟨⟨trivial, by omega⟩, ⟨⟨trivial, trivial, trivial, trivial⟩, three_line⟩, ?_⟩, ⟨trivial, ⟨⟨trivial, trivial, trivial⟩, two_line⟩, by omega⟩, trivial⟩, two_line⟩, trivial⟩
          rw [List.length_dropLast]
          omega
        · have e1 : (wsP (eqP (z3, z.2) (n.fdiv 2) t).1).dropLast ++ [PV.str (Str.ofString "g"), PV.str (Str.ofString "("), PV.str (Str.ofString "c")] = wsP z5 := by
            rw [← hz5]
            simp only [eqP, wsP_app]
            show (wsP z3 ++ ([PV.str (Str.ofString "=")] ++ [PV.str (Str.ofString "1")])).dropLast ++ _ = _
            rw [← List.append_assoc, List.dropLast_concat, List.append_assoc]
            rfl
          have e2 : gsP (eqP (z3, z.2) (n.fdiv 2) t).1 ++ [PV.int 0, PV.int 0] = gsP z5 := by
            rw [← hz5]
            simp only [eqP, gsP_app, List.append_assoc]
            rfl
          rw [e1, e2]
          rfl
        · obtain ⟨es, k, tp, p, args, cp, pos, e1, e2, e3, e4⟩ := bl_61
          rw [e1]
          refine Tri.seq (eq_step G hF rm e2 e3 (e4 ns _ _ _ _ d t i n m) ⟨trivial, trivial, trivial, ⟨trivial, trivial, by decide, div4 m⟩, trivial, trivial⟩ (by omega) (by simp; omega)) ?_
          refine Tri.sub (Tri.run G rm' hk 20 20 (bl_62 ns _ _ _ _ d t i n m) ?_ (post := fun P' f => f = .next ∧ P' = ⟨bVt (ns.map .int) (wsP (argPP d i n m z).1) (gsP (argPP d i n m z).1) d i n m t, [akP (argPP d i n m z).2]⟩) ⟨rfl, ?_⟩) (fun P' f hpf => ?_)
          · refine ⟨⟨⟨⟨trivial, ⟨⟨trivial, trivial⟩, one_line⟩, ?_⟩, ⟨trivial, ⟨⟨trivial, trivial⟩, one_line⟩, ?_⟩, trivial⟩, two_line⟩, trivial⟩
            · rw [wsP_len]; simp only [eqP, List.length_append, List.length_cons, List.length_nil]; omega
            · rw [gsP_len]; simp only [eqP, List.length_append, List.length_cons, List.length_nil]; omega
          · unfold argPP
            simp only [hz3', ht, if_pos q5, q, if_true, hz5, wsP_app, gsP_app]
            rfl
          · obtain ⟨rfl, rfl⟩ := hpf
            exact ⟨bS (ns.map .int) d (argPP d i n m z), Sub.looked ⟨rfl, rfl, rfl, rfl, rfl, trivial⟩, .inl ⟨rfl, Tri.nil ⟨.inl rfl, rfl⟩⟩⟩
      · rw [o5]
        refine Tri.sub (Tri.nil (post := fun P' f => f = .next ∧ P' = ⟨bVt (ns.map .int) (wsP (argPP d i n m z).1) (gsP (argPP d i n m z).1) d i n m t, [akP (argPP d i n m z).2]⟩) ⟨rfl, ?_⟩) (fun P' f hpf => ?_)
        · unfold argPP
          simp only [hz3', ht, if_pos q5, q, Bool.false_eq_true, if_false]
        · obtain ⟨rfl, rfl⟩ := hpf
          exact ⟨bS (ns.map .int) d (argPP d i n m z), Sub.looked ⟨rfl, rfl, rfl, rfl, rfl, trivial⟩, .inl ⟨rfl, Tri.nil ⟨.inl rfl, rfl⟩⟩⟩
  · refine Tri.seq (P1 := ⟨bVt (ns.map .int) (wsP z3) (gsP z3) d i n m t, [akP z.2]⟩) ?_ ?_
    · refine Tri.If G rm' hk 20 (bl_t5 ns _ _ _ _ d t i n m) ⟨⟨trivial, trivial, by decide⟩, trivial, trivial⟩ (fun q => absurd (of_decide_eq_true q) q5) (fun q => ?_)
      rw [o4]
      exact Tri.nil ⟨rfl, rfl⟩
    · refine Tri.cons (Tri.If G rm' hk 20 (bl_t6 ns _ _ _ _ d t i n m) ⟨⟨trivial, trivial, by decide⟩, trivial, shaped_int _, shaped_int _⟩ (fun q => ?_) (fun q => ?_))
      · rw [eqv_int] at q
        have := of_decide_eq_true q
        omega
      · rw [o5]
        refine Tri.sub (Tri.nil (post := fun P' f => f = .next ∧ P' = ⟨bVt (ns.map .int) (wsP (argPP d i n m z).1) (gsP (argPP d i n m z).1) d i n m t, [akP (argPP d i n m z).2]⟩) ⟨rfl, ?_⟩) (fun P' f hpf => ?_)
        · unfold argPP
          simp only [hz3', if_neg q5]
        · obtain ⟨rfl, rfl⟩ := hpf
          exact ⟨bS (ns.map .int) d (argPP d i n m z), Sub.looked ⟨rfl, rfl, rfl, rfl, rfl, trivial⟩, .inl ⟨rfl, Tri.nil ⟨.inl rfl, rfl⟩⟩⟩
end
end Mine

end
section
open PySem PySem.W PyProof.Rows PySem.Calls
set_option maxRecDepth 100000
set_option maxHeartbeats 4000000
namespace Mine
section
variable {w : World} {h₀ : Heap} {mg mb : Str → Option Value} {A : Around} {s : Shared} {C : Cx} {ρ : List Addr} {L : Addr} {nm : Str} {a fa : Addr} {cd fcd : Value}

theorem noMls_ws (z : Zs) : noMls (wsP z) = true := noMls_map _ (fun _ => rfl) z
theorem noMls_gs (z : Zs) : noMls (gsP z) = true := noMls_map _ (fun _ => rfl) z
theorem noMls_ak (z : Ak) : noMls (akP z) = true := noMls_map _ (fun _ => rfl) z

noncomputable def builtV (ns : List Int) : PV := .tup [.lst (wsP (builtZ ns)), .lst (gsP (builtZ ns)), .lst (akP (builtA ns)), .bool (defP ns)]

theorem built_tri {ns : List Int} (G : Gd prg w h₀ C.cls (T1 ns) mg mb) (hF : FnAt h₀ mg dEquals.name dEquals.params dEquals.body dEquals.scope fa fcd) (rm : Rm ((T1 ns).nd + 40) A) :
    Tri prg w A C L h₀ dBuilt.scope nm a cd dBuilt.body ⟨[("script", .lst (ns.map .int))], []⟩ fun P' f => ∃ v0, f = .ret v0 ∧ fz P'.muts v0 = some (builtV ns) := by
  have hk : dBuilt.scope.kind = .function := by kernel_rfl
  have hsl : sizeLine = 16777216 := rfl
  have rm' : Rm ((T1 ns).nd + 12) A := rm.less (by omega)
  obtain ⟨o1, o2, o3, o4, o5⟩ := bt_else
  rw [bt_body]
  refine Tri.seq (Tri.run G rm' hk 20 20 (bt_0 ns _) ⟨⟨⟨⟨⟨⟨⟨trivial, trivial, trivial⟩, rfl, by decide, by decide⟩, trivial, by decide⟩, trivial, shaped_int _, shaped_int _⟩, ⟨⟨trivial, trivial, trivial⟩, two_line⟩, ⟨⟨trivial, trivial, trivial⟩, two_line⟩, trivial⟩, four_line⟩, trivial⟩ ⟨rfl, rfl⟩) ?_
  refine Tri.seq (P1 := bS (ns.map .int) (defP ns) (iterP ns (defP ns) 0)) ?_ ?_
  · refine Tri.If G rm' hk 20 (bt_t1 ns _ _ _ _ _) ⟨trivial, trivial⟩ (fun q => ?_) (fun q => ?_)
    · refine Tri.run G rm' hk 20 20 (bt_b1 ns _ _ _) ⟨⟨⟨⟨⟨⟨trivial, trivial⟩, one_line⟩, trivial, three_line⟩, ⟨⟨trivial, trivial, trivial, trivial⟩, three_line⟩, trivial⟩, two_line⟩, trivial⟩ ⟨rfl, ?_⟩
      have q' : defP ns = true := q
      unfold bS iterP
      rw [q']
      unfold defP at q'
      rw [q']
      rfl
    · rw [o1]
      refine Tri.nil ⟨rfl, ?_⟩
      have q' : defP ns = false := q
      unfold bS iterP
      rw [q']
      unfold defP at q'
      rw [q']
      rfl
  refine Tri.seq (P1 := bS (ns.map .int) (defP ns) (iterP ns (defP ns) (nArgs ns))) ?_ ?_
  · obtain ⟨xp, p, cp, pos, e⟩ := bt_for
    rw [e]
    have en := bt_n ns (ns.map .int) (wsP (iterP ns (defP ns) 0).1) (gsP (iterP ns (defP ns) 0).1) (akP (iterP ns (defP ns) 0).2) (defP ns)
    rw [← nArgs_eq] at en
    have hn4 := nArgs_le ns
    refine Tri.forRange (n := nArgs ns) G rm' hk 20 (by kernel_rfl) (by kernel_rfl) en ⟨trivial, ⟨⟨⟨trivial, trivial, trivial⟩, rfl, by decide, by decide⟩, trivial, by decide⟩, trivial⟩ (by omega) (fun i P => P = bS (ns.map .int) (defP ns) (iterP ns (defP ns) i)) rfl (fun i P hi hP => ?_) (fun P' hP => ⟨rfl, hP⟩)
    subst hP
    have hb := iterP_len ns (defP ns) i
    show Tri _ _ _ _ _ _ _ _ _ _ _ ⟨setv (Str.ofString "at") _ _, _⟩ _
    unfold bS
    rw [setv_at]
    exact loop_tri G hF rm (defP ns) i (by omega) (by omega) (by omega)
  · have hb := iterP_len ns (defP ns) (nArgs ns)
    have hn4 := nArgs_le ns
    unfold bS
    refine Tri.run G rm' hk 20 20 (bt_3 ns _ _ _ _ _) ⟨⟨⟨trivial, ⟨⟨trivial, trivial⟩, one_line⟩, ?_⟩, ⟨trivial, ⟨⟨trivial, trivial⟩, one_line⟩, ?_⟩, trivial, trivial, trivial⟩, four_line⟩ ⟨_, rfl, ?_⟩
    · rw [wsP_len]; omega
    · rw [gsP_len]; omega
    · have e1 : wsP (iterP ns (defP ns) (nArgs ns)).1 ++ [PV.str (Str.ofString ")")] = wsP (builtZ ns) := by unfold builtZ; rw [wsP_app]; rfl
      have e2 : gsP (iterP ns (defP ns) (nArgs ns)).1 ++ [PV.int 0] = gsP (builtZ ns) := by unfold builtZ; rw [gsP_app]; rfl
      rw [e1, e2]
      simp only [fz, fzs, noMls_ws, noMls_gs, if_true, List.getElem?_cons_zero, noMls_ak]
      rfl

theorem built_call {ns : List Int} (G : Gd prg w h₀ 172 (T1 ns) mg mb) (hF : FnAt h₀ mg dEquals.name dEquals.params dEquals.body dEquals.scope fa fcd) (hB : FnAt h₀ mg dBuilt.name dBuilt.params dBuilt.body dBuilt.scope a cd)
    {us : List Value} {Q : Value → Shared → Prop} {E : Value → Shared → Prop} (rm : Rm ((T1 ns).nd + 41) A) (hk0 : Keep h₀ s.heap) (hsz : h₀.objs.size ≤ s.heap.objs.size) (hC : C.cls = 172) (hd : ∀ a, Free C ρ a ∨ (s.heap.get? a).isSome = true) (hv : VRs C ρ s.heap [.lst (ns.map .int)] us)
    (h : Out C ρ s (builtV ns) Q) : wpAny (model prg w) A (PySem.call (.ref a) us) Q E s := by
  refine fnCall (k := (T1 ns).nd + 40) hB G.nolimit (fun pm doc us hu => ?_) (fun us hu => ?_) (by kernel_rfl) (by kernel_rfl) (by kernel_rfl) (by decide +kernel) ?_ (fun A C L rm hC => ?_) rm hk0 hsz hC hd hv h
  · obtain ⟨a, rfl⟩ := one hu
    kernel_rfl
  · exact zip_fst (p := fun n => dBuilt.scope.names.lookup n = some .local) (by decide +kernel)
  · simp only [noMls, noMl, noMls_ints, Bool.and_self]
  · have hP : (⟨((dBuilt.params.args.map (·.arg)).zip [PV.lst (ns.map .int)]).reverse, []⟩ : PS) = ⟨[("script", .lst (ns.map .int))], []⟩ := by kernel_rfl
    rw [hP]
    exact built_tri (by rw [hC]; exact G) hF rm
theorem tokens_call {ns : List Int} (G : Gd prg w h₀ 172 (T1 ns) mg mb) (hB : FnAt h₀ mg dTokens.name dTokens.params dTokens.body dTokens.scope a cd) {zs : Zs} (hz : GoodZ zs)
    {us : List Value} {Q : Value → Shared → Prop} {E : Value → Shared → Prop} (rm : Rm ((T1 ns).nd + 41) A) (hk0 : Keep h₀ s.heap) (hsz : h₀.objs.size ≤ s.heap.objs.size) (hC : C.cls = 172) (hd : ∀ a, Free C ρ a ∨ (s.heap.get? a).isSome = true) (hv : VRs C ρ s.heap [.lst (wsP zs), .lst (gsP zs), .int 1] us)
    (h : Out C ρ s (.lst (toksP zs)) Q) : wpAny (model prg w) A (PySem.call (.ref a) us) Q E s := by
  refine fnCall (k := (T1 ns).nd + 40) hB G.nolimit (fun pm doc us hu => ?_) (fun us hu => ?_) (by kernel_rfl) (by kernel_rfl) (by kernel_rfl) (by decide +kernel) ?_ (fun A C L rm hC => ?_) rm hk0 hsz hC hd hv h
  · obtain ⟨a, b, c, rfl⟩ := three hu
    kernel_rfl
  · exact zip_fst (p := fun n => dTokens.scope.names.lookup n = some .local) (by decide +kernel)
  · simp only [noMls, noMl, noMls_ws, noMls_gs, Bool.and_self]
  · have hP : (⟨((dTokens.params.args.map (·.arg)).zip [PV.lst (wsP zs), .lst (gsP zs), .int 1]).reverse, []⟩ : PS) = ⟨[("row", .int 1), ("gaps", .lst (gsP zs)), ("words", .lst (wsP zs))], []⟩ := by kernel_rfl
    rw [hP]
    exact tokens_tri (by rw [hC]; exact G) (rm.less (by omega)) hz
end
end Mine

end
section
open PySem PySem.W PyProof.Rows PySem.Calls
set_option maxRecDepth 100000
set_option maxHeartbeats 4000000
namespace Mine
open PySem.Builtin.Re

noncomputable def drv : Nat → Sre.M → Option Sre.M
  | 0, _ => none
  | n + 1, m => if (m.runFor reTurnSteps).outcome.isSome then some (m.runFor reTurnSteps) else drv n (m.runFor reTurnSteps)
noncomputable def codeOf (P : Params) (a : Addr) : Array Nat := match (hd.heap_39 P).lookup a with | some ⟨_, _, .seq items _, _⟩ => (items.map reRawOf).map (·.toNat) | _ => #[]
theorem m1 (P : Params) : (drv 30 (Sre.forMatch (codeOf P 179) (Str.ofString "def f(a):").cps 1 0 9 false false)).map (fun m => m.outcome) = some (some .matched) := by kernel_rfl
theorem m2 (P : Params) : (drv 30 (Sre.forMatch (codeOf P 179) (Str.ofString "f(a)").cps 1 0 4 false false)).map (fun m => m.outcome) = some (some .failed) := by kernel_rfl
theorem m3 (P : Params) : (drv 40 (Sre.forMatch (codeOf P 184) (Str.ofString "def f(a):").cps 1 0 9 false false)).map (fun m => m.outcome) = some (some .failed) := by kernel_rfl
theorem m4 (P : Params) : (drv 40 (Sre.forMatch (codeOf P 184) (Str.ofString "f(a)").cps 1 0 4 false false)).map (fun m => m.outcome) = some (some .failed) := by kernel_rfl
end Mine

end
section
open PySem PySem.W PyProof.Rows PySem.Calls
set_option maxRecDepth 100000
set_option maxHeartbeats 4000000
namespace Mine
open PySem.Builtin.Re

theorem named_ok (x : Value) : reNamed "re.Pattern.match" "match" ["string", "pos", "endpos"] 1 [x] [] = pure [some x, none, none] := by kernel_rfl

section
variable {prog : Program} {w : World} {A : Around} {s : Shared} {E : Value → Shared → Prop}

theorem drive_ok {M : Model} {Q : Sre.M → Shared → Prop} : ∀ (k n : Nat) {m m' : Sre.M}, drv k m = some m' → k ≤ n → Q m' s → wpAny M A (reDrive n m) Q E s
  | 0, _, _, _, e, _, _ => nomatch e
  | k + 1, 0, _, _, _, h, _ => absurd h (by omega)
  | k + 1, n + 1, m, m', e, h, q => by
    unfold drv at e
    unfold reDrive
    split at e
    · rename_i q1
      cases e
      rw [if_pos q1]
      exact wpAny_pure q
    · rename_i q1
      rw [if_neg q1]
      exact wpAny_bind (wpAny_rule (drive_ok k n e (by omega) q))

theorem marks_ok {M : Model} {Q : PUnit → Shared → Prop} (p : Nat → Bool) (t : Nat → String) (q : Q PUnit.unit s) : ∀ l : List Nat, wpAny M A (forIn l PUnit.unit (fun i _ => if p i = true then (rule (t i) >>= fun _ => pure (ForInStep.yield PUnit.unit)) else pure (ForInStep.yield PUnit.unit))) Q E s
  | [] => by
    rw [List.forIn_nil]
    exact wpAny_pure q
  | i :: l => by
    rw [List.forIn_cons]
    refine wpAny_bind ?_
    split
    · exact wpAny_bind (wpAny_rule (wpAny_pure (marks_ok p t q l)))
    · exact wpAny_pure (marks_ok p t q l)

theorem runEnd_ok {M : Model} {Q : Option Sre.M → Shared → Prop} {m m' : Sre.M} {k : Nat} (e : drv k m = some m') (hk : k ≤ 2 ^ 64) (h1 : m'.outcome = some .matched → Q (some m') s) (h2 : m'.outcome = some .failed → Q none s) (h3 : m'.outcome = some .matched ∨ m'.outcome = some .failed) :
    wpAny M A (reRunToEnd m) Q E s := by
  unfold reRunToEnd
  refine wpAny_bind (drive_ok k (2 ^ 64) e hk ?_)
  refine wpAny_bind (marks_ok (fun i => m'.seen.has i) (fun i => Sre.names.getD i "") ?_ _)
  rcases h3 with q | q
  · rw [q]; exact wpAny_pure (h1 q)
  · rw [q]; exact wpAny_pure (h2 q)

theorem drv_out {m : Sre.M} {k : Nat} {o : Sre.Outcome} (e : (drv k m).map (fun m => m.outcome) = some (some o)) : ∃ m', drv k m = some m' ∧ m'.outcome = some o := by
  obtain ⟨m', a, b⟩ := Option.map_eq_some_iff.mp e
  exact ⟨m', a, b⟩

noncomputable def patObj (src : Str) (t1 : Tok) (fl : Int) (t2 : Tok) (code : Addr) : Obj := { cls := .type "re.Pattern", data := .fields #[.str src t1, .int fl t2, .int 1 0, .none, .none, .ref code, .int 0 0] }

/-- what the target is -/
theorem target_ok {pat code : Addr} {src x : Str} {t1 t2 t : Tok} {fl : Int} {o : Obj} {items : Array Value} {n : Nat} (hp : s.heap.get? pat = some (patObj src t1 fl t2 code)) (hc : s.heap.get? code = some o) (hd : o.data = .seq items n)
    {Q : ReTarget → Shared → Prop} (h : Q { pattern := .ref pat, string := .str x t, code := (items.map reRawOf).map (·.toNat), text := x.cps, kind := 0, groups := 1, pos := min 0 x.cps.size, lim := min (2 ^ 63 - 1) x.cps.size } s) :
    wpAny (model prog w) A (reTarget "re.Pattern.match" "match" ⟨[.ref pat, .str x t], []⟩) Q E s := by
  unfold reTarget
  show wpAny _ _ (reNamed "re.Pattern.match" "match" ["string", "pos", "endpos"] 1 [.str x t] [] >>= _) Q E s
  rw [named_ok]
  refine wpAny_bind (wpAny_pure ?_)
  refine wpAny_bind (wpAny_pure ?_)
  refine wpAny_bind (wpAny_pure ?_)
  unfold fieldsOf
  refine wpAny_bind (wpAny_bind (wpAny_load hp (wpAny_pure ?_)))
  refine wpAny_bind (wpAny_of_eq (a := (x.cps, 0)) (by first | rfl | kernel_rfl) ?_)
  show wpAny _ _ (if ((0 : Nat) == 0 && (0 : Nat) == 1) = true then _ else _) Q E s
  rw [if_neg (by decide)]
  show wpAny _ _ (if ((0 : Nat) == 1 && (0 : Nat) == 0) = true then _ else _) Q E s
  rw [if_neg (by decide)]
  refine wpAny_bind (wpAny_of_eq (a := ()) (by first | rfl | kernel_rfl) ?_)
  show wpAny _ _ (reRawItems (.ref code) >>= _) Q E s
  unfold reRawItems
  refine wpAny_bind (wpAny_bind (wpAny_seqItems hc hd (wpAny_pure ?_)))
  exact wpAny_pure h

theorem match_none {pat code : Addr} {src x : Str} {t1 t2 t : Tok} {fl : Int} {o : Obj} {items : Array Value} {n : Nat} (hp : s.heap.get? pat = some (patObj src t1 fl t2 code)) (hc : s.heap.get? code = some o) (hd : o.data = .seq items n)
    {k : Nat} (hk : k ≤ 2 ^ 64) (he : (drv k (Sre.forMatch ((items.map reRawOf).map (·.toNat)) x.cps 1 (min 0 x.cps.size) (min (2 ^ 63 - 1) x.cps.size) false false)).map (fun m => m.outcome) = some (some .failed))
    {Q : Fin → Shared → Prop} (h : Q (.done (.ret .none)) s) : wpAny (model prog w) A (Builtin.«re.Pattern.match» ⟨[.ref pat, .str x t], []⟩) Q E s := by
  obtain ⟨m', e1, e2⟩ := drv_out he
  unfold Builtin.«re.Pattern.match»
  refine wpAny_bind (target_ok hp hc hd ?_)
  unfold reAnswer
  refine wpAny_bind (runEnd_ok e1 hk (fun q => ?_) (fun _ => wpAny_pure h) (.inr e2))
  rw [e2] at q; cases q

noncomputable def badSpan (m : Sre.M) : Bool := (List.range 1).any (fun g => match m.marks.getD (2 * g) none, m.marks.getD (2 * g + 1) none with | some b, some e => ((2 * g + 1 : Nat) : Int) ≤ m.lastmark && e < b | _, _ => false)
theorem spans_len (m : Sre.M) : ((List.range 1).flatMap fun g =>
    match if ((2 * g + 1 : Nat) : Int) ≤ m.lastmark then (m.marks.getD (2 * g) none, m.marks.getD (2 * g + 1) none) else (none, none) with
    | (some b, some e) => [rawInt b, rawInt e]
    | _ => [rawInt (-1), rawInt (-1)]).length ≤ 2 := by
  rw [show List.range 1 = [0] from rfl, List.flatMap_cons, List.flatMap_nil, List.append_nil]
  split <;> exact Nat.le_refl 2

theorem match_some {pat code : Addr} {src x : Str} {t1 t2 t : Tok} {fl : Int} {o : Obj} {items : Array Value} {n : Nat} (hp : s.heap.get? pat = some (patObj src t1 fl t2 code)) (hc : s.heap.get? code = some o) (hd : o.data = .seq items n)
    {k : Nat} (hk : k ≤ 2 ^ 64) (he : (drv k (Sre.forMatch ((items.map reRawOf).map (·.toNat)) x.cps 1 (min 0 x.cps.size) (min (2 ^ 63 - 1) x.cps.size) false false)).map (fun m => (m.outcome, badSpan m)) = some (some .matched, false))
    {Q : Fin → Shared → Prop} (h : ∀ a h' vs, Keep s.heap h' → h'.get? a = some { cls := .type "re.Match", dict := none, data := .fields vs, slots := #[] } → Q (.done (.ret (.ref a))) { s with heap := h' }) : wpAny (model prog w) A (Builtin.«re.Pattern.match» ⟨[.ref pat, .str x t], []⟩) Q E s := by
  obtain ⟨m', e1, e2⟩ := Option.map_eq_some_iff.mp he
  obtain ⟨e2, e3⟩ := Prod.mk.inj e2
  unfold Builtin.«re.Pattern.match»
  refine wpAny_bind (target_ok hp hc hd ?_)
  unfold reAnswer
  refine wpAny_bind (runEnd_ok e1 hk (fun _ => ?_) (fun q => ?_) (.inl e2))
  · refine wpAny_bind ?_
    unfold reNewMatch
    show wpAny _ _ (if badSpan m' = true then _ else _) _ _ _
    rw [e3, if_neg Bool.false_ne_true]
    refine wpAny_bind (wpAny_newTuple ?_ ?_)
    · refine wpAny_newObj_type (wpAny_pure ?_)
      exact h _ _ _ ((Keep.push _ _).trans (Keep.push _ _)) (Heap.get?_push_size _ rfl)
    · have hl : sizeLine = 16777216 := rfl
      have := spans_len m'
      show List.length _ + 1 + 1 ≤ sizeLine
      exact Nat.le_trans (Nat.add_le_add_right (Nat.add_le_add_right this 1) 1) (by decide)
  · rw [e2] at q; cases q
end
end Mine

end
section
open PySem PySem.W PyProof.Rows PySem.Calls
set_option maxRecDepth 100000
set_option maxHeartbeats 4000000
namespace Mine
section
variable {w : World} {s : Shared}
local macro_rules | `(tactic| x_close) => `(tactic| exact ⟨rfl, (by first | exact mem_keep (by assumption) | exact Keep.refl _), _, _, rfl⟩)
theorem x_boolm {a : Addr} {vs : Array Value} (ha : s.heap.get? a = some { cls := .type "re.Match", dict := none, data := .fields vs, slots := #[] }) :
    wpAny (model prg w) { handled := none, depth := 900, frames := none, guards := none, units := 9000 } (call (.type "bool") [.ref a]) (fun v s' => v = .bool true ∧ Keep s.heap s'.heap ∧ ∃ h tk, s' = { s with heap := h, toks := tk }) (fun _ _ => False) s := by
  x_run
end
theorem slot_match : Slot "re.Pattern" "match" "re.Pattern.match" :=
  .of (owner := "re.Pattern") (n := "match") (by rw [typeLookup_type, builtinLookup_eq_fast]; kernel_rfl) (by decide +kernel) (by decide +kernel) (by decide +kernel)
    (by first | exact .inl (by decide +kernel) | exact .inr (by decide +kernel)) (by rw [isSubtype_type]; kernel_rfl)
theorem pa_pattern : PlainAttrs "re.Pattern" := ⟨⟨"object.__getattribute__", by rw [typeLookup_type, builtinLookup_eq_fast]; kernel_rfl, by decide +kernel⟩, by rw [typeLookup_type, builtinLookup_eq_fast]; kernel_rfl⟩
theorem ty_match : typeOf (.builtin "re.Pattern.match") = pure (.type "method_descriptor") := by show builtinType _ = _; rw [builtinType_eq_fast]; kernel_rfl
theorem entry_match : entryFor table "re.Pattern.match" = some Builtin.«re.Pattern.match» := entryFor_of_tree (by kernel_rfl)
theorem args_match (a b : Value) : argsOk "re.Pattern.match" ⟨[a, b], []⟩ := by unfold argsOk; kernel_rfl

noncomputable def RxSays (w : World) (h₀ : Heap) (pa : Addr) (x : Str) (b : Bool) : Prop := ∀ (A : Around) (s : Shared) (t : Tok) (Q : Value → Shared → Prop) (E : Value → Shared → Prop), Keep h₀ s.heap →
  (∀ v h', Keep s.heap h' → (match b with | true => ∃ a vs, v = .ref a ∧ h'.get? a = some { cls := .type "re.Match", dict := none, data := .fields vs, slots := #[] } | false => v = .none) → Q v { s with heap := h' }) →
  wpAny (model prg w) A (call (.builtin "re.Pattern.match") [.ref pa, .str x t]) Q E s

theorem call_match {w : World} {A : Around} {s : Shared} {E : Value → Shared → Prop} {pa : Addr} {o : Obj} (ho : s.heap.get? pa = some o) (hc : o.cls = .type "re.Pattern") {x : Str} {t : Tok} {Q : Value → Shared → Prop}
    (h : wpAny (model prg w) A.in1 (Builtin.«re.Pattern.match» ⟨[.ref pa, .str x t], []⟩) (fun fin s' => ∃ v, fin = .done (.ret v) ∧ Q v s') E s) : wpAny (model prg w) A (call (.builtin "re.Pattern.match") [.ref pa, .str x t]) Q E s :=
  wpAny_call_entry slot_match ⟨o, ho, hc⟩ entry_match h (args_match _ _)

theorem rx_none {w : World} {h₀ : Heap} {pa code : Addr} {src x : Str} {t1 t2 : Tok} {fl : Int} {o : Obj} {items : Array Value} {n : Nat} (hp : h₀.get? pa = some (patObj src t1 fl t2 code)) (hc : h₀.get? code = some o) (hd : o.data = .seq items n)
    {k : Nat} (hk : k ≤ 2 ^ 64) (he : (drv k (Sre.forMatch ((items.map Builtin.Re.reRawOf).map (·.toNat)) x.cps 1 (min 0 x.cps.size) (min (2 ^ 63 - 1) x.cps.size) false false)).map (fun m => m.outcome) = some (some .failed)) : RxSays w h₀ pa x false :=
  fun A s t Q E k h => call_match (k _ _ hp) rfl (match_none (k _ _ hp) (k _ _ hc) hd hk he ⟨_, rfl, h _ s.heap (Keep.refl _) rfl⟩)
theorem rx_some {w : World} {h₀ : Heap} {pa code : Addr} {src x : Str} {t1 t2 : Tok} {fl : Int} {o : Obj} {items : Array Value} {n : Nat} (hp : h₀.get? pa = some (patObj src t1 fl t2 code)) (hc : h₀.get? code = some o) (hd : o.data = .seq items n)
    {k : Nat} (hk : k ≤ 2 ^ 64) (he : (drv k (Sre.forMatch ((items.map Builtin.Re.reRawOf).map (·.toNat)) x.cps 1 (min 0 x.cps.size) (min (2 ^ 63 - 1) x.cps.size) false false)).map (fun m => (m.outcome, badSpan m)) = some (some .matched, false)) : RxSays w h₀ pa x true :=
  fun A s t Q E k h => call_match (k _ _ hp) rfl (match_some (k _ _ hp) (k _ _ hc) hd hk he fun a h' vs K e => ⟨_, rfl, h _ h' K ⟨a, vs, rfl, e⟩⟩)

section
variable {w : World} {h₀ : Heap} {mg mb : Str → Option Value} {A : Around} {s : Shared} {C : Cx} {ρ : List Addr} {L : Addr} {nm : Str} {a fa : Addr} {cd fcd : Value} {T : Tb} {sc : Scope} {P : PS}
theorem rx_ev (G : Gd prg w h₀ C.cls T mg mb) (rm : Rm (T.nd + 112) A) (hk : sc.kind = .function) {R l : Str} {pa : Addr} {o : Obj} {x : Str} {b : Bool} {p rp ap lp p1 p2 : Pos} (hR : mg R = some (.ref pa)) (hgR : isGlob sc R = true) (hgb : isGlob sc (Str.ofString "bool") = true) (hl : isLoc sc l = true)
    (ho : h₀.get? pa = some o) (hoc : o.cls = .type "re.Pattern") (hod : o.dict = none) (hx : P.vars.lookup l = some (.str x)) (hln : (ap.endLine == p1.line) = true) (hs : RxSays w h₀ pa x b) :
    EvTri prg w A C L h₀ sc nm a cd (.Call (.Name (Str.ofString "bool") p) [.Call (.Attribute (.Name R rp) "match" ap) [.Name l lp] [] p1] [] p2) P fun P' v => P' = P ∧ v = .bool b :=
  fun ρ s Q E Rr k => by
    obtain ⟨m, F, hm⟩ := id Rr.fr
    obtain ⟨u, hu, hv⟩ := hm _ _ hx
    rw [arm_eval_Call_Name']
    refine wpAny_bind ?_
    show wpAny _ _ _ (fun fv s₁ => wpAny (model prg w) A (callWith p2 fv [] (backTo p2 (starEach [.Call (.Attribute (.Name R rp) "match" ap) [.Name l lp] [] p1] (envOf nm sc L a cd))) []) Q E s₁) E s
    obtain ⟨b1, b2⟩ := G.bt "bool" (by simp)
    refine name_builtin G hk Rr hgb b1 b2 ?_
    refine callWith_of (P := fun _ => True) (by rfl) (fun h _ => keeper_type _ h) ?_
    refine evalArgs_plain ?_
    refine Calls.spliced_cons ?_
    refine methodCall_ok rfl hln rfl ?_
    refine name_global G hk Rr hgR hR ?_
    refine getMethod_builtin (T := "re.Pattern") ⟨o, F.keep _ _ ho, hoc⟩ pa_pattern slot_match ty_match (fun a' e => by cases e; exact ⟨o, F.keep _ _ ho, hod⟩) ?_
    refine callWith_of (P := fun _ => True) (by rfl) (fun h _ => keeper_builtin _ h) ?_
    refine evalArgs_plain (Calls.spliced_cons (ld F hu (Calls.spliced_nil ⟨trivial, ?_⟩) hk (isLoc_parts hl).1 (isLoc_parts hl).2))
    cases hv with
    | str _ t =>
      refine hs A s t _ E F.keep fun v h' K e => ?_
      refine Calls.spliced_nil ⟨trivial, ?_⟩
      have fin : ∀ h'' tk, Keep s.heap h'' → Q (.bool b) { s with heap := h'', toks := tk } := fun h'' tk K2 => k P (.bool b) ⟨rfl, rfl⟩ _ h'' tk ρ (Rr.keep K2) (.of_keep K2) (pres_keep K2) (.bool b)
      cases b with
      | true =>
        obtain ⟨a', vs, rfl, e⟩ := e
        have hlim : recursionLimit = 1000 := rfl
        have hcl : cLine = 9900 := rfl
        refine wpAny_mono (wpAny_big (d := 900) (u := 9000) rm.hh (by have := rm.depth; omega) (by have := rm.units; omega) (x_boolm (w := w) (s := { s with heap := h' }) e)) ?_ (fun _ _ x => x.elim)
        rintro v s' ⟨rfl, K2, h2, tk, rfl⟩
        exact fin h2 tk (K.trans K2)
      | false =>
        cases e
        exact call_bool_none (fin h' s.toks K)
end
end Mine

end
section
open PySem PySem.W PyProof.Rows PySem.Calls
set_option maxRecDepth 100000
set_option maxHeartbeats 4000000
namespace Mine

noncomputable def sDef : Str := Str.ofString "def f(a):"
noncomputable def sCall : Str := Str.ofString "f(a)"
theorem rx180 (P : Params) : ∃ src t1 fl t2 o items n, (hd.heap_39 P).lookup 180 = some (patObj src t1 fl t2 179) ∧ (hd.heap_39 P).lookup 179 = some o ∧ o.data = .seq items n ∧
    (drv 30 (Sre.forMatch ((items.map Builtin.Re.reRawOf).map (·.toNat)) sDef.cps 1 (min 0 sDef.cps.size) (min (2 ^ 63 - 1) sDef.cps.size) false false)).map (fun m => (m.outcome, badSpan m)) = some (some .matched, false) ∧
    (drv 30 (Sre.forMatch ((items.map Builtin.Re.reRawOf).map (·.toNat)) sCall.cps 1 (min 0 sCall.cps.size) (min (2 ^ 63 - 1) sCall.cps.size) false false)).map (fun m => m.outcome) = some (some .failed) :=
  ⟨_, _, _, _, _, _, _, rfl, rfl, rfl, by kernel_rfl, by kernel_rfl⟩
theorem rx185 (P : Params) : ∃ src t1 fl t2 o items n, (hd.heap_39 P).lookup 185 = some (patObj src t1 fl t2 184) ∧ (hd.heap_39 P).lookup 184 = some o ∧ o.data = .seq items n ∧
    (drv 40 (Sre.forMatch ((items.map Builtin.Re.reRawOf).map (·.toNat)) sDef.cps 1 (min 0 sDef.cps.size) (min (2 ^ 63 - 1) sDef.cps.size) false false)).map (fun m => m.outcome) = some (some .failed) ∧
    (drv 40 (Sre.forMatch ((items.map Builtin.Re.reRawOf).map (·.toNat)) sCall.cps 1 (min 0 sCall.cps.size) (min (2 ^ 63 - 1) sCall.cps.size) false false)).map (fun m => m.outcome) = some (some .failed) :=
  ⟨_, _, _, _, _, _, _, rfl, rfl, rfl, by kernel_rfl, by kernel_rfl⟩
theorem ns180 (P : Params) : nsIn (hd.heap_39 P) mainGlobals "STARTSWITH_DEF_REGEX" = some (some (.ref 180)) := by kernel_rfl
theorem ns185 (P : Params) : nsIn (hd.heap_39 P) mainGlobals "STARTSWITH_GENERIC_REGEX" = some (some (.ref 185)) := by kernel_rfl

/-- the line that is handed to the rule -/
noncomputable def lineP (d : Bool) : Str := if d then sDef else sCall
theorem says180 {w : World} {h₀ : Heap} (KX : (hd.heap_39 w.params).In h₀) (d : Bool) : RxSays w h₀ 180 (lineP d) d := by
  obtain ⟨src, t1, fl, t2, o, items, n, h1, h2, h3, h4, h5⟩ := rx180 w.params
  cases d with
  | true => exact rx_some (KX _ _ h1) (KX _ _ h2) h3 (by decide) h4
  | false => exact rx_none (KX _ _ h1) (KX _ _ h2) h3 (by decide) h5
theorem says185 {w : World} {h₀ : Heap} (KX : (hd.heap_39 w.params).In h₀) (d : Bool) : RxSays w h₀ 185 (lineP d) false := by
  obtain ⟨src, t1, fl, t2, o, items, n, h1, h2, h3, h4, h5⟩ := rx185 w.params
  cases d with
  | true => exact rx_none (KX _ _ h1) (KX _ _ h2) h3 (by decide) h4
  | false => exact rx_none (KX _ _ h1) (KX _ _ h2) h3 (by decide) h5
end Mine

end
section
open PySem PySem.W PyProof.Rows PySem.Calls PySem.W.X
set_option maxRecDepth 100000
set_option maxHeartbeats 4000000
namespace Mine
noncomputable def far : Str := Str.ofString "E251 unexpected spaces around keyword / parameter equals"
noncomputable def near : Str := Str.ofString "E252 missing whitespace around parameter equals"
/-- the generator's state between two tokens -/
noncomputable def SG (toks : List PV) (d ns rs an : Bool) (pe : PV) (pl : List PV) : PS :=
  ⟨[("tokens", .lst toks), ("logical_line", .str (lineP d)), ("paren_stack", .ml 0), ("no_space", .bool ns), ("require_space", .bool rs), ("prev_end", pe), ("annotated_func_arg", .bool an), ("in_def", .bool d), ("in_generic", .bool false), ("message", .str far), ("missing_message", .str near)], [pl]⟩
/-- within the turn of a token -/
noncomputable def TG (toks : List PV) (d ns rs an : Bool) (pe : PV) (pl : List PV) (k : Int) (x : Str) (st en : PV) (l : Str) : PS :=
  ⟨[("tokens", .lst toks), ("logical_line", .str (lineP d)), ("paren_stack", .ml 0), ("no_space", .bool ns), ("require_space", .bool rs), ("prev_end", pe), ("annotated_func_arg", .bool an), ("in_def", .bool d), ("in_generic", .bool false), ("message", .str far), ("missing_message", .str near),
    ("token_type", .int k), ("text", .str x), ("start", st), ("end", en), ("line", .str l)], [pl]⟩
noncomputable def gB : List Stmt := forB (nth dGen.body 10)
noncomputable def yE : Stmt → PySem.Expr | .Expr (.Yield (some e) _) _ => e | _ => .Constant .none 0 pos0
end Mine
namespace Mine
noncomputable def gC1 : Stmt := nth (ifB (nth gB 3)) 0
noncomputable def gC2 : Stmt := nth (ifO gC1) 0
noncomputable def gC3 : Stmt := nth (ifO gC2) 0
noncomputable def gC4 : Stmt := nth (ifO gC3) 0
noncomputable def gC5 : Stmt := nth (ifO gC4) 0
noncomputable def gE : Stmt := nth (ifB gC5) 0
noncomputable def gN1 : Stmt := nth (ifB (nth gB 1)) 1
noncomputable def gN2 : Stmt := nth (ifB (nth gB 2)) 1
noncomputable def gN3 : Stmt := nth (ifB gE) 1
noncomputable def gN4 : Stmt := nth (ifO gE) 1
noncomputable def p1 : List PV := [.str (Str.ofString "(")]
noncomputable def p2 : List PV := [.str (Str.ofString "("), .str (Str.ofString "(")]
noncomputable def tp (a b : Int) : PV := .tup [.int a, .int b]
end Mine

end
section
open PySem PySem.W PyProof.Rows PySem.Calls PySem.W.X
set_option maxRecDepth 100000
set_option maxHeartbeats 4000000
set_option linter.unusedVariables false
namespace Mine
theorem g_t0 (toks : List PV) (d ns rs an : Bool) (pe : PV) (pl : List PV) (k : Int) (x : Str) (st en : PV) (l : Str) : tvP T0 dGen.scope 20 (TG toks d ns rs an pe pl k x st en l) (ifT (nth gB 0)) = some ((PyData.int k).eqv (PyData.int 62), True ∧ True ∧ SeqAt.shaped (PyData.int k) = true ∧ SeqAt.shaped (PyData.int 62) = true) := by kernel_rfl
theorem g_t1 (toks : List PV) (d ns rs an : Bool) (pe : PV) (pl : List PV) (k : Int) (x : Str) (st en : PV) (l : Str) : tvP T0 dGen.scope 20 (TG toks d ns rs an pe pl k x st en l) (ifT (nth gB 1)) = some (ns, True ∧ True) := by kernel_rfl
theorem g_t2 (toks : List PV) (d ns rs an : Bool) (pe : PV) (pl : List PV) (k : Int) (x : Str) (st en : PV) (l : Str) : tvP T0 dGen.scope 20 (TG toks d ns rs an pe pl k x st en l) (ifT (nth gB 2)) = some (rs, True ∧ True) := by kernel_rfl
theorem g_s1 (toks : List PV) (d ns rs an : Bool) (pe : PV) (pl : List PV) (k : Int) (x : Str) (st en : PV) (l : Str) : exsP T0 dGen.scope 20 20 (TG toks d ns rs an pe pl k x st en l) [nth (ifB (nth gB 1)) 0] = some ({ vars := [(Str.ofString "tokens", PV.lst toks), (Str.ofString "logical_line", PV.str (lineP d)), (Str.ofString "paren_stack", PV.ml 0), (Str.ofString "no_space", PV.bool false), (Str.ofString "require_space", PV.bool rs), (Str.ofString "prev_end", pe), (Str.ofString "annotated_func_arg", PV.bool an), (Str.ofString "in_def", PV.bool d), (Str.ofString "in_generic", PV.bool false), (Str.ofString "message", PV.str far), (Str.ofString "missing_message", PV.str near), (Str.ofString "token_type", PV.int k), (Str.ofString "text", PV.str x), (Str.ofString "start", st), (Str.ofString "end", en), (Str.ofString "line", PV.str l)], muts := [pl] }, Fl.next, True ∧ True) := by kernel_rfl
theorem g_s2 (toks : List PV) (d ns rs an : Bool) (pe : PV) (pl : List PV) (k : Int) (x : Str) (st en : PV) (l : Str) : exsP T0 dGen.scope 20 20 (TG toks d ns rs an pe pl k x st en l) [nth (ifB (nth gB 2)) 0] = some ({ vars := [(Str.ofString "tokens", PV.lst toks), (Str.ofString "logical_line", PV.str (lineP d)), (Str.ofString "paren_stack", PV.ml 0), (Str.ofString "no_space", PV.bool ns), (Str.ofString "require_space", PV.bool false), (Str.ofString "prev_end", pe), (Str.ofString "annotated_func_arg", PV.bool an), (Str.ofString "in_def", PV.bool d), (Str.ofString "in_generic", PV.bool false), (Str.ofString "message", PV.str far), (Str.ofString "missing_message", PV.str near), (Str.ofString "token_type", PV.int k), (Str.ofString "text", PV.str x), (Str.ofString "start", st), (Str.ofString "end", en), (Str.ofString "line", PV.str l)], muts := [pl] }, Fl.next, True ∧ True) := by kernel_rfl
theorem g_n1 (toks : List PV) (d ns rs an : Bool) (a b c e : Int) (pl : List PV) (k : Int) (x : Str) (en : PV) (l : Str) : tvP T0 dGen.scope 20 (TG toks d ns rs an (.tup [.int a, .int b]) pl k x (.tup [.int c, .int e]) en l) (ifT gN1) = some (!(PyData.tuple [PyData.int c, PyData.int e]).eqv (PyData.tuple [PyData.int a, PyData.int b]), True ∧ True ∧ SeqAt.shaped (PyData.tuple [PyData.int c, PyData.int e]) = true ∧ SeqAt.shaped (PyData.tuple [PyData.int a, PyData.int b]) = true) := by kernel_rfl
theorem g_n2 (toks : List PV) (d ns rs an : Bool) (a b c e : Int) (pl : List PV) (k : Int) (x : Str) (en : PV) (l : Str) : tvP T0 dGen.scope 20 (TG toks d ns rs an (.tup [.int a, .int b]) pl k x (.tup [.int c, .int e]) en l) (ifT gN2) = some ((PyData.tuple [PyData.int c, PyData.int e]).eqv (PyData.tuple [PyData.int a, PyData.int b]), True ∧ True ∧ SeqAt.shaped (PyData.tuple [PyData.int c, PyData.int e]) = true ∧ SeqAt.shaped (PyData.tuple [PyData.int a, PyData.int b]) = true) := by kernel_rfl
theorem g_y1 (toks : List PV) (d ns rs an : Bool) (a b c e : Int) (pl : List PV) (k : Int) (x : Str) (en : PV) (l : Str) : evP T0 dGen.scope 20 (TG toks d ns rs an (.tup [.int a, .int b]) pl k x (.tup [.int c, .int e]) en l) (yE (nth (ifB gN1) 0)) = some (PV.tup [PV.tup [PV.int a, PV.int b], PV.str far], (True ∧ True ∧ True) ∧ [PV.tup [PV.int a, PV.int b], PV.str far].length ≤ sizeLine) := by kernel_rfl
theorem g_y2 (toks : List PV) (d ns rs an : Bool) (a b c e : Int) (pl : List PV) (k : Int) (x : Str) (en : PV) (l : Str) : evP T0 dGen.scope 20 (TG toks d ns rs an (.tup [.int a, .int b]) pl k x (.tup [.int c, .int e]) en l) (yE (nth (ifB gN2) 0)) = some (PV.tup [PV.tup [PV.int a, PV.int b], PV.str near], (True ∧ True ∧ True) ∧ [PV.tup [PV.int a, PV.int b], PV.str near].length ≤ sizeLine) := by kernel_rfl
theorem g_oa (toks : List PV) (d ns rs an : Bool) (pe : PV) (pl : List PV) (x : Str) (st en : PV) (l : Str) : exsP T0 dGen.scope 20 20 (TG toks d ns rs an pe pl 1 x st en l) [nth gB 3, nth gB 4] = some ({ vars := [(Str.ofString "tokens", PV.lst toks), (Str.ofString "logical_line", PV.str (lineP d)), (Str.ofString "paren_stack", PV.ml 0), (Str.ofString "no_space", PV.bool ns), (Str.ofString "require_space", PV.bool rs), (Str.ofString "prev_end", en), (Str.ofString "annotated_func_arg", PV.bool an), (Str.ofString "in_def", PV.bool d), (Str.ofString "in_generic", PV.bool false), (Str.ofString "message", PV.str far), (Str.ofString "missing_message", PV.str near), (Str.ofString "token_type", PV.int 1), (Str.ofString "text", PV.str x), (Str.ofString "start", st), (Str.ofString "end", en), (Str.ofString "line", PV.str l)], muts := [pl] }, Fl.next, ((True ∧ True ∧ SeqAt.shaped (PyData.int 1) = true ∧ SeqAt.shaped (PyData.int 54) = true) ∧ True) ∧ True ∧ True) := by kernel_rfl
theorem g_ob (toks : List PV) (d ns rs an : Bool) (pe : PV) (pl : List PV) (x : Str) (st en : PV) (l : Str) : exsP T0 dGen.scope 20 20 (TG toks d ns rs an pe pl 2 x st en l) [nth gB 3, nth gB 4] = some ({ vars := [(Str.ofString "tokens", PV.lst toks), (Str.ofString "logical_line", PV.str (lineP d)), (Str.ofString "paren_stack", PV.ml 0), (Str.ofString "no_space", PV.bool ns), (Str.ofString "require_space", PV.bool rs), (Str.ofString "prev_end", en), (Str.ofString "annotated_func_arg", PV.bool an), (Str.ofString "in_def", PV.bool d), (Str.ofString "in_generic", PV.bool false), (Str.ofString "message", PV.str far), (Str.ofString "missing_message", PV.str near), (Str.ofString "token_type", PV.int 2), (Str.ofString "text", PV.str x), (Str.ofString "start", st), (Str.ofString "end", en), (Str.ofString "line", PV.str l)], muts := [pl] }, Fl.next, ((True ∧ True ∧ SeqAt.shaped (PyData.int 2) = true ∧ SeqAt.shaped (PyData.int 54) = true) ∧ True) ∧ True ∧ True) := by kernel_rfl
theorem g_op0 (toks : List PV) (d ns rs an : Bool) (pe : PV) (st en : PV) (l : Str) : exsP T0 dGen.scope 20 20 (TG toks d ns rs an pe [] 54 (Str.ofString "(") st en l) [nth gB 3, nth gB 4] = some ({ vars := [(Str.ofString "tokens", PV.lst toks), (Str.ofString "logical_line", PV.str (lineP d)), (Str.ofString "paren_stack", PV.ml 0), (Str.ofString "no_space", PV.bool ns), (Str.ofString "require_space", PV.bool rs), (Str.ofString "prev_end", en), (Str.ofString "annotated_func_arg", PV.bool an), (Str.ofString "in_def", PV.bool d), (Str.ofString "in_generic", PV.bool false), (Str.ofString "message", PV.str far), (Str.ofString "missing_message", PV.str near), (Str.ofString "token_type", PV.int 54), (Str.ofString "text", PV.str (Str.ofString "(")), (Str.ofString "start", st), (Str.ofString "end", en), (Str.ofString "line", PV.str l)], muts := [[PV.str (Str.ofString "(")]] }, Fl.next, ((True ∧ True ∧ SeqAt.shaped (PyData.int 54) = true ∧ SeqAt.shaped (PyData.int 54) = true) ∧ ((True ∧ True ∧ True) ∧ (True ∧ ([] : List PV).length ≤ sizeLine) ∧ True) ∧ ((True ∧ (↑([] ++ [PV.str (Str.ofString "(")]).length : Int) < 2 ^ 63) ∧ True) ∧ True) ∧ True ∧ True) := by kernel_rfl
theorem g_op1 (toks : List PV) (d ns rs an : Bool) (pe : PV) (st en : PV) (l : Str) : exsP T0 dGen.scope 20 20 (TG toks d ns rs an pe p1 54 (Str.ofString "(") st en l) [nth gB 3, nth gB 4] = some ({ vars := [(Str.ofString "tokens", PV.lst toks), (Str.ofString "logical_line", PV.str (lineP d)), (Str.ofString "paren_stack", PV.ml 0), (Str.ofString "no_space", PV.bool ns), (Str.ofString "require_space", PV.bool rs), (Str.ofString "prev_end", en), (Str.ofString "annotated_func_arg", PV.bool an), (Str.ofString "in_def", PV.bool d), (Str.ofString "in_generic", PV.bool false), (Str.ofString "message", PV.str far), (Str.ofString "missing_message", PV.str near), (Str.ofString "token_type", PV.int 54), (Str.ofString "text", PV.str (Str.ofString "(")), (Str.ofString "start", st), (Str.ofString "end", en), (Str.ofString "line", PV.str l)], muts := [[PV.str (Str.ofString "("), PV.str (Str.ofString "(")]] }, Fl.next, ((True ∧ True ∧ SeqAt.shaped (PyData.int 54) = true ∧ SeqAt.shaped (PyData.int 54) = true) ∧ ((True ∧ True ∧ True) ∧ (True ∧ p1.length ≤ sizeLine) ∧ True) ∧ ((True ∧ (↑(p1 ++ [PV.str (Str.ofString "(")]).length : Int) < 2 ^ 63) ∧ True) ∧ True) ∧ True ∧ True) := by kernel_rfl
theorem g_cl1 (toks : List PV) (d ns rs an : Bool) (pe : PV) (st en : PV) (l : Str) : exsP T0 dGen.scope 20 20 (TG toks d ns rs an pe p1 54 (Str.ofString ")") st en l) [nth gB 3, nth gB 4] = some ({ vars := [(Str.ofString "tokens", PV.lst toks), (Str.ofString "logical_line", PV.str (lineP d)), (Str.ofString "paren_stack", PV.ml 0), (Str.ofString "no_space", PV.bool ns), (Str.ofString "require_space", PV.bool rs), (Str.ofString "prev_end", en), (Str.ofString "annotated_func_arg", PV.bool false), (Str.ofString "in_def", PV.bool d), (Str.ofString "in_generic", PV.bool false), (Str.ofString "message", PV.str far), (Str.ofString "missing_message", PV.str near), (Str.ofString "token_type", PV.int 54), (Str.ofString "text", PV.str (Str.ofString ")")), (Str.ofString "start", st), (Str.ofString "end", en), (Str.ofString "line", PV.str l)], muts := [[]] }, Fl.next, ((True ∧ True ∧ SeqAt.shaped (PyData.int 54) = true ∧ SeqAt.shaped (PyData.int 54) = true) ∧ ((True ∧ True ∧ True) ∧ (((True ∧ True ∧ True) ∧ (Txt.contains (Str.ofString ")]") (Str.ofString ")") = true → (True ∧ (↑p1.length : Int) < 2 ^ 63) ∧ ((!p1.isEmpty) = true → True))) ∧ (p1 ≠ [] ∧ p1.length ≤ sizeLine) ∧ True) ∧ True) ∧ ((True ∧ (↑p1.dropLast.length : Int) < 2 ^ 63) ∧ True ∧ True) ∧ True) ∧ True ∧ True) := by kernel_rfl
theorem g_cl2 (toks : List PV) (d ns rs an : Bool) (pe : PV) (st en : PV) (l : Str) : exsP T0 dGen.scope 20 20 (TG toks d ns rs an pe p2 54 (Str.ofString ")") st en l) [nth gB 3, nth gB 4] = some ({ vars := [(Str.ofString "tokens", PV.lst toks), (Str.ofString "logical_line", PV.str (lineP d)), (Str.ofString "paren_stack", PV.ml 0), (Str.ofString "no_space", PV.bool ns), (Str.ofString "require_space", PV.bool rs), (Str.ofString "prev_end", en), (Str.ofString "annotated_func_arg", PV.bool an), (Str.ofString "in_def", PV.bool d), (Str.ofString "in_generic", PV.bool false), (Str.ofString "message", PV.str far), (Str.ofString "missing_message", PV.str near), (Str.ofString "token_type", PV.int 54), (Str.ofString "text", PV.str (Str.ofString ")")), (Str.ofString "start", st), (Str.ofString "end", en), (Str.ofString "line", PV.str l)], muts := [[PV.str (Str.ofString "(")]] }, Fl.next, ((True ∧ True ∧ SeqAt.shaped (PyData.int 54) = true ∧ SeqAt.shaped (PyData.int 54) = true) ∧ ((True ∧ True ∧ True) ∧ (((True ∧ True ∧ True) ∧ (Txt.contains (Str.ofString ")]") (Str.ofString ")") = true → (True ∧ (↑p2.length : Int) < 2 ^ 63) ∧ ((!p2.isEmpty) = true → True))) ∧ (p2 ≠ [] ∧ p2.length ≤ sizeLine) ∧ True) ∧ True) ∧ ((True ∧ (↑p2.dropLast.length : Int) < 2 ^ 63) ∧ True) ∧ True) ∧ True ∧ True) := by kernel_rfl
theorem g_col (toks : List PV) (ns rs an : Bool) (pe : PV) (st en : PV) (l : Str) : exsP T0 dGen.scope 20 20 (TG toks true ns rs an pe p1 54 (Str.ofString ":") st en l) [nth gB 3, nth gB 4] = some ({ vars := [(Str.ofString "tokens", PV.lst toks), (Str.ofString "logical_line", PV.str (lineP true)), (Str.ofString "paren_stack", PV.ml 0), (Str.ofString "no_space", PV.bool ns), (Str.ofString "require_space", PV.bool rs), (Str.ofString "prev_end", en), (Str.ofString "annotated_func_arg", PV.bool true), (Str.ofString "in_def", PV.bool true), (Str.ofString "in_generic", PV.bool false), (Str.ofString "message", PV.str far), (Str.ofString "missing_message", PV.str near), (Str.ofString "token_type", PV.int 54), (Str.ofString "text", PV.str (Str.ofString ":")), (Str.ofString "start", st), (Str.ofString "end", en), (Str.ofString "line", PV.str l)], muts := [[PV.str (Str.ofString "(")]] }, Fl.next, ((True ∧ True ∧ SeqAt.shaped (PyData.int 54) = true ∧ SeqAt.shaped (PyData.int 54) = true) ∧ ((True ∧ True ∧ True) ∧ (((True ∧ True ∧ True) ∧ (Txt.contains (Str.ofString ")]") (Str.ofString ":") = true → (True ∧ (↑p1.length : Int) < 2 ^ 63) ∧ ((!p1.isEmpty) = true → True))) ∧ (((True ∧ True ∧ SeqAt.shaped (PyData.str (Str.ofString ":")) = true ∧ SeqAt.shaped (PyData.str (Str.ofString ":")) = true) ∧ ((PyData.str (Str.ofString ":")).eqv (PyData.str (Str.ofString ":")) = true → (True ∧ True) ∧ (true = true → (True ∧ ((True ∧ True) ∧ [PV.str (Str.ofString "(")].length ≤ sizeLine) ∧ SeqAt.shaped (PyData.list [PyData.str (Str.ofString "(")]) = true ∧ SeqAt.shaped (PyData.list [PyData.str (Str.ofString "(")]) = true) ∧ ((PyData.list [PyData.str (Str.ofString "(")]).eqv (PyData.list [PyData.str (Str.ofString "(")]) = true → True)))) ∧ True ∧ True) ∧ True) ∧ True) ∧ ((True ∧ (↑p1.length : Int) < 2 ^ 63) ∧ True) ∧ True) ∧ True ∧ True) := by kernel_rfl
theorem g_com (toks : List PV) (d ns rs an : Bool) (pe : PV) (st en : PV) (l : Str) : exsP T0 dGen.scope 20 20 (TG toks d ns rs an pe p1 54 (Str.ofString ",") st en l) [nth gB 3, nth gB 4] = some ({ vars := [(Str.ofString "tokens", PV.lst toks), (Str.ofString "logical_line", PV.str (lineP d)), (Str.ofString "paren_stack", PV.ml 0), (Str.ofString "no_space", PV.bool ns), (Str.ofString "require_space", PV.bool rs), (Str.ofString "prev_end", en), (Str.ofString "annotated_func_arg", PV.bool false), (Str.ofString "in_def", PV.bool d), (Str.ofString "in_generic", PV.bool false), (Str.ofString "message", PV.str far), (Str.ofString "missing_message", PV.str near), (Str.ofString "token_type", PV.int 54), (Str.ofString "text", PV.str (Str.ofString ",")), (Str.ofString "start", st), (Str.ofString "end", en), (Str.ofString "line", PV.str l)], muts := [[PV.str (Str.ofString "(")]] }, Fl.next, ((True ∧ True ∧ SeqAt.shaped (PyData.int 54) = true ∧ SeqAt.shaped (PyData.int 54) = true) ∧ ((True ∧ True ∧ True) ∧ (((True ∧ True ∧ True) ∧ (Txt.contains (Str.ofString ")]") (Str.ofString ",") = true → (True ∧ (↑p1.length : Int) < 2 ^ 63) ∧ ((!p1.isEmpty) = true → True))) ∧ (((True ∧ True ∧ SeqAt.shaped (PyData.str (Str.ofString ",")) = true ∧ SeqAt.shaped (PyData.str (Str.ofString ":")) = true) ∧ ((PyData.str (Str.ofString ",")).eqv (PyData.str (Str.ofString ":")) = true → (True ∧ True) ∧ (d = true → (True ∧ ((True ∧ True) ∧ [PV.str (Str.ofString "(")].length ≤ sizeLine) ∧ SeqAt.shaped (PyData.list [PyData.str (Str.ofString "(")]) = true ∧ SeqAt.shaped (PyData.list [PyData.str (Str.ofString "(")]) = true) ∧ ((PyData.list [PyData.str (Str.ofString "(")]).eqv (PyData.list [PyData.str (Str.ofString "(")]) = true → True)))) ∧ (((((True ∧ True) ∧ (↑p1.length : Int) < 2 ^ 63) ∧ True ∧ SeqAt.shaped (PyData.int (↑p1.length : Int)) = true ∧ SeqAt.shaped (PyData.int 1) = true) ∧ ((PyData.int (↑p1.length : Int)).eqv (PyData.int 1) = true → (True ∧ True ∧ SeqAt.shaped (PyData.str (Str.ofString ",")) = true ∧ SeqAt.shaped (PyData.str (Str.ofString ",")) = true) ∧ ((PyData.str (Str.ofString ",")).eqv (PyData.str (Str.ofString ",")) = true → True))) ∧ True ∧ True) ∧ True) ∧ True) ∧ True) ∧ ((True ∧ (↑p1.length : Int) < 2 ^ 63) ∧ True) ∧ True) ∧ True ∧ True) := by kernel_rfl
theorem g_e31 (toks : List PV) (d ns rs an : Bool) (pe : PV) (st en : PV) (l : Str) : tvP T0 dGen.scope 20 (TG toks d ns rs an pe p1 54 (Str.ofString "=") st en l) (ifT (nth gB 3)) = some (true, True ∧ True ∧ SeqAt.shaped (PyData.int 54) = true ∧ SeqAt.shaped (PyData.int 54) = true) := by kernel_rfl
theorem g_c1_1 (toks : List PV) (d ns rs an : Bool) (pe : PV) (st en : PV) (l : Str) : tvP T0 dGen.scope 20 (TG toks d ns rs an pe p1 54 (Str.ofString "=") st en l) (ifT gC1) = some (Txt.contains (Str.ofString "([") (Str.ofString "="), True ∧ True ∧ True) := by kernel_rfl
theorem g_c2_1 (toks : List PV) (d ns rs an : Bool) (pe : PV) (st en : PV) (l : Str) : tvP T0 dGen.scope 20 (TG toks d ns rs an pe p1 54 (Str.ofString "=") st en l) (ifT gC2) = some (Txt.contains (Str.ofString ")]") (Str.ofString "=") && (!p1.isEmpty && true), (True ∧ True ∧ True) ∧ (Txt.contains (Str.ofString ")]") (Str.ofString "=") = true → (True ∧ (↑p1.length : Int) < 2 ^ 63) ∧ ((!p1.isEmpty) = true → True))) := by kernel_rfl
theorem g_c3_1 (toks : List PV) (d ns rs an : Bool) (pe : PV) (st en : PV) (l : Str) : tvP T0 dGen.scope 20 (TG toks d ns rs an pe p1 54 (Str.ofString "=") st en l) (ifT gC3) = some (false, (True ∧ True ∧ SeqAt.shaped (PyData.str (Str.ofString "=")) = true ∧ SeqAt.shaped (PyData.str (Str.ofString ":")) = true) ∧ ((PyData.str (Str.ofString "=")).eqv (PyData.str (Str.ofString ":")) = true → (True ∧ True) ∧ (d = true → (True ∧ ((True ∧ True) ∧ [PV.str (Str.ofString "(")].length ≤ sizeLine) ∧ SeqAt.shaped (PyData.list [PyData.str (Str.ofString "(")]) = true ∧ SeqAt.shaped (PyData.list [PyData.str (Str.ofString "(")]) = true) ∧ ((PyData.list [PyData.str (Str.ofString "(")]).eqv (PyData.list [PyData.str (Str.ofString "(")]) = true → True)))) := by kernel_rfl
theorem g_c4_1 (toks : List PV) (d ns rs an : Bool) (pe : PV) (st en : PV) (l : Str) : tvP T0 dGen.scope 20 (TG toks d ns rs an pe p1 54 (Str.ofString "=") st en l) (ifT gC4) = some (false, (((True ∧ True) ∧ (↑p1.length : Int) < 2 ^ 63) ∧ True ∧ SeqAt.shaped (PyData.int (↑p1.length : Int)) = true ∧ SeqAt.shaped (PyData.int 1) = true) ∧ ((PyData.int (↑p1.length : Int)).eqv (PyData.int 1) = true → (True ∧ True ∧ SeqAt.shaped (PyData.str (Str.ofString "=")) = true ∧ SeqAt.shaped (PyData.str (Str.ofString ",")) = true) ∧ ((PyData.str (Str.ofString "=")).eqv (PyData.str (Str.ofString ",")) = true → True))) := by kernel_rfl
theorem g_c5_1 (toks : List PV) (d ns rs an : Bool) (pe : PV) (st en : PV) (l : Str) : tvP T0 dGen.scope 20 (TG toks d ns rs an pe p1 54 (Str.ofString "=") st en l) (ifT gC5) = some (true, (True ∧ (↑p1.length : Int) < 2 ^ 63) ∧ ((!p1.isEmpty) = true → (True ∧ True ∧ SeqAt.shaped (PyData.str (Str.ofString "=")) = true ∧ SeqAt.shaped (PyData.str (Str.ofString "=")) = true) ∧ ((PyData.str (Str.ofString "=")).eqv (PyData.str (Str.ofString "=")) = true → True))) := by kernel_rfl
theorem g_end1 (toks : List PV) (d ns rs an : Bool) (pe : PV) (st en : PV) (l : Str) : exsP T0 dGen.scope 20 20 (TG toks d ns rs an pe p1 54 (Str.ofString "=") st en l) [nth (ifB (nth gB 3)) 1, nth gB 4] = some ({ vars := [(Str.ofString "tokens", PV.lst toks), (Str.ofString "logical_line", PV.str (lineP d)), (Str.ofString "paren_stack", PV.ml 0), (Str.ofString "no_space", PV.bool ns), (Str.ofString "require_space", PV.bool rs), (Str.ofString "prev_end", en), (Str.ofString "annotated_func_arg", PV.bool an), (Str.ofString "in_def", PV.bool d), (Str.ofString "in_generic", PV.bool false), (Str.ofString "message", PV.str far), (Str.ofString "missing_message", PV.str near), (Str.ofString "token_type", PV.int 54), (Str.ofString "text", PV.str (Str.ofString "=")), (Str.ofString "start", st), (Str.ofString "end", en), (Str.ofString "line", PV.str l)], muts := [[PV.str (Str.ofString "(")]] }, Fl.next, ((True ∧ (↑p1.length : Int) < 2 ^ 63) ∧ True) ∧ True ∧ True) := by kernel_rfl
theorem g_er1 (toks : List PV) (d ns rs an : Bool) (pe : PV) (st en : PV) (l : Str) : exsP T0 dGen.scope 20 20 (TG toks d ns rs an pe p1 54 (Str.ofString "=") st en l) [nth (ifB gE) 0] = some ({ vars := [(Str.ofString "tokens", PV.lst toks), (Str.ofString "logical_line", PV.str (lineP d)), (Str.ofString "paren_stack", PV.ml 0), (Str.ofString "no_space", PV.bool ns), (Str.ofString "require_space", PV.bool true), (Str.ofString "prev_end", pe), (Str.ofString "annotated_func_arg", PV.bool an), (Str.ofString "in_def", PV.bool d), (Str.ofString "in_generic", PV.bool false), (Str.ofString "message", PV.str far), (Str.ofString "missing_message", PV.str near), (Str.ofString "token_type", PV.int 54), (Str.ofString "text", PV.str (Str.ofString "=")), (Str.ofString "start", st), (Str.ofString "end", en), (Str.ofString "line", PV.str l)], muts := [[PV.str (Str.ofString "(")]] }, Fl.next, True ∧ True) := by kernel_rfl
theorem g_en1 (toks : List PV) (d ns rs an : Bool) (pe : PV) (st en : PV) (l : Str) : exsP T0 dGen.scope 20 20 (TG toks d ns rs an pe p1 54 (Str.ofString "=") st en l) [nth (ifO gE) 0] = some ({ vars := [(Str.ofString "tokens", PV.lst toks), (Str.ofString "logical_line", PV.str (lineP d)), (Str.ofString "paren_stack", PV.ml 0), (Str.ofString "no_space", PV.bool true), (Str.ofString "require_space", PV.bool rs), (Str.ofString "prev_end", pe), (Str.ofString "annotated_func_arg", PV.bool an), (Str.ofString "in_def", PV.bool d), (Str.ofString "in_generic", PV.bool false), (Str.ofString "message", PV.str far), (Str.ofString "missing_message", PV.str near), (Str.ofString "token_type", PV.int 54), (Str.ofString "text", PV.str (Str.ofString "=")), (Str.ofString "start", st), (Str.ofString "end", en), (Str.ofString "line", PV.str l)], muts := [[PV.str (Str.ofString "(")]] }, Fl.next, True ∧ True) := by kernel_rfl
theorem g_ge1_true (toks : List PV) (d ns rs : Bool) (pe : PV) (st en : PV) (l : Str) : tvP T0 dGen.scope 20 (TG toks d ns rs true pe p1 54 (Str.ofString "=") st en l) (ifT gE) = some (true, ((True ∧ True) ∧ (false = true → (True ∧ ((True ∧ True) ∧ [PV.str (Str.ofString "[")].length ≤ sizeLine) ∧ SeqAt.shaped (PyData.list [PyData.str (Str.ofString "(")]) = true ∧ SeqAt.shaped (PyData.list [PyData.str (Str.ofString "[")]) = true) ∧ ((PyData.list [PyData.str (Str.ofString "(")]).eqv (PyData.list [PyData.str (Str.ofString "[")]) = true → True))) ∧ ((false && ((PyData.list [PyData.str (Str.ofString "(")]).eqv (PyData.list [PyData.str (Str.ofString "[")]) && true)) = false → ((True ∧ True) ∧ (true = true → (True ∧ ((True ∧ True) ∧ [PV.str (Str.ofString "(")].length ≤ sizeLine) ∧ SeqAt.shaped (PyData.list [PyData.str (Str.ofString "(")]) = true ∧ SeqAt.shaped (PyData.list [PyData.str (Str.ofString "(")]) = true) ∧ ((PyData.list [PyData.str (Str.ofString "(")]).eqv (PyData.list [PyData.str (Str.ofString "(")]) = true → True))) ∧ ((true && ((PyData.list [PyData.str (Str.ofString "(")]).eqv (PyData.list [PyData.str (Str.ofString "(")]) && true)) = false → True))) := by kernel_rfl
theorem g_ge1_false (toks : List PV) (d ns rs : Bool) (pe : PV) (st en : PV) (l : Str) : tvP T0 dGen.scope 20 (TG toks d ns rs false pe p1 54 (Str.ofString "=") st en l) (ifT gE) = some (false, ((True ∧ True) ∧ (false = true → (True ∧ ((True ∧ True) ∧ [PV.str (Str.ofString "[")].length ≤ sizeLine) ∧ SeqAt.shaped (PyData.list [PyData.str (Str.ofString "(")]) = true ∧ SeqAt.shaped (PyData.list [PyData.str (Str.ofString "[")]) = true) ∧ ((PyData.list [PyData.str (Str.ofString "(")]).eqv (PyData.list [PyData.str (Str.ofString "[")]) = true → True))) ∧ ((false && ((PyData.list [PyData.str (Str.ofString "(")]).eqv (PyData.list [PyData.str (Str.ofString "[")]) && true)) = false → ((True ∧ True) ∧ (false = true → (True ∧ ((True ∧ True) ∧ [PV.str (Str.ofString "(")].length ≤ sizeLine) ∧ SeqAt.shaped (PyData.list [PyData.str (Str.ofString "(")]) = true ∧ SeqAt.shaped (PyData.list [PyData.str (Str.ofString "(")]) = true) ∧ ((PyData.list [PyData.str (Str.ofString "(")]).eqv (PyData.list [PyData.str (Str.ofString "(")]) = true → True))) ∧ ((false && ((PyData.list [PyData.str (Str.ofString "(")]).eqv (PyData.list [PyData.str (Str.ofString "(")]) && true)) = false → True))) := by kernel_rfl
theorem g_e32 (toks : List PV) (d ns rs an : Bool) (pe : PV) (st en : PV) (l : Str) : tvP T0 dGen.scope 20 (TG toks d ns rs an pe p2 54 (Str.ofString "=") st en l) (ifT (nth gB 3)) = some (true, True ∧ True ∧ SeqAt.shaped (PyData.int 54) = true ∧ SeqAt.shaped (PyData.int 54) = true) := by kernel_rfl
theorem g_c1_2 (toks : List PV) (d ns rs an : Bool) (pe : PV) (st en : PV) (l : Str) : tvP T0 dGen.scope 20 (TG toks d ns rs an pe p2 54 (Str.ofString "=") st en l) (ifT gC1) = some (Txt.contains (Str.ofString "([") (Str.ofString "="), True ∧ True ∧ True) := by kernel_rfl
theorem g_c2_2 (toks : List PV) (d ns rs an : Bool) (pe : PV) (st en : PV) (l : Str) : tvP T0 dGen.scope 20 (TG toks d ns rs an pe p2 54 (Str.ofString "=") st en l) (ifT gC2) = some (Txt.contains (Str.ofString ")]") (Str.ofString "=") && (!p2.isEmpty && true), (True ∧ True ∧ True) ∧ (Txt.contains (Str.ofString ")]") (Str.ofString "=") = true → (True ∧ (↑p2.length : Int) < 2 ^ 63) ∧ ((!p2.isEmpty) = true → True))) := by kernel_rfl
theorem g_c3_2 (toks : List PV) (d ns rs an : Bool) (pe : PV) (st en : PV) (l : Str) : tvP T0 dGen.scope 20 (TG toks d ns rs an pe p2 54 (Str.ofString "=") st en l) (ifT gC3) = some (false, (True ∧ True ∧ SeqAt.shaped (PyData.str (Str.ofString "=")) = true ∧ SeqAt.shaped (PyData.str (Str.ofString ":")) = true) ∧ ((PyData.str (Str.ofString "=")).eqv (PyData.str (Str.ofString ":")) = true → (True ∧ True) ∧ (d = true → (True ∧ ((True ∧ True) ∧ [PV.str (Str.ofString "(")].length ≤ sizeLine) ∧ SeqAt.shaped (PyData.list [PyData.str (Str.ofString "("), PyData.str (Str.ofString "(")]) = true ∧ SeqAt.shaped (PyData.list [PyData.str (Str.ofString "(")]) = true) ∧ ((PyData.list [PyData.str (Str.ofString "("), PyData.str (Str.ofString "(")]).eqv (PyData.list [PyData.str (Str.ofString "(")]) = true → True)))) := by kernel_rfl
theorem g_c4_2 (toks : List PV) (d ns rs an : Bool) (pe : PV) (st en : PV) (l : Str) : tvP T0 dGen.scope 20 (TG toks d ns rs an pe p2 54 (Str.ofString "=") st en l) (ifT gC4) = some (false, (((True ∧ True) ∧ (↑p2.length : Int) < 2 ^ 63) ∧ True ∧ SeqAt.shaped (PyData.int (↑p2.length : Int)) = true ∧ SeqAt.shaped (PyData.int 1) = true) ∧ ((PyData.int (↑p2.length : Int)).eqv (PyData.int 1) = true → (True ∧ True ∧ SeqAt.shaped (PyData.str (Str.ofString "=")) = true ∧ SeqAt.shaped (PyData.str (Str.ofString ",")) = true) ∧ ((PyData.str (Str.ofString "=")).eqv (PyData.str (Str.ofString ",")) = true → True))) := by kernel_rfl
theorem g_c5_2 (toks : List PV) (d ns rs an : Bool) (pe : PV) (st en : PV) (l : Str) : tvP T0 dGen.scope 20 (TG toks d ns rs an pe p2 54 (Str.ofString "=") st en l) (ifT gC5) = some (true, (True ∧ (↑p2.length : Int) < 2 ^ 63) ∧ ((!p2.isEmpty) = true → (True ∧ True ∧ SeqAt.shaped (PyData.str (Str.ofString "=")) = true ∧ SeqAt.shaped (PyData.str (Str.ofString "=")) = true) ∧ ((PyData.str (Str.ofString "=")).eqv (PyData.str (Str.ofString "=")) = true → True))) := by kernel_rfl
theorem g_end2 (toks : List PV) (d ns rs an : Bool) (pe : PV) (st en : PV) (l : Str) : exsP T0 dGen.scope 20 20 (TG toks d ns rs an pe p2 54 (Str.ofString "=") st en l) [nth (ifB (nth gB 3)) 1, nth gB 4] = some ({ vars := [(Str.ofString "tokens", PV.lst toks), (Str.ofString "logical_line", PV.str (lineP d)), (Str.ofString "paren_stack", PV.ml 0), (Str.ofString "no_space", PV.bool ns), (Str.ofString "require_space", PV.bool rs), (Str.ofString "prev_end", en), (Str.ofString "annotated_func_arg", PV.bool an), (Str.ofString "in_def", PV.bool d), (Str.ofString "in_generic", PV.bool false), (Str.ofString "message", PV.str far), (Str.ofString "missing_message", PV.str near), (Str.ofString "token_type", PV.int 54), (Str.ofString "text", PV.str (Str.ofString "=")), (Str.ofString "start", st), (Str.ofString "end", en), (Str.ofString "line", PV.str l)], muts := [[PV.str (Str.ofString "("), PV.str (Str.ofString "(")]] }, Fl.next, ((True ∧ (↑p2.length : Int) < 2 ^ 63) ∧ True) ∧ True ∧ True) := by kernel_rfl
theorem g_er2 (toks : List PV) (d ns rs an : Bool) (pe : PV) (st en : PV) (l : Str) : exsP T0 dGen.scope 20 20 (TG toks d ns rs an pe p2 54 (Str.ofString "=") st en l) [nth (ifB gE) 0] = some ({ vars := [(Str.ofString "tokens", PV.lst toks), (Str.ofString "logical_line", PV.str (lineP d)), (Str.ofString "paren_stack", PV.ml 0), (Str.ofString "no_space", PV.bool ns), (Str.ofString "require_space", PV.bool true), (Str.ofString "prev_end", pe), (Str.ofString "annotated_func_arg", PV.bool an), (Str.ofString "in_def", PV.bool d), (Str.ofString "in_generic", PV.bool false), (Str.ofString "message", PV.str far), (Str.ofString "missing_message", PV.str near), (Str.ofString "token_type", PV.int 54), (Str.ofString "text", PV.str (Str.ofString "=")), (Str.ofString "start", st), (Str.ofString "end", en), (Str.ofString "line", PV.str l)], muts := [[PV.str (Str.ofString "("), PV.str (Str.ofString "(")]] }, Fl.next, True ∧ True) := by kernel_rfl
theorem g_en2 (toks : List PV) (d ns rs an : Bool) (pe : PV) (st en : PV) (l : Str) : exsP T0 dGen.scope 20 20 (TG toks d ns rs an pe p2 54 (Str.ofString "=") st en l) [nth (ifO gE) 0] = some ({ vars := [(Str.ofString "tokens", PV.lst toks), (Str.ofString "logical_line", PV.str (lineP d)), (Str.ofString "paren_stack", PV.ml 0), (Str.ofString "no_space", PV.bool true), (Str.ofString "require_space", PV.bool rs), (Str.ofString "prev_end", pe), (Str.ofString "annotated_func_arg", PV.bool an), (Str.ofString "in_def", PV.bool d), (Str.ofString "in_generic", PV.bool false), (Str.ofString "message", PV.str far), (Str.ofString "missing_message", PV.str near), (Str.ofString "token_type", PV.int 54), (Str.ofString "text", PV.str (Str.ofString "=")), (Str.ofString "start", st), (Str.ofString "end", en), (Str.ofString "line", PV.str l)], muts := [[PV.str (Str.ofString "("), PV.str (Str.ofString "(")]] }, Fl.next, True ∧ True) := by kernel_rfl
theorem g_ge2_true (toks : List PV) (d ns rs : Bool) (pe : PV) (st en : PV) (l : Str) : tvP T0 dGen.scope 20 (TG toks d ns rs true pe p2 54 (Str.ofString "=") st en l) (ifT gE) = some (false, ((True ∧ True) ∧ (false = true → (True ∧ ((True ∧ True) ∧ [PV.str (Str.ofString "[")].length ≤ sizeLine) ∧ SeqAt.shaped (PyData.list [PyData.str (Str.ofString "("), PyData.str (Str.ofString "(")]) = true ∧ SeqAt.shaped (PyData.list [PyData.str (Str.ofString "[")]) = true) ∧ ((PyData.list [PyData.str (Str.ofString "("), PyData.str (Str.ofString "(")]).eqv (PyData.list [PyData.str (Str.ofString "[")]) = true → True))) ∧ ((false && ((PyData.list [PyData.str (Str.ofString "("), PyData.str (Str.ofString "(")]).eqv (PyData.list [PyData.str (Str.ofString "[")]) && true)) = false → ((True ∧ True) ∧ (true = true → (True ∧ ((True ∧ True) ∧ [PV.str (Str.ofString "(")].length ≤ sizeLine) ∧ SeqAt.shaped (PyData.list [PyData.str (Str.ofString "("), PyData.str (Str.ofString "(")]) = true ∧ SeqAt.shaped (PyData.list [PyData.str (Str.ofString "(")]) = true) ∧ ((PyData.list [PyData.str (Str.ofString "("), PyData.str (Str.ofString "(")]).eqv (PyData.list [PyData.str (Str.ofString "(")]) = true → True))) ∧ ((true && ((PyData.list [PyData.str (Str.ofString "("), PyData.str (Str.ofString "(")]).eqv (PyData.list [PyData.str (Str.ofString "(")]) && true)) = false → True))) := by kernel_rfl
theorem g_ge2_false (toks : List PV) (d ns rs : Bool) (pe : PV) (st en : PV) (l : Str) : tvP T0 dGen.scope 20 (TG toks d ns rs false pe p2 54 (Str.ofString "=") st en l) (ifT gE) = some (false, ((True ∧ True) ∧ (false = true → (True ∧ ((True ∧ True) ∧ [PV.str (Str.ofString "[")].length ≤ sizeLine) ∧ SeqAt.shaped (PyData.list [PyData.str (Str.ofString "("), PyData.str (Str.ofString "(")]) = true ∧ SeqAt.shaped (PyData.list [PyData.str (Str.ofString "[")]) = true) ∧ ((PyData.list [PyData.str (Str.ofString "("), PyData.str (Str.ofString "(")]).eqv (PyData.list [PyData.str (Str.ofString "[")]) = true → True))) ∧ ((false && ((PyData.list [PyData.str (Str.ofString "("), PyData.str (Str.ofString "(")]).eqv (PyData.list [PyData.str (Str.ofString "[")]) && true)) = false → ((True ∧ True) ∧ (false = true → (True ∧ ((True ∧ True) ∧ [PV.str (Str.ofString "(")].length ≤ sizeLine) ∧ SeqAt.shaped (PyData.list [PyData.str (Str.ofString "("), PyData.str (Str.ofString "(")]) = true ∧ SeqAt.shaped (PyData.list [PyData.str (Str.ofString "(")]) = true) ∧ ((PyData.list [PyData.str (Str.ofString "("), PyData.str (Str.ofString "(")]).eqv (PyData.list [PyData.str (Str.ofString "(")]) = true → True))) ∧ ((false && ((PyData.list [PyData.str (Str.ofString "("), PyData.str (Str.ofString "(")]).eqv (PyData.list [PyData.str (Str.ofString "(")]) && true)) = false → True))) := by kernel_rfl
theorem g_n3 (toks : List PV) (d ns rs an : Bool) (a b c e : Int) (pl : List PV) (k : Int) (x : Str) (en : PV) (l : Str) : tvP T0 dGen.scope 20 (TG toks d ns rs an (.tup [.int a, .int b]) pl k x (.tup [.int c, .int e]) en l) (ifT gN3) = some ((PyData.tuple [PyData.int c, PyData.int e]).eqv (PyData.tuple [PyData.int a, PyData.int b]), True ∧ True ∧ SeqAt.shaped (PyData.tuple [PyData.int c, PyData.int e]) = true ∧ SeqAt.shaped (PyData.tuple [PyData.int a, PyData.int b]) = true) := by kernel_rfl
theorem g_n4 (toks : List PV) (d ns rs an : Bool) (a b c e : Int) (pl : List PV) (k : Int) (x : Str) (en : PV) (l : Str) : tvP T0 dGen.scope 20 (TG toks d ns rs an (.tup [.int a, .int b]) pl k x (.tup [.int c, .int e]) en l) (ifT gN4) = some (!(PyData.tuple [PyData.int c, PyData.int e]).eqv (PyData.tuple [PyData.int a, PyData.int b]), True ∧ True ∧ SeqAt.shaped (PyData.tuple [PyData.int c, PyData.int e]) = true ∧ SeqAt.shaped (PyData.tuple [PyData.int a, PyData.int b]) = true) := by kernel_rfl
theorem g_y3 (toks : List PV) (d ns rs an : Bool) (a b c e : Int) (pl : List PV) (k : Int) (x : Str) (en : PV) (l : Str) : evP T0 dGen.scope 20 (TG toks d ns rs an (.tup [.int a, .int b]) pl k x (.tup [.int c, .int e]) en l) (yE (nth (ifB gN3) 0)) = some (PV.tup [PV.tup [PV.int a, PV.int b], PV.str near], (True ∧ True ∧ True) ∧ [PV.tup [PV.int a, PV.int b], PV.str near].length ≤ sizeLine) := by kernel_rfl
theorem g_y4 (toks : List PV) (d ns rs an : Bool) (a b c e : Int) (pl : List PV) (k : Int) (x : Str) (en : PV) (l : Str) : evP T0 dGen.scope 20 (TG toks d ns rs an (.tup [.int a, .int b]) pl k x (.tup [.int c, .int e]) en l) (yE (nth (ifB gN4) 0)) = some (PV.tup [PV.tup [PV.int a, PV.int b], PV.str far], (True ∧ True ∧ True) ∧ [PV.tup [PV.int a, PV.int b], PV.str far].length ≤ sizeLine) := by kernel_rfl
theorem g_pre1 (toks : List PV) (ln : Str) : exsP T0 dGen.scope 20 20 ⟨[("tokens", .lst toks), ("logical_line", .str ln)], []⟩ [nth dGen.body 1, nth dGen.body 2, nth dGen.body 3, nth dGen.body 4, nth dGen.body 5] = some ({ vars := [(Str.ofString "tokens", PV.lst toks), (Str.ofString "logical_line", PV.str ln), (Str.ofString "paren_stack", PV.ml 0), (Str.ofString "no_space", PV.bool false), (Str.ofString "require_space", PV.bool false), (Str.ofString "prev_end", PV.none), (Str.ofString "annotated_func_arg", PV.bool false)], muts := [[]] }, Fl.next, True ∧ True ∧ True ∧ True ∧ True ∧ True) := by kernel_rfl
theorem g_pre2 (toks : List PV) (ln : Str) (d g : Bool) : exsP T0 dGen.scope 20 20 ⟨[("tokens", .lst toks), ("logical_line", .str ln), ("paren_stack", .ml 0), ("no_space", .bool false), ("require_space", .bool false), ("prev_end", .none), ("annotated_func_arg", .bool false), ("in_def", .bool d), ("in_generic", .bool g)], [[]]⟩ [nth dGen.body 8, nth dGen.body 9] = some ({ vars := [(Str.ofString "tokens", PV.lst toks), (Str.ofString "logical_line", PV.str ln), (Str.ofString "paren_stack", PV.ml 0), (Str.ofString "no_space", PV.bool false), (Str.ofString "require_space", PV.bool false), (Str.ofString "prev_end", PV.none), (Str.ofString "annotated_func_arg", PV.bool false), (Str.ofString "in_def", PV.bool d), (Str.ofString "in_generic", PV.bool g), (Str.ofString "message", PV.str (Str.ofString "E251 unexpected spaces around keyword / parameter equals")), (Str.ofString "missing_message", PV.str (Str.ofString "E252 missing whitespace around parameter equals"))], muts := [[]] }, Fl.next, True ∧ True ∧ True) := by kernel_rfl
theorem g_iter (toks : List PV) (d ns rs an : Bool) (pe : PV) (pl : List PV) : evP T0 dGen.scope 20 (SG toks d ns rs an pe pl) (forI (nth dGen.body 10)) = some (PV.lst toks, True) := by kernel_rfl
theorem g_asg (toks : List PV) (d ns rs an : Bool) (pe : PV) (pl : List PV) (k : Int) (x : Str) (st en : PV) (l : Str) : asgP dGen.scope (forT (nth dGen.body 10)) (.tok [.int k, .str x, st, en, .str l]) (SG toks d ns rs an pe pl) = (some { vars := [(Str.ofString "tokens", PV.lst toks), (Str.ofString "logical_line", PV.str (lineP d)), (Str.ofString "paren_stack", PV.ml 0), (Str.ofString "no_space", PV.bool ns), (Str.ofString "require_space", PV.bool rs), (Str.ofString "prev_end", pe), (Str.ofString "annotated_func_arg", PV.bool an), (Str.ofString "in_def", PV.bool d), (Str.ofString "in_generic", PV.bool false), (Str.ofString "message", PV.str far), (Str.ofString "missing_message", PV.str near), (Str.ofString "token_type", PV.int k), (Str.ofString "text", PV.str x), (Str.ofString "start", st), (Str.ofString "end", en), (Str.ofString "line", PV.str l)], muts := [pl] } : Option PS) := by kernel_rfl
end Mine

end
section
open PySem PySem.W PyProof.Rows PySem.Calls PySem.W.X
set_option maxRecDepth 100000
set_option maxHeartbeats 4000000
namespace Mine

/-- the generator's surroundings, bundled -/
structure GX where
  w : World
  A : Around
  hB : Heap
  L : Addr
  R : Addr
  h₀ : Heap
  C : Cx
  mg : Str → Option Value
  mb : Str → Option Value
  nm : Str
  a : Addr
  cd : Value
  I : Addr
  l : Addr
  xs : List PV
  vs : List Value
  k : Result → Sem Fin
  lv : List Value
  p : Pos

noncomputable abbrev GX.GS (X : GX) (i : Nat) (tail : List Stmt) (P : PS) (outs : List PV) : Prop :=
  Mine.GS prg X.w X.A X.hB X.L X.R X.h₀ X.C dGen.scope X.nm X.a X.cd X.I X.l X.xs X.vs (forT (nth dGen.body 10)) gB dGen.body X.k X.lv X.p i tail P outs
noncomputable abbrev GX.LT (X : GX) (i : Nat) (P : PS) (outs : List PV) : Prop :=
  Mine.LT prg X.w X.A X.hB X.L X.R X.h₀ X.C dGen.scope X.nm X.a X.cd X.I X.l X.xs X.vs (forT (nth dGen.body 10)) gB dGen.body X.k X.lv X.p i P outs
noncomputable abbrev GX.Fix (X : GX) : Prop := GFix prg X.w X.A X.hB X.L X.R X.h₀ X.C T0 X.mg X.mb dGen.scope X.nm X.a X.cd X.I X.l X.xs X.vs

theorem g_body : gB = [asIf (nth gB 0), asIf (nth gB 1), asIf (nth gB 2), nth gB 3, nth gB 4] := by kernel_rfl
theorem g_b1 : ifB (nth gB 1) = [nth (ifB (nth gB 1)) 0, asIf gN1] := by kernel_rfl
theorem g_b2 : ifB (nth gB 2) = [nth (ifB (nth gB 2)) 0, asIf gN2] := by kernel_rfl
theorem g_bn1 : ∃ yp pos, ifB gN1 = [.Expr (.Yield (some (yE (nth (ifB gN1) 0))) yp) pos] := ⟨_, _, rfl⟩
theorem g_bn2 : ∃ yp pos, ifB gN2 = [.Expr (.Yield (some (yE (nth (ifB gN2) 0))) yp) pos] := ⟨_, _, rfl⟩
theorem g_bn3 : ∃ yp pos, ifB gN3 = [.Expr (.Yield (some (yE (nth (ifB gN3) 0))) yp) pos] := ⟨_, _, rfl⟩
theorem g_bn4 : ∃ yp pos, ifB gN4 = [.Expr (.Yield (some (yE (nth (ifB gN4) 0))) yp) pos] := ⟨_, _, rfl⟩
theorem g_els : ifO (nth gB 0) = [] ∧ ifO (nth gB 1) = [] ∧ ifO (nth gB 2) = [] ∧ ifO gN1 = [] ∧ ifO gN2 = [] ∧ ifO gN3 = [] ∧ ifO gN4 = [] := ⟨by kernel_rfl, by kernel_rfl, by kernel_rfl, by kernel_rfl, by kernel_rfl, by kernel_rfl, by kernel_rfl⟩
theorem shaped_tp (a b : Int) : SeqAt.shaped (PyData.tuple [PyData.int a, PyData.int b]) = true := by simp [SeqAt.shaped, PyData.canLay0, PyData.canLayAll0, PyData.depth, PyData.depthAll]

/-- two places differ -/
noncomputable def differ (a b c e : Int) : Bool := !PyData.eqv (.tuple [.int c, .int e]) (.tuple [.int a, .int b])
noncomputable def outFar (q : Bool) (a b : Int) : List PV := if q then [.tup [tp a b, .str far]] else []
noncomputable def outNear (q : Bool) (a b : Int) : List PV := if q then [.tup [tp a b, .str near]] else []
theorem yield_only (a b : Int) (x : Str) : tupOnly (.tup [tp a b, .str x]) = true := rfl

variable {X : GX} {i : Nat} {toks : List PV} {d ns rs an : Bool} {pe : PV} {pl : List PV} {k : Int} {x : Str} {st en : PV} {l : Str} {outs : List PV} {r : List Stmt} {a b c e : Int}

theorem st1_off (F : X.Fix) (h : X.GS i r (TG toks d false rs an pe pl k x st en l) outs) : X.GS i (asIf (nth gB 1) :: r) (TG toks d false rs an pe pl k x st en l) outs := by
  refine GS.if F (g_t1 toks d false rs an pe pl k x st en l) ⟨trivial, trivial⟩ ?_
  rw [if_neg Bool.false_ne_true, g_els.2.1]
  exact h
theorem st1_on (F : X.Fix) (h : X.GS i r (TG toks d false rs an (tp a b) pl k x (tp c e) en l) outs) : X.GS i (asIf (nth gB 1) :: r) (TG toks d true rs an (tp a b) pl k x (tp c e) en l) (outFar (differ a b c e) a b ++ outs) := by
  refine GS.if F (g_t1 toks d true rs an _ pl k x _ en l) ⟨trivial, trivial⟩ ?_
  rw [if_pos rfl, g_b1]
  refine GS.run (x := [nth (ifB (nth gB 1)) 0]) (y := asIf gN1 :: r) F (g_s1 toks d true rs an _ pl k x _ en l) ⟨trivial, trivial⟩ ?_
  refine GS.if F (g_n1 toks d false rs an a b c e pl k x en l) ⟨trivial, trivial, shaped_tp _ _, shaped_tp _ _⟩ ?_
  by_cases q : differ a b c e = true
  · rw [show (!PyData.eqv (.tuple [.int c, .int e]) (.tuple [.int a, .int b])) = true from q, if_pos rfl]
    obtain ⟨yp, pos, e1⟩ := g_bn1
    rw [e1]
    unfold outFar
    rw [if_pos q]
    exact GS.yield F (g_y1 toks d false rs an a b c e pl k x en l) ⟨⟨trivial, trivial, trivial⟩, two_line⟩ (yield_only a b far) h
  · have q' : differ a b c e = false := by simpa using q
    rw [show (!PyData.eqv (.tuple [.int c, .int e]) (.tuple [.int a, .int b])) = false from q', if_neg Bool.false_ne_true, g_els.2.2.2.1]
    unfold outFar
    rw [if_neg q]
    exact h
theorem st2_off (F : X.Fix) (h : X.GS i r (TG toks d ns false an pe pl k x st en l) outs) : X.GS i (asIf (nth gB 2) :: r) (TG toks d ns false an pe pl k x st en l) outs := by
  refine GS.if F (g_t2 toks d ns false an pe pl k x st en l) ⟨trivial, trivial⟩ ?_
  rw [if_neg Bool.false_ne_true, g_els.2.2.1]
  exact h
theorem st2_on (F : X.Fix) (h : X.GS i r (TG toks d ns false an (tp a b) pl k x (tp c e) en l) outs) : X.GS i (asIf (nth gB 2) :: r) (TG toks d ns true an (tp a b) pl k x (tp c e) en l) (outNear (!differ a b c e) a b ++ outs) := by
  refine GS.if F (g_t2 toks d ns true an _ pl k x _ en l) ⟨trivial, trivial⟩ ?_
  rw [if_pos rfl, g_b2]
  refine GS.run (x := [nth (ifB (nth gB 2)) 0]) (y := asIf gN2 :: r) F (g_s2 toks d ns true an _ pl k x _ en l) ⟨trivial, trivial⟩ ?_
  refine GS.if F (g_n2 toks d ns false an a b c e pl k x en l) ⟨trivial, trivial, shaped_tp _ _, shaped_tp _ _⟩ ?_
  by_cases q : differ a b c e = true
  · have q' : PyData.eqv (.tuple [.int c, .int e]) (.tuple [.int a, .int b]) = false := by simpa [differ] using q
    rw [q', if_neg Bool.false_ne_true, g_els.2.2.2.2.1]
    unfold outNear
    rw [q]
    exact h
  · have q1 : differ a b c e = false := by simpa using q
    have q' : PyData.eqv (.tuple [.int c, .int e]) (.tuple [.int a, .int b]) = true := by simpa [differ] using q1
    rw [q', if_pos rfl]
    obtain ⟨yp, pos, e1⟩ := g_bn2
    rw [e1]
    unfold outNear
    rw [q1]
    exact GS.yield F (g_y2 toks d ns false an a b c e pl k x en l) ⟨⟨trivial, trivial, trivial⟩, two_line⟩ (yield_only a b near) h

/-- the head of a turn: the token is at hand -/
theorem head (F : X.Fix) (hi : i < X.xs.length) (hx : X.xs.getD i .none = .tok [.int k, .str x, st, en, .str l]) (hk : k ≠ 62) (h : X.GS (i + 1) [asIf (nth gB 1), asIf (nth gB 2), nth gB 3, nth gB 4] (TG toks d ns rs an pe pl k x st en l) outs) : X.LT i (SG toks d ns rs an pe pl) outs := by
  refine LT.turn F hi (by rw [hx]; exact g_asg toks d ns rs an pe pl k x st en l) ?_
  show X.GS (i + 1) gB (TG toks d ns rs an pe pl k x st en l) outs
  rw [show X.GS (i + 1) gB (TG toks d ns rs an pe pl k x st en l) outs = Mine.GS prg X.w X.A X.hB X.L X.R X.h₀ X.C dGen.scope X.nm X.a X.cd X.I X.l X.xs X.vs (forT (nth dGen.body 10)) gB dGen.body X.k X.lv X.p (i + 1) [asIf (nth gB 0), asIf (nth gB 1), asIf (nth gB 2), nth gB 3, nth gB 4] (TG toks d ns rs an pe pl k x st en l) outs from congrArg (fun t => Mine.GS prg X.w X.A X.hB X.L X.R X.h₀ X.C dGen.scope X.nm X.a X.cd X.I X.l X.xs X.vs (forT (nth dGen.body 10)) gB dGen.body X.k X.lv X.p (i + 1) t (TG toks d ns rs an pe pl k x st en l) outs) g_body]
  refine GS.if F (g_t0 toks d ns rs an pe pl k x st en l) ⟨trivial, trivial, shaped_int _, shaped_int _⟩ ?_
  rw [eqv_int, decide_eq_false hk, if_neg Bool.false_ne_true, g_els.1]
  exact h
theorem head_off (F : X.Fix) (hi : i < X.xs.length) (hx : X.xs.getD i .none = .tok [.int k, .str x, st, en, .str l]) (hk : k ≠ 62) (h : X.GS (i + 1) [nth gB 3, nth gB 4] (TG toks d false false an pe pl k x st en l) outs) : X.LT i (SG toks d false false an pe pl) outs :=
  head F hi hx hk (st1_off F (st2_off F h))
theorem head_ns (F : X.Fix) (hi : i < X.xs.length) (hx : X.xs.getD i .none = .tok [.int k, .str x, tp c e, en, .str l]) (hk : k ≠ 62) (h : X.GS (i + 1) [nth gB 3, nth gB 4] (TG toks d false false an (tp a b) pl k x (tp c e) en l) outs) : X.LT i (SG toks d true false an (tp a b) pl) (outFar (differ a b c e) a b ++ outs) :=
  head F hi hx hk (st1_on F (st2_off F h))
theorem head_rs (F : X.Fix) (hi : i < X.xs.length) (hx : X.xs.getD i .none = .tok [.int k, .str x, tp c e, en, .str l]) (hk : k ≠ 62) (h : X.GS (i + 1) [nth gB 3, nth gB 4] (TG toks d false false an (tp a b) pl k x (tp c e) en l) outs) : X.LT i (SG toks d false true an (tp a b) pl) (outNear (!differ a b c e) a b ++ outs) :=
  head F hi hx hk (st1_off F (st2_on F h))

theorem sub_sg {toks : List PV} {d ns rs an : Bool} {pe : PV} {pl : List PV} {k : Int} {x : Str} {st en : PV} {l : Str} : Sub (SG toks d ns rs an pe pl) (TG toks d ns rs an pe pl k x st en l) := Sub.looked ⟨rfl, rfl, rfl, rfl, rfl, rfl, rfl, rfl, rfl, rfl, rfl, trivial⟩
end Mine

end
section
open PySem PySem.W PyProof.Rows PySem.Calls PySem.W.X
set_option maxRecDepth 100000
set_option maxHeartbeats 4000000
set_option synthInstance.maxSize 100000
set_option synthInstance.maxHeartbeats 2000000
namespace Mine
variable {X : GX} {i : Nat} {toks : List PV} {d ns rs an : Bool} {pe : PV} {pl : List PV} {k : Int} {x : Str} {st en : PV} {l : Str} {outs : List PV} {r : List Stmt} {a b c e : Int}

theorem tl_1 (F : X.Fix) (h : X.LT i (SG toks d ns rs an en pl) outs) : X.GS i [nth gB 3, nth gB 4] (TG toks d ns rs an pe pl 1 x st en l) outs :=
  GS.run (x := [nth gB 3, nth gB 4]) (y := []) F (g_oa toks d ns rs an pe pl x st en l) ⟨⟨⟨trivial, trivial, shaped_int _, shaped_int _⟩, trivial⟩, trivial, trivial⟩ (GS.sub sub_sg (GS.next h))
theorem tl_2 (F : X.Fix) (h : X.LT i (SG toks d ns rs an en pl) outs) : X.GS i [nth gB 3, nth gB 4] (TG toks d ns rs an pe pl 2 x st en l) outs :=
  GS.run (x := [nth gB 3, nth gB 4]) (y := []) F (g_ob toks d ns rs an pe pl x st en l) ⟨⟨⟨trivial, trivial, shaped_int _, shaped_int _⟩, trivial⟩, trivial, trivial⟩ (GS.sub sub_sg (GS.next h))
theorem tl_open0 (F : X.Fix) (h : X.LT i (SG toks d ns rs an en p1) outs) : X.GS i [nth gB 3, nth gB 4] (TG toks d ns rs an pe [] 54 (Str.ofString "(") st en l) outs :=
  GS.run (x := [nth gB 3, nth gB 4]) (y := []) F (g_op0 toks d ns rs an pe st en l) (by decide +kernel) (GS.sub sub_sg (GS.next h))
theorem tl_open1 (F : X.Fix) (h : X.LT i (SG toks d ns rs an en p2) outs) : X.GS i [nth gB 3, nth gB 4] (TG toks d ns rs an pe p1 54 (Str.ofString "(") st en l) outs :=
  GS.run (x := [nth gB 3, nth gB 4]) (y := []) F (g_op1 toks d ns rs an pe st en l) (by decide +kernel) (GS.sub sub_sg (GS.next h))
theorem tl_close2 (F : X.Fix) (h : X.LT i (SG toks d ns rs an en p1) outs) : X.GS i [nth gB 3, nth gB 4] (TG toks d ns rs an pe p2 54 (Str.ofString ")") st en l) outs :=
  GS.run (x := [nth gB 3, nth gB 4]) (y := []) F (g_cl2 toks d ns rs an pe st en l) (by decide +kernel) (GS.sub sub_sg (GS.next h))
theorem tl_close1 (F : X.Fix) (h : X.LT i (SG toks d ns rs false en []) outs) : X.GS i [nth gB 3, nth gB 4] (TG toks d ns rs an pe p1 54 (Str.ofString ")") st en l) outs :=
  GS.run (x := [nth gB 3, nth gB 4]) (y := []) F (g_cl1 toks d ns rs an pe st en l) (by decide +kernel) (GS.sub sub_sg (GS.next h))
theorem tl_colon (F : X.Fix) (h : X.LT i (SG toks true ns rs true en p1) outs) : X.GS i [nth gB 3, nth gB 4] (TG toks true ns rs an pe p1 54 (Str.ofString ":") st en l) outs :=
  GS.run (x := [nth gB 3, nth gB 4]) (y := []) F (g_col toks ns rs an pe st en l) (by decide +kernel) (GS.sub sub_sg (GS.next h))
theorem tl_comma (F : X.Fix) (h : X.LT i (SG toks d ns rs false en p1) outs) : X.GS i [nth gB 3, nth gB 4] (TG toks d ns rs an pe p1 54 (Str.ofString ",") st en l) outs :=
  GS.run (x := [nth gB 3, nth gB 4]) (y := []) F (g_com toks d ns rs an pe st en l) (by cases d <;> decide +kernel) (GS.sub sub_sg (GS.next h))
end Mine

end
section
open PySem PySem.W PyProof.Rows PySem.Calls PySem.W.X
set_option maxRecDepth 100000
set_option maxHeartbeats 4000000
set_option synthInstance.maxSize 100000
set_option synthInstance.maxHeartbeats 2000000
namespace Mine
variable {X : GX} {i : Nat} {toks : List PV} {d ns rs an : Bool} {pe : PV} {pl : List PV} {k : Int} {x : Str} {st en : PV} {l : Str} {outs : List PV} {r : List Stmt} {a b c e : Int}
theorem g_b3 : nth gB 3 = asIf (nth gB 3) ∧ ifB (nth gB 3) = [asIf gC1, nth (ifB (nth gB 3)) 1] ∧ ifO gC1 = [asIf gC2] ∧ ifO gC2 = [asIf gC3] ∧ ifO gC3 = [asIf gC4] ∧ ifO gC4 = [asIf gC5] ∧ ifB gC5 = [asIf gE] ∧ ifB gE = [nth (ifB gE) 0, asIf gN3] ∧ ifO gE = [nth (ifO gE) 0, asIf gN4] :=
  ⟨by kernel_rfl, by kernel_rfl, by kernel_rfl, by kernel_rfl, by kernel_rfl, by kernel_rfl, by kernel_rfl, by kernel_rfl, by kernel_rfl⟩

theorem ifTr (F : X.Fix) {t : PySem.Expr} {y z : List Stmt} {pos : Pos} {q : Bool} {cc : Prop} {P : PS} (e : tvP T0 dGen.scope 20 P t = some (q, cc)) (hc : cc) (hq : q = true) (h : X.GS i (y ++ r) P outs) : X.GS i (.If t y z pos :: r) P outs :=
  GS.if F e hc (by rw [if_pos hq]; exact h)
theorem ifFa (F : X.Fix) {t : PySem.Expr} {y z : List Stmt} {pos : Pos} {q : Bool} {cc : Prop} {P : PS} (e : tvP T0 dGen.scope 20 P t = some (q, cc)) (hc : cc) (hq : q = false) (h : X.GS i (z ++ r) P outs) : X.GS i (.If t y z pos :: r) P outs :=
  GS.if F e hc (by rw [if_neg (by rw [hq]; exact Bool.false_ne_true)]; exact h)

/-- down the chain, to the branch of an equals -/
theorem tl_chain1 (F : X.Fix) (h : X.GS i (asIf gE :: [nth (ifB (nth gB 3)) 1, nth gB 4]) (TG toks d ns rs an pe p1 54 (Str.ofString "=") st en l) outs) : X.GS i [nth gB 3, nth gB 4] (TG toks d ns rs an pe p1 54 (Str.ofString "=") st en l) outs := by
  obtain ⟨q0, q1, q2, q3, q4, q5, q6, q7, q8⟩ := g_b3
  rw [q0]
  refine ifTr F (g_e31 toks d ns rs an pe st en l) (by decide +kernel) (by decide +kernel) ?_
  rw [q1]
  refine ifFa F (g_c1_1 toks d ns rs an pe st en l) (by decide +kernel) (by first | decide +kernel | (cases d <;> decide +kernel)) ?_
  rw [q2]
  refine ifFa F (g_c2_1 toks d ns rs an pe st en l) (by decide +kernel) (by first | decide +kernel | (cases d <;> decide +kernel)) ?_
  rw [q3]
  refine ifFa F (g_c3_1 toks d ns rs an pe st en l) (by cases d <;> decide +kernel) (by first | decide +kernel | (cases d <;> decide +kernel)) ?_
  rw [q4]
  refine ifFa F (g_c4_1 toks d ns rs an pe st en l) (by decide +kernel) (by first | decide +kernel | (cases d <;> decide +kernel)) ?_
  rw [q5]
  refine ifTr F (g_c5_1 toks d ns rs an pe st en l) (by decide +kernel) (by decide +kernel) ?_
  rw [q6]
  exact h
theorem tl_chain2 (F : X.Fix) (h : X.GS i (asIf gE :: [nth (ifB (nth gB 3)) 1, nth gB 4]) (TG toks d ns rs an pe p2 54 (Str.ofString "=") st en l) outs) : X.GS i [nth gB 3, nth gB 4] (TG toks d ns rs an pe p2 54 (Str.ofString "=") st en l) outs := by
  obtain ⟨q0, q1, q2, q3, q4, q5, q6, q7, q8⟩ := g_b3
  rw [q0]
  refine ifTr F (g_e32 toks d ns rs an pe st en l) (by decide +kernel) (by decide +kernel) ?_
  rw [q1]
  refine ifFa F (g_c1_2 toks d ns rs an pe st en l) (by decide +kernel) (by first | decide +kernel | (cases d <;> decide +kernel)) ?_
  rw [q2]
  refine ifFa F (g_c2_2 toks d ns rs an pe st en l) (by decide +kernel) (by first | decide +kernel | (cases d <;> decide +kernel)) ?_
  rw [q3]
  refine ifFa F (g_c3_2 toks d ns rs an pe st en l) (by cases d <;> decide +kernel) (by first | decide +kernel | (cases d <;> decide +kernel)) ?_
  rw [q4]
  refine ifFa F (g_c4_2 toks d ns rs an pe st en l) (by decide +kernel) (by first | decide +kernel | (cases d <;> decide +kernel)) ?_
  rw [q5]
  refine ifTr F (g_c5_2 toks d ns rs an pe st en l) (by decide +kernel) (by decide +kernel) ?_
  rw [q6]
  exact h
end Mine

end
section
open PySem PySem.W PyProof.Rows PySem.Calls PySem.W.X
set_option maxRecDepth 100000
set_option maxHeartbeats 4000000
set_option synthInstance.maxSize 100000
set_option synthInstance.maxHeartbeats 2000000
namespace Mine
variable {X : GX} {i : Nat} {toks : List PV} {d ns rs an : Bool} {pe : PV} {pl : List PV} {k : Int} {x : Str} {st en : PV} {l : Str} {outs : List PV} {r : List Stmt} {a b c e : Int}

/-- the place behind the branch -/
theorem tl_end1 (F : X.Fix) (h : X.LT i (SG toks d ns rs an en p1) outs) : X.GS i [nth (ifB (nth gB 3)) 1, nth gB 4] (TG toks d ns rs an pe p1 54 (Str.ofString "=") st en l) outs :=
  GS.run (x := [nth (ifB (nth gB 3)) 1, nth gB 4]) (y := []) F (g_end1 toks d ns rs an pe st en l) (by decide +kernel) (GS.sub sub_sg (GS.next h))
theorem tl_end2 (F : X.Fix) (h : X.LT i (SG toks d ns rs an en p2) outs) : X.GS i [nth (ifB (nth gB 3)) 1, nth gB 4] (TG toks d ns rs an pe p2 54 (Str.ofString "=") st en l) outs :=
  GS.run (x := [nth (ifB (nth gB 3)) 1, nth gB 4]) (y := []) F (g_end2 toks d ns rs an pe st en l) (by decide +kernel) (GS.sub sub_sg (GS.next h))

theorem near_step (F : X.Fix) (h : X.GS i r (TG toks d ns rs an (tp a b) pl k x (tp c e) en l) outs) : X.GS i (asIf gN3 :: r) (TG toks d ns rs an (tp a b) pl k x (tp c e) en l) (outNear (!differ a b c e) a b ++ outs) := by
  refine GS.if F (g_n3 toks d ns rs an a b c e pl k x en l) ⟨trivial, trivial, shaped_tp _ _, shaped_tp _ _⟩ ?_
  by_cases q : differ a b c e = true
  · have q' : PyData.eqv (.tuple [.int c, .int e]) (.tuple [.int a, .int b]) = false := by simpa [differ] using q
    rw [q', if_neg Bool.false_ne_true, g_els.2.2.2.2.2.1]
    unfold outNear
    rw [q]
    exact h
  · have q1 : differ a b c e = false := by simpa using q
    have q' : PyData.eqv (.tuple [.int c, .int e]) (.tuple [.int a, .int b]) = true := by simpa [differ] using q1
    rw [q', if_pos rfl]
    obtain ⟨yp, pos, e1⟩ := g_bn3
    rw [e1]
    unfold outNear
    rw [q1]
    exact GS.yield F (g_y3 toks d ns rs an a b c e pl k x en l) ⟨⟨trivial, trivial, trivial⟩, two_line⟩ (yield_only a b near) h
theorem far_step (F : X.Fix) (h : X.GS i r (TG toks d ns rs an (tp a b) pl k x (tp c e) en l) outs) : X.GS i (asIf gN4 :: r) (TG toks d ns rs an (tp a b) pl k x (tp c e) en l) (outFar (differ a b c e) a b ++ outs) := by
  refine GS.if F (g_n4 toks d ns rs an a b c e pl k x en l) ⟨trivial, trivial, shaped_tp _ _, shaped_tp _ _⟩ ?_
  by_cases q : differ a b c e = true
  · rw [show (!PyData.eqv (.tuple [.int c, .int e]) (.tuple [.int a, .int b])) = true from q, if_pos rfl]
    obtain ⟨yp, pos, e1⟩ := g_bn4
    rw [e1]
    unfold outFar
    rw [if_pos q]
    exact GS.yield F (g_y4 toks d ns rs an a b c e pl k x en l) ⟨⟨trivial, trivial, trivial⟩, two_line⟩ (yield_only a b far) h
  · have q' : differ a b c e = false := by simpa using q
    rw [show (!PyData.eqv (.tuple [.int c, .int e]) (.tuple [.int a, .int b])) = false from q', if_neg Bool.false_ne_true, g_els.2.2.2.2.2.2]
    unfold outFar
    rw [if_neg q]
    exact h

/-- an equals of an argument with an annotation -/
theorem tl_eqNear (F : X.Fix) (h : X.LT i (SG toks d false true true en p1) outs) : X.GS i [nth gB 3, nth gB 4] (TG toks d false false true (tp a b) p1 54 (Str.ofString "=") (tp c e) en l) (outNear (!differ a b c e) a b ++ outs) := by
  obtain ⟨q0, q1, q2, q3, q4, q5, q6, q7, q8⟩ := g_b3
  refine tl_chain1 F ?_
  refine ifTr F (g_ge1_true toks d false false _ _ en l) (by decide +kernel) (by decide +kernel) ?_
  rw [q7]
  refine GS.run (x := [nth (ifB gE) 0]) (y := asIf gN3 :: [nth (ifB (nth gB 3)) 1, nth gB 4]) F (g_er1 toks d false false true _ _ en l) ⟨trivial, trivial⟩ ?_
  exact near_step (toks := toks) (d := d) (ns := false) (rs := true) (an := true) (pl := p1) (k := 54) (x := Str.ofString "=") (en := en) (l := l) F (tl_end1 F h)
theorem tl_eqFar1 (F : X.Fix) (h : X.LT i (SG toks d true false false en p1) outs) : X.GS i [nth gB 3, nth gB 4] (TG toks d false false false (tp a b) p1 54 (Str.ofString "=") (tp c e) en l) (outFar (differ a b c e) a b ++ outs) := by
  obtain ⟨q0, q1, q2, q3, q4, q5, q6, q7, q8⟩ := g_b3
  refine tl_chain1 F ?_
  refine ifFa F (g_ge1_false toks d false false _ _ en l) (by decide +kernel) (by decide +kernel) ?_
  rw [q8]
  refine GS.run (x := [nth (ifO gE) 0]) (y := asIf gN4 :: [nth (ifB (nth gB 3)) 1, nth gB 4]) F (g_en1 toks d false false false _ _ en l) ⟨trivial, trivial⟩ ?_
  exact far_step (toks := toks) (d := d) (ns := true) (rs := false) (an := false) (pl := p1) (k := 54) (x := Str.ofString "=") (en := en) (l := l) F (tl_end1 F h)
theorem tl_eqFar2 (F : X.Fix) (h : X.LT i (SG toks d true false an en p2) outs) : X.GS i [nth gB 3, nth gB 4] (TG toks d false false an (tp a b) p2 54 (Str.ofString "=") (tp c e) en l) (outFar (differ a b c e) a b ++ outs) := by
  obtain ⟨q0, q1, q2, q3, q4, q5, q6, q7, q8⟩ := g_b3
  refine tl_chain2 F ?_
  have go : X.GS i (ifO gE ++ [nth (ifB (nth gB 3)) 1, nth gB 4]) (TG toks d false false an (tp a b) p2 54 (Str.ofString "=") (tp c e) en l) (outFar (differ a b c e) a b ++ outs) := by
    rw [q8]
    refine GS.run (x := [nth (ifO gE) 0]) (y := asIf gN4 :: [nth (ifB (nth gB 3)) 1, nth gB 4]) F (g_en2 toks d false false an _ _ en l) ⟨trivial, trivial⟩ ?_
    exact far_step (toks := toks) (d := d) (ns := true) (rs := false) (an := an) (pl := p2) (k := 54) (x := Str.ofString "=") (en := en) (l := l) F (tl_end2 F h)
  cases an with
  | true => exact ifFa F (g_ge2_true toks d false false _ _ en l) (by decide +kernel) (by decide +kernel) go
  | false => exact ifFa F (g_ge2_false toks d false false _ _ en l) (by decide +kernel) (by decide +kernel) go
end Mine

end
section
open PySem PySem.W PyProof.Rows PySem.Calls PySem.W.X
set_option maxRecDepth 100000
set_option maxHeartbeats 4000000
namespace Mine

/-- the rule's state between two tokens, plainly -/
structure RS where
  ns : Bool
  rs : Bool
  an : Bool
  n : Nat
  cur : Nat
noncomputable def wIs (w : Str) (x : String) : Bool := w == Str.ofString x
/-- what the pending flags tell at the next token -/
noncomputable def pend (s : RS) (g : Int) : List PV :=
  (if s.ns then outFar (decide (g ≠ 0)) 1 s.cur else []) ++ (if s.rs then outNear (decide (g = 0)) 1 s.cur else [])
noncomputable def stepR (d : Bool) (s : RS) (z : Str × Int) : Option (List PV × RS) :=
  let e := s.cur + z.2.toNat + z.1.length
  if s.ns && s.rs then none
  else if wIs z.1 "(" then (if s.n = 0 then some (pend s z.2, ⟨false, false, s.an, 1, e⟩) else if s.n = 1 then some (pend s z.2, ⟨false, false, s.an, 2, e⟩) else none)
  else if wIs z.1 ")" then (if s.n = 2 then some (pend s z.2, ⟨false, false, s.an, 1, e⟩) else if s.n = 1 then some (pend s z.2, ⟨false, false, false, 0, e⟩) else none)
  else if wIs z.1 ":" then (if s.n = 1 && d then some (pend s z.2, ⟨false, false, true, 1, e⟩) else none)
  else if wIs z.1 "," then (if s.n = 1 then some (pend s z.2, ⟨false, false, false, 1, e⟩) else none)
  else if wIs z.1 "=" then (
    if s.ns || s.rs then none
    else if s.n = 1 then (if s.an then some (outNear (decide (z.2 = 0)) 1 s.cur, ⟨false, true, true, 1, e⟩) else some (outFar (decide (z.2 ≠ 0)) 1 s.cur, ⟨true, false, false, 1, e⟩))
    else if s.n = 2 then some (outFar (decide (z.2 ≠ 0)) 1 s.cur, ⟨true, false, s.an, 2, e⟩) else none)
  else some (pend s z.2, ⟨false, false, s.an, s.n, e⟩)
noncomputable def runR (d : Bool) : RS → Zs → Option (List PV × RS)
  | s, [] => some ([], s)
  | s, z :: r => match stepR d s z with
    | some (o, s') => (match runR d s' r with | some (o', s'') => some (o ++ o', s'') | none => none)
    | none => none

noncomputable def plN : Nat → List PV
  | 0 => []
  | 1 => p1
  | _ => p2
noncomputable def SGr (toks : List PV) (d : Bool) (s : RS) : PS := SG toks d s.ns s.rs s.an (tp 1 s.cur) (plN s.n)

theorem differ_eq {q : Nat} {g : Int} (h0 : 0 ≤ g) : differ 1 (q : Int) 1 ((q + g.toNat : Nat) : Int) = decide (g ≠ 0) := by
  unfold differ
  have e : PyData.eqv (.tuple [.int 1, .int ((q + g.toNat : Nat) : Int)]) (.tuple [.int 1, .int (q : Int)]) = decide (g = 0) := by
    have h1 : PyData.eqv (.tuple [.int 1, .int ((q + g.toNat : Nat) : Int)]) (.tuple [.int 1, .int (q : Int)]) = (PyData.eqv (.int 1) (.int 1) && (PyData.eqv (.int ((q + g.toNat : Nat) : Int)) (.int (q : Int)) && true)) := by
      first | rfl | simp [PyData.eqv, PyData.eqvAll] | simp [PyData.eqv]
    rw [h1, eqv_int, eqv_int]
    by_cases q : g = 0
    · subst q; simp
    · have : ¬ (((‹Nat› + g.toNat : Nat) : Int) = (‹Nat› : Int)) := by omega
      rw [decide_eq_false this, decide_eq_false q]; simp
  rw [e]
  by_cases q : g = 0 <;> simp [q]

theorem kind_cases (w : Str) : kindI w = 54 ∨ kindI w = 2 ∨ kindI w = 1 := by
  unfold kindI
  repeat' split
  all_goals simp

variable {X : GX} {i : Nat} {toks : List PV} {d : Bool} {s s' : RS} {w : Str} {g : Int} {line : Str} {outs o : List PV}

theorem headR (F : X.Fix) (hi : i < X.xs.length) {en : PV} {k : Int} (hx : X.xs.getD i .none = .tok [.int k, .str w, tp 1 ((s.cur + g.toNat : Nat) : Int), en, .str line]) (hk : k ≠ 62) (h0 : 0 ≤ g) (hf : (s.ns && s.rs) = false)
    (h : X.GS (i + 1) [nth gB 3, nth gB 4] (TG toks d false false s.an (tp 1 s.cur) (plN s.n) k w (tp 1 ((s.cur + g.toNat : Nat) : Int)) en line) outs) : X.LT i (SGr toks d s) (pend s g ++ outs) := by
  obtain ⟨ns, rs, an, n, cur⟩ := s
  unfold SGr pend
  cases ns with
  | false =>
    cases rs with
    | false => exact head_off F hi hx hk h
    | true =>
      have q := head_rs F hi hx hk h
      rw [differ_eq h0] at q
      have e : (!decide (g ≠ 0)) = decide (g = 0) := by by_cases z : g = 0 <;> simp [z]
      rw [e] at q
      exact q
  | true =>
    cases rs with
    | false =>
      have q := head_ns F hi hx hk h
      rw [differ_eq h0] at q
      simpa using q
    | true => cases hf
theorem wIs_eq {w : Str} {x : String} (h : wIs w x = true) : w = Str.ofString x := by simpa [wIs] using h
theorem wIs_ne {w : Str} {x : String} (h : ¬ wIs w x = true) : w ≠ Str.ofString x := fun q => h (by simp [wIs, q])

theorem turnOk (F : X.Fix) (hi : i < X.xs.length) (hx : X.xs.getD i .none = pvTok line (w, s.cur + g.toNat)) (h0 : 0 ≤ g) (e : stepR d s (w, g) = some (o, s')) (h : X.LT (i + 1) (SGr toks d s') outs) : X.LT i (SGr toks d s) (o ++ outs) := by
  have hx' : X.xs.getD i .none = .tok [.int (kindI w), .str w, tp 1 ((s.cur + g.toNat : Nat) : Int), tp 1 ((s.cur + g.toNat + w.length : Nat) : Int), .str (line ++ Str.ofString "\n")] := by
    rw [hx]
    unfold pvTok tp
    push_cast
    rfl
  have hk : kindI w ≠ 62 := by rcases kind_cases w with q | q | q <;> rw [q] <;> decide
  unfold stepR at e
  simp only [] at e
  split at e
  · cases e
  · rename_i hf
    have hf : (s.ns && s.rs) = false := by simpa using hf
    split at e
    · rename_i q
      have q := wIs_eq q
      subst q
      have hk' : kindI (Str.ofString "(") = 54 := by decide +kernel
      split at e
      · rename_i q; cases e
        refine headR F hi hx' hk h0 hf ?_
        rw [hk', q]
        exact tl_open0 F h
      · split at e
        · rename_i q; cases e
          refine headR F hi hx' hk h0 hf ?_
          rw [hk', q]
          exact tl_open1 F h
        · cases e
    · rename_i n1
      split at e
      · rename_i q
        have q := wIs_eq q
        subst q
        have hk' : kindI (Str.ofString ")") = 54 := by decide +kernel
        split at e
        · rename_i q; cases e
          refine headR F hi hx' hk h0 hf ?_
          rw [hk', q]
          exact tl_close2 F h
        · split at e
          · rename_i q; cases e
            refine headR F hi hx' hk h0 hf ?_
            rw [hk', q]
            exact tl_close1 F h
          · cases e
      · rename_i n2
        split at e
        · rename_i q
          have q := wIs_eq q
          subst q
          have hk' : kindI (Str.ofString ":") = 54 := by decide +kernel
          split at e
          · rename_i q; cases e
            rw [Bool.and_eq_true, decide_eq_true_eq] at q
            obtain ⟨q1, q2⟩ := q
            subst q2
            refine headR F hi hx' hk h0 hf ?_
            rw [hk', q1]
            exact tl_colon F h
          · cases e
        · rename_i n3
          split at e
          · rename_i q
            have q := wIs_eq q
            subst q
            have hk' : kindI (Str.ofString ",") = 54 := by decide +kernel
            split at e
            · rename_i q; cases e
              refine headR F hi hx' hk h0 hf ?_
              rw [hk', q]
              exact tl_comma F h
            · cases e
          · rename_i n4
            split at e
            · rename_i q
              have q := wIs_eq q
              subst q
              have hk' : kindI (Str.ofString "=") = 54 := by decide +kernel
              split at e
              · cases e
              · rename_i hn
                rw [Bool.or_eq_true, not_or] at hn
                obtain ⟨hn1, hn2⟩ := hn
                have hn1 : s.ns = false := by simpa using hn1
                have hn2 : s.rs = false := by simpa using hn2
                have hd := differ_eq (q := s.cur) h0
                have hneg : (!decide (g ≠ 0)) = decide (g = 0) := by by_cases z : g = 0 <;> simp [z]
                unfold SGr
                rw [hn1, hn2]
                rw [hk'] at hx'
                split at e
                · rename_i q
                  split at e
                  · rename_i qa; cases e
                    have t := tl_eqNear (toks := toks) (d := d) (a := 1) (b := s.cur) (c := 1) (e := ((s.cur + g.toNat : Nat) : Int)) (l := line ++ Str.ofString "\n") F h
                    rw [hd, hneg] at t
                    rw [q, qa]
                    exact head_off F hi hx' (by decide) t
                  · rename_i qa; cases e
                    have qa : s.an = false := by simpa using qa
                    have t := tl_eqFar1 (toks := toks) (d := d) (a := 1) (b := s.cur) (c := 1) (e := ((s.cur + g.toNat : Nat) : Int)) (l := line ++ Str.ofString "\n") F h
                    rw [hd] at t
                    rw [q, qa]
                    exact head_off F hi hx' (by decide) t
                · split at e
                  · rename_i q; cases e
                    have t := tl_eqFar2 (toks := toks) (d := d) (an := s.an) (a := 1) (b := s.cur) (c := 1) (e := ((s.cur + g.toNat : Nat) : Int)) (l := line ++ Str.ofString "\n") F h
                    rw [hd] at t
                    rw [q]
                    exact head_off F hi hx' (by decide) t
                  · cases e
            · rename_i n5
              cases e
              refine headR F hi hx' hk h0 hf ?_
              by_cases q : w = Str.ofString "1"
              · have hk' : kindI w = 2 := by rw [q]; decide +kernel
                rw [hk']
                exact tl_2 F h
              · have hk' : kindI w = 1 := by
                  unfold kindI
                  rw [if_neg (wIs_ne n1), if_neg (wIs_ne n2), if_neg (wIs_ne n4), if_neg (wIs_ne n3), if_neg (wIs_ne n5), if_neg q]
                rw [hk']
                exact tl_1 F h
end Mine

end
section
open PySem PySem.W PyProof.Rows PySem.Calls PySem.W.X
set_option maxRecDepth 100000
set_option maxHeartbeats 4000000
namespace Mine

noncomputable def spotsR : Nat → Zs → List (Str × Nat)
  | _, [] => []
  | cur, z :: r => (z.1, cur + z.2.toNat) :: spotsR (cur + z.2.toNat + z.1.length) r
noncomputable def curR : Nat → Zs → Nat
  | cur, [] => cur
  | cur, z :: r => curR (cur + z.2.toNat + z.1.length) r
theorem spotsR_snoc : ∀ (zs : Zs) (cur : Nat) (z : Str × Int), spotsR cur (zs ++ [z]) = spotsR cur zs ++ [(z.1, curR cur zs + z.2.toNat)]
  | [], _, _ => rfl
  | y :: r, cur, z => by
    show (y.1, _) :: spotsR _ (r ++ [z]) = _
    rw [spotsR_snoc r]; rfl
theorem curR_snoc : ∀ (zs : Zs) (cur : Nat) (z : Str × Int), curR cur (zs ++ [z]) = curR cur zs + z.2.toNat + z.1.length
  | [], _, _ => rfl
  | y :: r, cur, z => by
    show curR _ (r ++ [z]) = _
    rw [curR_snoc r]; rfl
theorem laid_spots (zs : Zs) (h : ∀ z ∈ zs, 0 ≤ z.2) : ∀ i, i ≤ zs.length → (laid (zs.take i)).2 = spotsR 0 (zs.take i) ∧ (laid (zs.take i)).1.length = curR 0 (zs.take i)
  | 0, _ => by
    refine ⟨rfl, ?_⟩
    show (Str.ofString "").length = 0
    decide +kernel
  | i + 1, hi => by
    have hlt : i < zs.length := by omega
    obtain ⟨h1, h2⟩ := laid_spots zs h i (by omega)
    rw [laid_take hlt, ← List.take_append_getElem hlt, spotsR_snoc, curR_snoc]
    have hm := mul_len (h zs[i] (List.getElem_mem hlt))
    refine ⟨?_, ?_⟩
    · show _ ++ [(_, ((laid (zs.take i)).1 ++ Txt.mul blank zs[i].2).length)] = _
      rw [h1, Str.length_append, hm, h2]
    · show ((_ ++ _) ++ _ : Str).length = _
      rw [Str.length_append, Str.length_append, hm, h2]
theorem toks_spots (zs : Zs) (h : ∀ z ∈ zs, 0 ≤ z.2) : toksP zs = (spotsR 0 zs).map (pvTok (laid zs).1) := by
  have q := (laid_spots zs h zs.length (Nat.le_refl _)).1
  rw [List.take_length] at q
  unfold toksP
  rw [q]

theorem step_cur {d : Bool} {s s' : RS} {z : Str × Int} {o : List PV} (e : stepR d s z = some (o, s')) : s'.cur = s.cur + z.2.toNat + z.1.length := by
  unfold stepR at e
  simp only [] at e
  repeat' split at e
  all_goals first | (cases e; rfl) | cases e

variable {X : GX} {toks : List PV} {d : Bool} {line : Str}

theorem run_LT (F : X.Fix) (hk : X.k (.ok .next) = .pure (.done (.ret .none))) : ∀ (rest : Zs) (i : Nat) (s s' : RS) (outs : List PV), runR d s rest = some (outs, s') → X.xs.drop i = (spotsR s.cur rest).map (pvTok line) → i ≤ X.xs.length → (∀ z ∈ rest, 0 ≤ z.2) → X.LT i (SGr toks d s) outs
  | [], i, s, s', outs, e, hx, hi, hz => by
    cases e
    refine LT.end F hk ?_
    have : (X.xs.drop i).length = 0 := by rw [hx]; rfl
    rw [List.length_drop] at this
    omega
  | z :: r, i, s, s', outs, e, hx, hi, hz => by
    unfold runR at e
    split at e
    · rename_i o s1 e1
      split at e
      · rename_i o' s2 e2
        cases e
        have hx' : X.xs.drop i = pvTok line (z.1, s.cur + z.2.toNat) :: (spotsR (s.cur + z.2.toNat + z.1.length) r).map (pvTok line) := hx
        have hlt : i < X.xs.length := by
          rcases Nat.lt_or_ge i X.xs.length with q | q
          · exact q
          · rw [List.drop_eq_nil_of_le q] at hx'; cases hx'
        rw [List.drop_eq_getElem_cons hlt] at hx'
        obtain ⟨q1, q2⟩ := List.cons.inj hx'
        have hget : X.xs.getD i .none = pvTok line (z.1, s.cur + z.2.toNat) := by
          rw [List.getD_eq_getElem?_getD, List.getElem?_eq_getElem hlt, Option.getD_some, q1]
        refine turnOk (line := line) F hlt hget (hz z (.head _)) e1 (run_LT F hk r (i + 1) s1 s' o' e2 ?_ hlt fun y m => hz y (.tail _ m))
        rw [q2, step_cur e1]
      · cases e
    · cases e

theorem start_LT (F : X.Fix) (hk : X.k (.ok .next) = .pure (.done (.ret .none))) {w : Str} {g : Int} {rest : Zs} {s' : RS} {outs : List PV} (hw : kindI w = 1) (h0 : 0 ≤ g) (e : runR d ⟨false, false, false, 0, g.toNat + w.length⟩ rest = some (outs, s'))
    (hx : X.xs = (spotsR 0 ((w, g) :: rest)).map (pvTok line)) (hz : ∀ z ∈ rest, 0 ≤ z.2) : X.LT 0 (SG toks d false false false .none []) outs := by
  have hlt : 0 < X.xs.length := by rw [hx]; exact Nat.succ_pos _
  have hx0 : X.xs.getD 0 .none = .tok [.int 1, .str w, tp 1 ((0 + g.toNat : Nat) : Int), tp 1 ((g.toNat + w.length : Nat) : Int), .str (line ++ Str.ofString "\n")] := by
    rw [hx]
    show pvTok line (w, 0 + g.toNat) = _
    unfold pvTok tp
    rw [hw]
    simp
  refine head_off F hlt hx0 (by decide) (tl_1 F ?_)
  refine run_LT (line := line) F hk rest 1 ⟨false, false, false, 0, g.toNat + w.length⟩ s' outs e ?_ hlt hz
  rw [hx]
  show (spotsR (0 + g.toNat + w.length) rest).map _ = _
  rw [Nat.zero_add]
end Mine

end
section
open PySem PySem.W PyProof.Rows PySem.Calls PySem.W.X
set_option maxRecDepth 100000
set_option maxHeartbeats 4000000
namespace Mine

noncomputable def gPre : List Stmt := [nth dGen.body 0, nth dGen.body 1, nth dGen.body 2, nth dGen.body 3, nth dGen.body 4, nth dGen.body 5, nth dGen.body 6, nth dGen.body 7, nth dGen.body 8, nth dGen.body 9]
theorem gen_body : dGen.body = gPre ++ [asFor (nth dGen.body 10)] := by kernel_rfl
theorem gen_doc : ∃ dd k p q, nth dGen.body 0 = .Expr (.Constant (.str dd) k p) q := ⟨_, _, _, _, rfl⟩
theorem gen_6 : ∃ xp p rp ap lp p1 p2 pos, nth dGen.body 6 = .Assign [.Name "in_def" xp] (.Call (.Name (Str.ofString "bool") p) [.Call (.Attribute (.Name "STARTSWITH_DEF_REGEX" rp) "match" ap) [.Name "logical_line" lp] [] p1] [] p2) pos ∧ (ap.endLine == p1.line) = true := ⟨_, _, _, _, _, _, _, _, rfl, rfl⟩
theorem gen_7 : ∃ xp p rp ap lp p1 p2 pos, nth dGen.body 7 = .Assign [.Name "in_generic" xp] (.Call (.Name (Str.ofString "bool") p) [.Call (.Attribute (.Name "STARTSWITH_GENERIC_REGEX" rp) "match" ap) [.Name "logical_line" lp] [] p1] [] p2) pos ∧ (ap.endLine == p1.line) = true := ⟨_, _, _, _, _, _, _, _, rfl, rfl⟩
theorem gen_fold (env : Env) (x : Value) : foldedSetIterable (forI (nth dGen.body 10)) env x = pure x := by kernel_rfl

section
variable {w : World} {h₀ : Heap} {mg mb : Str → Option Value} {A : Around} {C : Cx} {L : Addr} {nm : Str} {a : Addr} {cd : Value} {toks : List PV} {d : Bool}

theorem pre_tri (KX : (hd.heap_39 w.params).In h₀) (G : Gd prg w h₀ C.cls T0 mg mb) (rm : Rm (T0.nd + 112) A) :
    Tri prg w A C L h₀ dGen.scope nm a cd gPre ⟨[("tokens", .lst toks), ("logical_line", .str (lineP d))], []⟩ fun P' f => f = .next ∧ P' = SG toks d false false false .none [] := by
  have hk : dGen.scope.kind = .function := by kernel_rfl
  have rm' : Rm (T0.nd + 12) A := rm.less (by omega)
  unfold gPre
  refine Tri.seq (P1 := ⟨[("tokens", .lst toks), ("logical_line", .str (lineP d))], []⟩) ?_ ?_
  · obtain ⟨dd, k, p, q, e⟩ := gen_doc
    rw [e]
    have hint : interactive (envOf nm dGen.scope L a cd) = false := by
      unfold interactive
      show (dGen.scope.kind == .module && _) = false
      rw [hk]; rfl
    refine tri_exec fun ρ s Q E R kk => wpAny_Expr_any (Constant_str ?_) hint rfl
    exact kk _ ⟨rfl, rfl⟩ s.heap (s.toks + 1) ρ R (.of_keep (Keep.refl _)) (fun _ _ _ e => e)
  refine Tri.seqs (x := [nth dGen.body 1, nth dGen.body 2, nth dGen.body 3, nth dGen.body 4, nth dGen.body 5]) (Tri.run G rm' hk 20 20 (g_pre1 toks (lineP d)) ⟨trivial, trivial, trivial, trivial, trivial, trivial⟩ ⟨rfl, rfl⟩) ?_
  have hp : ∀ r : List Stmt, ∀ st, Tri prg w A C L h₀ dGen.scope nm a cd (st :: r) = Tri prg w A C L h₀ dGen.scope nm a cd (st :: r) := fun _ _ => rfl
  have hk0 := G.g
  refine Tri.seq (P1 := ⟨[("tokens", .lst toks), ("logical_line", .str (lineP d)), ("paren_stack", .ml 0), ("no_space", .bool false), ("require_space", .bool false), ("prev_end", .none), ("annotated_func_arg", .bool false), ("in_def", .bool d)], [[]]⟩) ?_ ?_
  · obtain ⟨xp, p, rp, ap, lp, q1, q2, pos, e, hln⟩ := gen_6
    rw [e]
    obtain ⟨src, t1, fl, t2, o, items, n, h1, h2, _⟩ := rx180 w.params
    refine Tri.asgN hk (by kernel_rfl) rfl (rx_ev (pa := 180) (x := lineP d) (b := d) G rm hk (mg_of KX hk0 (ns180 _)) (by kernel_rfl) (by kernel_rfl) (by kernel_rfl) (KX _ _ h1) rfl rfl rfl hln (says180 KX d)) ?_
    rintro P' v ⟨rfl, rfl⟩
    exact ⟨rfl, rfl⟩
  refine Tri.seq (P1 := ⟨[("tokens", .lst toks), ("logical_line", .str (lineP d)), ("paren_stack", .ml 0), ("no_space", .bool false), ("require_space", .bool false), ("prev_end", .none), ("annotated_func_arg", .bool false), ("in_def", .bool d), ("in_generic", .bool false)], [[]]⟩) ?_ ?_
  · obtain ⟨xp, p, rp, ap, lp, q1, q2, pos, e, hln⟩ := gen_7
    rw [e]
    obtain ⟨src, t1, fl, t2, o, items, n, h1, h2, _⟩ := rx185 w.params
    refine Tri.asgN hk (by kernel_rfl) rfl (rx_ev (pa := 185) (x := lineP d) (b := false) G rm hk (mg_of KX hk0 (ns185 _)) (by kernel_rfl) (by kernel_rfl) (by kernel_rfl) (KX _ _ h1) rfl rfl rfl hln (says185 KX d)) ?_
    rintro P' v ⟨rfl, rfl⟩
    exact ⟨rfl, rfl⟩
  exact Tri.run G rm' hk 20 20 (g_pre2 toks (lineP d) d false) ⟨trivial, trivial, trivial⟩ ⟨rfl, rfl⟩

/-- the whole run of the generator -/
theorem gen_run {hB : Heap} {R : Addr} (KX : (hd.heap_39 w.params).In h₀) (G : Gd prg w h₀ C.cls T0 mg mb) (rm : Rm (T0.nd + 120) A) (hR0 : h₀.get? R = none) {line : Str} {w0 : Str} {g0 : Int} {rest : Zs} {s' : RS} {outs : List PV}
    (hw : kindI w0 = 1) (h0 : 0 ≤ g0) (e : runR d ⟨false, false, false, 0, g0.toNat + w0.length⟩ rest = some (outs, s')) (hx : toks = (spotsR 0 ((w0, g0) :: rest)).map (pvTok line)) (hz : ∀ z ∈ rest, 0 ≤ z.2)
    {s : Shared} (GI0 : GI hB R h₀ C [] L ⟨[("tokens", .lst toks), ("logical_line", .str (lineP d))], []⟩ s.heap) :
    SegX (model prg w) A (.func dGen.body (envOf nm dGen.scope L a cd)) (denote table (.func dGen.body (envOf nm dGen.scope L a cd))) [] s (GPost prg w A hB L R outs s) := by
  have hk : dGen.scope.kind = .function := by kernel_rfl
  have room : Rm (T0.nd + 112) (A.over (.func dGen.body (envOf nm dGen.scope L a cd)) []) := func_room (rm.less (by omega))
  refine x_func ?_
  have ee : execs dGen.body (envOf nm dGen.scope L a cd) = execs (gPre ++ [asFor (nth dGen.body 10)]) (envOf nm dGen.scope L a cd) := congrArg (fun t => execs t (envOf nm dGen.scope L a cd)) gen_body
  rw [ee]
  refine x_append (pre_tri (d := d) (toks := toks) KX G room [] s _ _ GI0.rl fun P' f hpf fl h' tk ρ' R' S' Pr' F' => ?_)
  obtain ⟨rfl, rfl⟩ := hpf
  cases F'
  obtain ⟨G1, i1⟩ := GI0.step R' S' Pr'
  refine SegX.mono ?_ fun _ _ q => GPost.from i1 (Only.mk' s h' tk) q
  refine x_For (target := forT (nth dGen.body 10)) (iter := forI (nth dGen.body 10)) (body := gB) (r := []) (gen_fold _) rfl ?_
  refine evP_ok G (room.less (by omega)) hk 20 (g_iter toks d false false false .none []) trivial G1.rl fun u h2 tk2 K2 V2 => ?_
  obtain ⟨G2, i2⟩ := G1.step (G1.rl.keep K2) (.of_keep K2) (pres_keep K2)
  cases V2 with
  | lst ha hn hv =>
    rename_i l vs
    refine wpAny_pyIter_list ha ?_
    obtain ⟨n1, n2, n3, n4⟩ := new_facts G2.rl (b := h2.objs.size) (Heap.get?_none_of_le (Nat.le_refl _))
    have K3 : Keep h2 (h2.push { cls := .type "list_iterator", data := .fields #[.ref l, .int 0 0] }) := Keep.push _ _
    obtain ⟨G3, i3⟩ := G2.step (G2.rl.keep K3) (.of_keep K3) (pres_keep K3)
    intro k lv p hkk
    have hIB : hB.get? h2.objs.size = none := by
      cases q : hB.get? h2.objs.size with
      | none => rfl
      | some o =>
        have := G2.domB _ (by rw [q]; rfl)
        rw [Heap.get?_none_of_le (Nat.le_refl _)] at this; cases this
    have hIR : h2.objs.size ≠ R := fun q => by
      have := G2.rl.exd R G2.inEx
      rw [← q, Heap.get?_none_of_le (Nat.le_refl _)] at this; cases this
    have hlR : l ≠ R := fun q => hn.2 (q ▸ G2.inEx)
    have F : (GX.mk w A hB L R h₀ C mg mb nm a cd h2.objs.size l toks vs k lv p).Fix := ⟨G, rm.less (by omega), hk, by kernel_rfl, n2, hIR, n3, hIB, n4, hR0, hlR⟩
    refine SegX.mono (start_LT (X := GX.mk w A hB L R h₀ C mg mb nm a cd h2.objs.size l toks vs k lv p) (toks := toks) (d := d) (line := line) F hkk hw h0 e hx hz _ { s with heap := h2.push { cls := .type "list_iterator", data := .fields #[.ref l, .int 0 0] }, toks := tk2 } G3 ⟨⟨_, Heap.get?_push_size _ rfl, rfl, rfl⟩, n1, ha.at fun o e => K3 _ o e, hn, hv.keep K3⟩) fun _ _ q => ?_
    exact GPost.from (i2.trans i3) (Only.mk' { s with heap := h', toks := tk } _ tk2) q
end
end Mine

end
section
open PySem PySem.W PyProof.Rows PySem.Calls PySem.W.X
set_option maxRecDepth 100000
set_option maxHeartbeats 4000000
namespace Mine

noncomputable def gapAt (zs : Zs) (i : Nat) : Int := (zs.getD i (Str.ofString "", 0)).2
noncomputable def dueAt (zs : Zs) (s : Nat) (t : Bool) : List PV := if decide (gapAt zs s = 0) == t then [.tup [tp 1 (curR 0 (zs.take s)), .str (if t then near else far)]] else []
noncomputable def dueP (zs : Zs) (ak : Ak) : List PV := ak.flatMap fun p => dueAt zs p.1 p.2 ++ dueAt zs (p.1 + 1) p.2

theorem dueAt_app {zs y : Zs} {s : Nat} {t : Bool} (h : s < zs.length) : dueAt (zs ++ y) s t = dueAt zs s t := by
  unfold dueAt gapAt
  have e1 : (zs ++ y).getD s (Str.ofString "", 0) = zs.getD s (Str.ofString "", 0) := by
    simp [List.getD_eq_getElem?_getD, List.getElem?_append_left h]
  have e2 : (zs ++ y).take s = zs.take s := by rw [List.take_append_of_le_length (Nat.le_of_lt h)]
  rw [e1, e2]
theorem dueP_app {zs y : Zs} {ak : Ak} (h : ∀ p ∈ ak, p.1 + 1 < zs.length) : dueP (zs ++ y) ak = dueP zs ak := by
  unfold dueP
  induction ak with
  | nil => rfl
  | cons p r ih =>
    have h1 := h p (.head _)
    rw [List.flatMap_cons, List.flatMap_cons, ih fun q m => h q (.tail _ m), dueAt_app (by omega), dueAt_app h1]
theorem dueP_snoc (zs : Zs) (ak : Ak) (p : Nat × Bool) : dueP zs (ak ++ [p]) = dueP zs ak ++ (dueAt zs p.1 p.2 ++ dueAt zs (p.1 + 1) p.2) := by
  unfold dueP
  rw [List.flatMap_append]; simp

theorem runR_app (d : Bool) : ∀ (a b : Zs) (s s1 s2 : RS) (o o' : List PV), runR d s a = some (o, s1) → runR d s1 b = some (o', s2) → runR d s (a ++ b) = some (o ++ o', s2)
  | [], b, s, s1, s2, o, o', e1, e2 => by cases e1; exact e2
  | z :: r, b, s, s1, s2, o, o', e1, e2 => by
    unfold runR at e1
    split at e1
    · rename_i oz sz ez
      split at e1
      · rename_i o3 s3 e3
        cases e1
        have := runR_app d r b sz _ s2 o3 o' e3 e2
        show runR d s (z :: (r ++ b)) = _
        unfold runR
        rw [ez]
        simp only [this, List.append_assoc]
      · cases e1
    · cases e1
theorem runR_cur {d : Bool} : ∀ {a : Zs} {s s1 : RS} {o : List PV}, runR d s a = some (o, s1) → s1.cur = curR s.cur a
  | [], s, s1, o, e => by cases e; rfl
  | z :: r, s, s1, o, e => by
    unfold runR at e
    split at e
    · rename_i oz sz ez
      split at e
      · rename_i o3 s3 e3
        cases e
        rw [runR_cur e3, step_cur ez]; rfl
      · cases e
    · cases e
theorem curR_app : ∀ (a b : Zs) (c : Nat), curR c (a ++ b) = curR (curR c a) b
  | [], _, _ => rfl
  | z :: r, b, c => by show curR _ (r ++ b) = _; rw [curR_app r]; rfl

section
variable {d : Bool} {an : Bool} {n cur : Nat} {g : Int}
theorem s_comma : stepR d ⟨false, false, an, 1, cur⟩ (wd "," g) = some ([], ⟨false, false, false, 1, cur + g.toNat + 1⟩) := by kernel_rfl
theorem s_a : stepR d ⟨false, false, an, n, cur⟩ (wd "a" g) = some ([], ⟨false, false, an, n, cur + g.toNat + 1⟩) := by kernel_rfl
theorem s_c : stepR d ⟨false, false, an, n, cur⟩ (wd "c" g) = some ([], ⟨false, false, an, n, cur + g.toNat + 1⟩) := by kernel_rfl
theorem s_int : stepR d ⟨false, false, an, n, cur⟩ (wd "int" g) = some ([], ⟨false, false, an, n, cur + g.toNat + 3⟩) := by kernel_rfl
theorem s_def : stepR d ⟨false, false, an, n, cur⟩ (wd "def" g) = some ([], ⟨false, false, an, n, cur + g.toNat + 3⟩) := by kernel_rfl
theorem s_f : stepR d ⟨false, false, an, n, cur⟩ (wd "f" g) = some ([], ⟨false, false, an, n, cur + g.toNat + 1⟩) := by kernel_rfl
theorem s_colon : stepR true ⟨false, false, an, 1, cur⟩ (wd ":" g) = some ([], ⟨false, false, true, 1, cur + g.toNat + 1⟩) := by kernel_rfl
theorem s_open0 : stepR d ⟨false, false, an, 0, cur⟩ (wd "(" g) = some ([], ⟨false, false, an, 1, cur + g.toNat + 1⟩) := by kernel_rfl
theorem s_open1 : stepR d ⟨false, false, an, 1, cur⟩ (wd "(" g) = some ([], ⟨false, false, an, 2, cur + g.toNat + 1⟩) := by kernel_rfl
theorem s_close2 : stepR d ⟨false, false, an, 2, cur⟩ (wd ")" g) = some ([], ⟨false, false, an, 1, cur + g.toNat + 1⟩) := by kernel_rfl
theorem s_close1 : stepR d ⟨false, false, an, 1, cur⟩ (wd ")" g) = some ([], ⟨false, false, false, 0, cur + g.toNat + 1⟩) := by kernel_rfl
theorem s_eqT : stepR d ⟨false, false, true, 1, cur⟩ (wd "=" g) = some (outNear (decide (g = 0)) 1 cur, ⟨false, true, true, 1, cur + g.toNat + 1⟩) := by kernel_rfl
theorem s_eqF : stepR d ⟨false, false, false, 1, cur⟩ (wd "=" g) = some (outFar (decide (g ≠ 0)) 1 cur, ⟨true, false, false, 1, cur + g.toNat + 1⟩) := by kernel_rfl
theorem s_eq2 : stepR d ⟨false, false, an, 2, cur⟩ (wd "=" g) = some (outFar (decide (g ≠ 0)) 1 cur, ⟨true, false, an, 2, cur + g.toNat + 1⟩) := by kernel_rfl
theorem s_1T : stepR d ⟨false, true, an, n, cur⟩ (wd "1" g) = some (outNear (decide (g = 0)) 1 cur, ⟨false, false, an, n, cur + g.toNat + 1⟩) := by kernel_rfl
theorem s_1F : stepR d ⟨true, false, an, n, cur⟩ (wd "1" g) = some (outFar (decide (g ≠ 0)) 1 cur ++ [], ⟨false, false, an, n, cur + g.toNat + 1⟩) := by kernel_rfl
theorem s_gT : stepR d ⟨false, true, an, n, cur⟩ (wd "g" g) = some (outNear (decide (g = 0)) 1 cur, ⟨false, false, an, n, cur + g.toNat + 1⟩) := by kernel_rfl
theorem s_gF : stepR d ⟨true, false, an, n, cur⟩ (wd "g" g) = some (outFar (decide (g ≠ 0)) 1 cur ++ [], ⟨false, false, an, n, cur + g.toNat + 1⟩) := by kernel_rfl
end
end Mine

end
section
open PySem PySem.W PyProof.Rows PySem.Calls PySem.W.X
set_option maxRecDepth 100000
set_option maxHeartbeats 4000000
namespace Mine

noncomputable def pairT (t : Bool) (g : Int) (c : Nat) : List PV := if decide (g = 0) == t then [.tup [tp 1 c, .str (if t then near else far)]] else []
theorem near_pair (g : Int) (c : Nat) : outNear (decide (g = 0)) 1 c = pairT true g c := by
  unfold outNear pairT
  by_cases q : g = 0 <;> simp [q]
theorem far_pair (g : Int) (c : Nat) : outFar (decide (g ≠ 0)) 1 c = pairT false g c := by
  unfold outFar pairT
  by_cases q : g = 0 <;> simp [q]
theorem run_cons {d : Bool} {s s1 s2 : RS} {z : Str × Int} {r : Zs} {o o' : List PV} (e : stepR d s z = some (o, s1)) (e2 : runR d s1 r = some (o', s2)) : runR d s (z :: r) = some (o ++ o', s2) := by
  unfold runR
  rw [e]
  simp only [e2]
theorem run_nil {d : Bool} {s : RS} : runR d s [] = some ([], s) := rfl

/-- equals with what stands behind it, in the outer call -/
theorem run_eq1 (d t : Bool) (g1 g2 : Int) (c : Nat) : runR d ⟨false, false, t, 1, c⟩ [wd "=" g1, wd "1" g2] = some (pairT t g1 c ++ pairT t g2 (c + g1.toNat + 1), ⟨false, false, t, 1, c + g1.toNat + 1 + g2.toNat + 1⟩) := by
  cases t with
  | true => rw [run_cons s_eqT (run_cons s_1T run_nil), near_pair, near_pair, List.append_nil]
  | false => rw [run_cons s_eqF (run_cons s_1F run_nil), far_pair, far_pair, List.append_nil, List.append_nil]
theorem run_eqg (d t : Bool) (g1 g2 : Int) (c : Nat) : runR d ⟨false, false, t, 1, c⟩ [wd "=" g1, wd "g" g2] = some (pairT t g1 c ++ pairT t g2 (c + g1.toNat + 1), ⟨false, false, t, 1, c + g1.toNat + 1 + g2.toNat + 1⟩) := by
  cases t with
  | true => rw [run_cons s_eqT (run_cons s_gT run_nil), near_pair, near_pair, List.append_nil]
  | false => rw [run_cons s_eqF (run_cons s_gF run_nil), far_pair, far_pair, List.append_nil, List.append_nil]
theorem run_eq2 (d an : Bool) (g1 g2 : Int) (c : Nat) : runR d ⟨false, false, an, 2, c⟩ [wd "=" g1, wd "1" g2] = some (pairT false g1 c ++ pairT false g2 (c + g1.toNat + 1), ⟨false, false, an, 2, c + g1.toNat + 1 + g2.toNat + 1⟩) := by
  rw [run_cons s_eq2 (run_cons s_1F run_nil), far_pair, far_pair, List.append_nil, List.append_nil]

theorem dueAt_mid (z y : Zs) (w : Str × Int) (t : Bool) : dueAt (z ++ w :: y) z.length t = pairT t w.2 (curR 0 z) := by
  unfold dueAt gapAt pairT
  have e1 : (z ++ w :: y).getD z.length (Str.ofString "", 0) = w := by simp [List.getD_eq_getElem?_getD]
  have e2 : (z ++ w :: y).take z.length = z := by simp
  rw [e1, e2]
/-- the two places of an equals -/
theorem due_two (z y : Zs) (w1 w2 : Str × Int) (t : Bool) : dueAt (z ++ w1 :: w2 :: y) z.length t ++ dueAt (z ++ w1 :: w2 :: y) (z.length + 1) t = pairT t w1.2 (curR 0 z) ++ pairT t w2.2 (curR 0 z + w1.2.toNat + w1.1.length) := by
  rw [dueAt_mid]
  have e : z ++ w1 :: w2 :: y = (z ++ [w1]) ++ w2 :: y := by simp
  have e2 : z.length + 1 = (z ++ [w1]).length := by simp
  rw [e, e2, dueAt_mid, curR_snoc]

/-- what is so of the words that are built -/
structure PI (d : Bool) (z : Zs × Ak) (an : Bool) : Prop where
  run : runR d ⟨false, false, false, 0, 0⟩ z.1 = some (dueP z.1 z.2, ⟨false, false, an, 1, curR 0 z.1⟩)
  idx : ∀ p ∈ z.2, p.1 + 1 < z.1.length
theorem PI.app {d an an' : Bool} {z : Zs × Ak} {y : Zs} (I : PI d z an) (e : ∀ c, runR d ⟨false, false, an, 1, c⟩ y = some ([], ⟨false, false, an', 1, curR c y⟩)) : PI d (z.1 ++ y, z.2) an' := by
  refine ⟨?_, fun p m => ?_⟩
  · rw [runR_app d _ _ _ _ _ _ _ I.run (e _), List.append_nil, dueP_app I.idx, curR_app]
  · have := I.idx p m
    rw [List.length_append]; omega
end Mine

end
section
open PySem PySem.W PyProof.Rows PySem.Calls PySem.W.X
set_option maxRecDepth 100000
set_option maxHeartbeats 4000000
namespace Mine

/-- what is so of the words that are built, at a depth -/
structure PN (d : Bool) (n : Nat) (z : Zs × Ak) (an : Bool) : Prop where
  run : runR d ⟨false, false, false, 0, 0⟩ z.1 = some (dueP z.1 z.2, ⟨false, false, an, n, curR 0 z.1⟩)
  idx : ∀ p ∈ z.2, p.1 + 1 < z.1.length
theorem PN.app {d an an' : Bool} {n n' : Nat} {z : Zs × Ak} (y : Zs) (I : PN d n z an) (e : ∀ c, runR d ⟨false, false, an, n, c⟩ y = some ([], ⟨false, false, an', n', curR c y⟩)) : PN d n' (z.1 ++ y, z.2) an' := by
  refine ⟨?_, fun p m => ?_⟩
  · rw [runR_app d _ _ _ _ _ _ _ I.run (e _), List.append_nil, dueP_app I.idx, curR_app]
  · have := I.idx p m
    rw [List.length_append]; omega
theorem PN.eqs {d an t : Bool} {n : Nat} {z : Zs × Ak} {w1 w2 : Str × Int} (I : PN d n z an) (h1 : w1.1.length = 1) (h2 : w2.1.length = 1)
    (e : ∀ c, runR d ⟨false, false, an, n, c⟩ [w1, w2] = some (pairT t w1.2 c ++ pairT t w2.2 (c + w1.2.toNat + 1), ⟨false, false, an, n, c + w1.2.toNat + 1 + w2.2.toNat + 1⟩)) :
    PN d n (z.1 ++ [w1, w2], z.2 ++ [(z.1.length, t)]) an := by
  have hc : curR 0 (z.1 ++ [w1, w2]) = curR 0 z.1 + w1.2.toNat + 1 + w2.2.toNat + 1 := by
    rw [curR_app]
    show curR 0 z.1 + w1.2.toNat + w1.1.length + w2.2.toNat + w2.1.length = _
    rw [h1, h2]
  refine ⟨?_, fun p m => ?_⟩
  · rw [runR_app d _ _ _ _ _ _ _ I.run (e _), dueP_snoc, dueP_app I.idx, due_two, hc, h1]
  · show _ < (z.1 ++ [w1, w2]).length
    rw [List.length_append]
    rcases List.mem_append.1 m with m | m
    · have := I.idx p m
      omega
    · cases List.mem_singleton.1 m
      show z.1.length + 1 < z.1.length + 2
      omega

theorem e_comma {d an : Bool} (g : Int) (c : Nat) : runR d ⟨false, false, an, 1, c⟩ [wd "," g] = some ([], ⟨false, false, false, 1, curR c [wd "," g]⟩) := (run_cons s_comma run_nil).trans (by kernel_rfl)
theorem e_a {d an : Bool} {n : Nat} (g : Int) (c : Nat) : runR d ⟨false, false, an, n, c⟩ [wd "a" g] = some ([], ⟨false, false, an, n, curR c [wd "a" g]⟩) := (run_cons s_a run_nil).trans (by kernel_rfl)
theorem e_ann {an : Bool} (g g2 : Int) (c : Nat) : runR true ⟨false, false, an, 1, c⟩ [wd ":" g, wd "int" g2] = some ([], ⟨false, false, true, 1, curR c [wd ":" g, wd "int" g2]⟩) := (run_cons s_colon (run_cons s_int run_nil)).trans (by kernel_rfl)
theorem e_open {d an : Bool} (g g2 : Int) (c : Nat) : runR d ⟨false, false, an, 1, c⟩ [wd "(" g, wd "c" g2] = some ([], ⟨false, false, an, 2, curR c [wd "(" g, wd "c" g2]⟩) := (run_cons s_open1 (run_cons s_c run_nil)).trans (by kernel_rfl)
theorem e_close {d an : Bool} (g : Int) (c : Nat) : runR d ⟨false, false, an, 2, c⟩ [wd ")" g] = some ([], ⟨false, false, an, 1, curR c [wd ")" g]⟩) := (run_cons s_close2 run_nil).trans (by kernel_rfl)
theorem e_last {d an : Bool} (g : Int) (c : Nat) : runR d ⟨false, false, an, 1, c⟩ [wd ")" g] = some ([], ⟨false, false, false, 0, curR c [wd ")" g]⟩) := (run_cons s_close1 run_nil).trans (by kernel_rfl)

theorem PN.hd {d an : Bool} {i : Nat} {n : Int} {z : Zs × Ak} (I : PN d 1 z an) (h : i = 0 → an = false) : PN d 1 (hdP d i n z.1, z.2) (isT d n) := by
  have I1 : PN d 1 ((if 0 < i then z.1 ++ [wd "," 0] else z.1), z.2) false := by
    by_cases q : 0 < i
    · rw [if_pos q]; exact I.app [wd "," 0] (e_comma 0)
    · rw [if_neg q]; cases h (by omega); exact I
  have I2 := I1.app [wd "a" (if 0 < i then 1 else 0)] (e_a _)
  unfold hdP
  by_cases q : isT d n = true
  · rw [if_pos q, q]
    have hd : d = true := by
      unfold isT at q
      rw [Bool.and_eq_true] at q
      exact q.1
    cases hd
    exact I2.app [wd ":" 0, wd "int" 1] (e_ann 0 1)
  · rw [if_neg q, List.append_nil, Bool.eq_false_iff.2 q]
    exact I2
theorem PN.eq1 {d t : Bool} {z : Zs × Ak} (n : Int) (I : PN d 1 z t) : PN d 1 (eqP z n t) t := I.eqs (by kernel_rfl) (by kernel_rfl) fun c => run_eq1 d t _ _ c
theorem PN.eqg {d t : Bool} {z : Zs × Ak} (g1 g2 : Int) (I : PN d 1 z t) : PN d 1 (z.1 ++ [wd "=" g1, wd "g" g2], z.2 ++ [(z.1.length, t)]) t := I.eqs (by kernel_rfl) (by kernel_rfl) fun c => run_eqg d t _ _ c
theorem PN.eq2 {d an : Bool} {z : Zs × Ak} (n : Int) (I : PN d 2 z an) : PN d 2 (eqP z n false) an := I.eqs (by kernel_rfl) (by kernel_rfl) fun c => run_eq2 d an _ _ c

theorem PN.arg {d an : Bool} {i : Nat} {n m : Int} {z : Zs × Ak} (I : PN d 1 z an) (h : i = 0 → an = false) : PN d 1 (argPP d i n m z) (isT d n) := by
  have I3 := PN.hd (n := n) I h
  unfold argPP
  simp only []
  split
  · split
    · have I4 := PN.eqg ((n.fdiv 2).fmod 3) (((n.fdiv 2).fdiv 3).fmod 3) I3
      have I5 := I4.app [wd "(" 0, wd "c" 0] (e_open 0 0)
      have I6 := PN.eq2 (m.fdiv 4) I5
      have I7 := I6.app [wd ")" 0] (e_close 0)
      simp only [List.append_assoc, List.cons_append, List.nil_append] at I7
      exact I7
    · exact PN.eq1 _ I3
  · exact I3
theorem iter_PN (ns : List Int) (d : Bool) : ∀ i, ∃ an, PN d 1 (iterP ns d i) an ∧ (i = 0 → an = false)
  | 0 => by
    refine ⟨false, ⟨?_, fun p m => by cases m⟩, fun _ => rfl⟩
    cases d with
    | true => exact (run_cons s_def (run_cons s_f (run_cons s_open0 run_nil))).trans (by kernel_rfl)
    | false => exact (run_cons s_f (run_cons s_open0 run_nil)).trans (by kernel_rfl)
  | i + 1 => by
    obtain ⟨an, I, h⟩ := iter_PN ns d i
    exact ⟨_, I.arg h, fun q => by cases q⟩
theorem built_PN (ns : List Int) : PN (defP ns) 0 (builtZ ns, builtA ns) false := by
  obtain ⟨an, I, _⟩ := iter_PN ns (defP ns) (nArgs ns)
  exact I.app [wd ")" 0] (e_last 0)

-- the first word apart
noncomputable def fstW (d : Bool) : Str := if d then Str.ofString "def" else Str.ofString "f"
theorem iter_fst (ns : List Int) (d : Bool) : ∀ i, ∃ r, (iterP ns d i).1 = (fstW d, 0) :: r
  | 0 => by cases d <;> exact ⟨_, rfl⟩
  | i + 1 => by
    obtain ⟨r, e⟩ := iter_fst ns d i
    have h : ∀ (z : Zs × Ak) n m, (∃ r, z.1 = (fstW d, 0) :: r) → ∃ r, (argPP d i n m z).1 = (fstW d, 0) :: r := by
      intro z n m ⟨r, e⟩
      have h3 : ∃ r, hdP d i n z.1 = (fstW d, 0) :: r := by
        unfold hdP
        rw [e]
        split <;> exact ⟨_, rfl⟩
      obtain ⟨r3, e3⟩ := h3
      unfold argPP
      simp only []
      rw [e3]
      split
      · split <;> exact ⟨_, rfl⟩
      · exact ⟨_, rfl⟩
    exact h _ _ _ ⟨r, e⟩
theorem built_fst (ns : List Int) : ∃ r, builtZ ns = (fstW (defP ns), 0) :: r := by
  obtain ⟨r, e⟩ := iter_fst ns (defP ns) (nArgs ns)
  unfold builtZ
  rw [e]
  exact ⟨_, rfl⟩
theorem fst_kind (d : Bool) : kindI (fstW d) = 1 := by cases d <;> decide +kernel
theorem fst_run {d : Bool} {r : Zs} {o : List PV} {s : RS} (e : runR d ⟨false, false, false, 0, 0⟩ ((fstW d, 0) :: r) = some (o, s)) : runR d ⟨false, false, false, 0, (0 : Int).toNat + (fstW d).length⟩ r = some (o, s) := by
  cases d with
  | true =>
    unfold runR at e
    have q : stepR true ⟨false, false, false, 0, 0⟩ (fstW true, 0) = some ([], ⟨false, false, false, 0, (0 : Int).toNat + (fstW true).length⟩) := by kernel_rfl
    rw [q] at e
    simp only at e
    split at e
    · rename_i o' s' e'
      rw [e', ← e]; rfl
    · cases e
  | false =>
    unfold runR at e
    have q : stepR false ⟨false, false, false, 0, 0⟩ (fstW false, 0) = some ([], ⟨false, false, false, 0, (0 : Int).toNat + (fstW false).length⟩) := by kernel_rfl
    rw [q] at e
    simp only at e
    split at e
    · rename_i o' s' e'
      rw [e', ← e]; rfl
    · cases e
/-- the run as the generator needs it -/
theorem built_run (ns : List Int) : ∃ r s', builtZ ns = (fstW (defP ns), 0) :: r ∧ runR (defP ns) ⟨false, false, false, 0, (0 : Int).toNat + (fstW (defP ns)).length⟩ r = some (dueP (builtZ ns) (builtA ns), s') := by
  obtain ⟨r, e⟩ := built_fst ns
  have I := (built_PN ns).run
  refine ⟨r, _, e, fst_run (s := ⟨false, false, false, 0, curR 0 (builtZ ns)⟩) ?_⟩
  rw [← e]
  exact I

-- the words are good
noncomputable def GoodW1 (z : Str × Int) : Prop := z.1 ∈ wordsAll.map Str.ofString ∧ 0 ≤ z.2 ∧ z.2 ≤ 2
theorem gw (x : String) (g : Int) (h : Str.ofString x ∈ wordsAll.map Str.ofString) (h0 : 0 ≤ g) (h2 : g ≤ 2) : GoodW1 (wd x g) := ⟨h, h0, h2⟩
theorem fm3 (n : Int) : 0 ≤ n.fmod 3 ∧ n.fmod 3 ≤ 2 := by
  have h1 := Int.fmod_nonneg_of_pos n (show (0 : Int) < 3 by decide)
  have h2 := Int.fmod_lt_of_pos n (show (0 : Int) < 3 by decide)
  omega
noncomputable def GoodL (z : Zs) : Prop := ∀ x ∈ z, GoodW1 x
theorem GoodL.app {a b : Zs} (h1 : GoodL a) (h2 : GoodL b) : GoodL (a ++ b) := fun x m => (List.mem_append.1 m).elim (h1 x) (h2 x)
theorem GoodL.cons {x : Str × Int} {b : Zs} (h1 : GoodW1 x) (h2 : GoodL b) : GoodL (x :: b) := fun y m => by
  cases m with
  | head => exact h1
  | tail _ m => exact h2 y m
theorem GoodL.nil : GoodL [] := fun _ m => by cases m
theorem hd_good {d : Bool} {i : Nat} {n : Int} {z : Zs} (h : GoodL z) : GoodL (hdP d i n z) := by
  have h1 : GoodL (if 0 < i then z ++ [wd "," 0] else z) := by
    split
    · exact h.app (.cons (gw _ _ (by decide +kernel) (by decide) (by decide)) .nil)
    · exact h
  have h2 := h1.app (.cons (gw "a" (if 0 < i then 1 else 0) (by decide +kernel) (by split <;> decide) (by split <;> decide)) .nil)
  refine h2.app ?_
  split
  · exact .cons (gw _ _ (by decide +kernel) (by decide) (by decide)) (.cons (gw _ _ (by decide +kernel) (by decide) (by decide)) .nil)
  · exact .nil
theorem eq_good {z : Zs × Ak} (n : Int) (t : Bool) (h : GoodL z.1) : GoodL (eqP z n t).1 :=
  h.app (.cons (gw _ _ (by decide +kernel) (fm3 _).1 (fm3 _).2) (.cons (gw _ _ (by decide +kernel) (fm3 _).1 (fm3 _).2) .nil))
theorem arg_good {d : Bool} {i : Nat} {n m : Int} {z : Zs × Ak} (h : GoodL z.1) : GoodL (argPP d i n m z).1 := by
  have h3 := hd_good (d := d) (i := i) (n := n) h
  unfold argPP
  simp only []
  split
  · split
    · refine GoodL.app (eq_good _ _ ?_) (.cons (gw _ _ (by decide +kernel) (by decide) (by decide)) .nil)
      exact h3.app (.cons (gw _ _ (by decide +kernel) (fm3 _).1 (fm3 _).2) (.cons (gw _ _ (by decide +kernel) (fm3 _).1 (fm3 _).2) (.cons (gw _ _ (by decide +kernel) (by decide) (by decide)) (.cons (gw _ _ (by decide +kernel) (by decide) (by decide)) .nil))))
    · exact eq_good _ _ h3
  · exact h3
theorem iter_good (ns : List Int) (d : Bool) : ∀ i, GoodL (iterP ns d i).1
  | 0 => by
    cases d with
    | true => exact .cons (gw _ _ (by decide +kernel) (by decide) (by decide)) (.cons (gw _ _ (by decide +kernel) (by decide) (by decide)) (.cons (gw _ _ (by decide +kernel) (by decide) (by decide)) .nil))
    | false => exact .cons (gw _ _ (by decide +kernel) (by decide) (by decide)) (.cons (gw _ _ (by decide +kernel) (by decide) (by decide)) .nil)
  | i + 1 => arg_good (iter_good ns d i)
theorem built_len (ns : List Int) : (builtZ ns).length ≤ 48 ∧ (builtA ns).length ≤ 8 := by
  have h1 := iterP_len ns (defP ns) (nArgs ns)
  have h2 := nArgs_le ns
  unfold builtZ builtA
  rw [List.length_append]
  show _ + 1 ≤ 48 ∧ _
  omega
theorem built_good (ns : List Int) : GoodZ (builtZ ns) := by
  refine ⟨fun z m => ?_, Nat.le_trans (built_len ns).1 (by decide)⟩
  exact (iter_good ns (defP ns) (nArgs ns)).app (.cons (gw ")" 0 (by decide +kernel) (by decide) (by decide)) .nil) z m
theorem built_idx (ns : List Int) : ∀ p ∈ builtA ns, p.1 + 1 < (builtZ ns).length := (built_PN ns).idx
end Mine

end
section
open PySem PySem.W PyProof.Rows PySem.Calls PySem.W.X
set_option maxRecDepth 100000
set_option maxHeartbeats 4000000
namespace Mine
section
variable {w : World} {A : Around} {s : Shared} {C : Cx} {ρ : List Addr} {h₀ : Heap} {mg : Str → Option Value} {a : Addr} {cd : Value}

/-- the frame of the generator, just made -/
noncomputable abbrev gP (toks : List PV) (line : Str) : PS := ⟨[("tokens", .lst toks), ("logical_line", .str line)], []⟩
theorem gen_call (hF : FnAt h₀ mg dGen.name dGen.params dGen.body dGen.scope a cd) (hlim : h₀.NoLimit) {line : Str} {toks : List PV} (hno : noMls toks = true)
    {us : List Value} {Q : Value → Shared → Prop} {E : Value → Shared → Prop} {k : Nat} (rm : Rm k A) (hk0 : Keep h₀ s.heap) (hsz : h₀.objs.size ≤ s.heap.objs.size) (hC : C.cls = 172) (hd : ∀ a, Free C ρ a ∨ (s.heap.get? a).isSome = true) (hv : VRs C ρ s.heap [.str line, .lst toks] us)
    (h : ∀ h' tk L ga, Keep s.heap h' → s.heap.get? L = none → s.heap.get? ga = none → ga ≠ L → h'.IsGen ga s.gens.size → Rl h₀ ⟨172, ρ ++ C.ex⟩ [] L (gP toks line) h' →
      Q (.ref ga) { s with heap := h', toks := tk, gens := s.gens.push (.fresh (.func dGen.body (envOf dGen.name dGen.scope L a cd))) }) : wpAny (model prg w) A (PySem.call (.ref a) us) Q E s := by
  obtain ⟨o, pm, doc, ho, hdata⟩ := hF.obj
  obtain ⟨u1, u2, rfl⟩ := two hv.length
  refine wpAny_call (codeAny_call_generator (by have := rm.depth; omega) (hk0 _ _ ho) hdata (by kernel_rfl) (by kernel_rfl) (by rfl) (hF.code.keeps hk0) ?_)
  have hbind : bindArgs (Calls.docDef dGen.name dGen.params dGen.body dGen.scope pm cd doc) ⟨[u1, u2], []⟩ = pure ((dGen.params.args.map (·.arg)).zip [u1, u2]) := by kernel_rfl
  rw [hbind]
  refine wpAny_pure ?_
  refine wpAny_newFunctionEnv (show ∀ x ∈ dGen.scope.names, x.2 ≠ .cell by decide +kernel) (zip_fst (p := fun n => dGen.scope.names.lookup n = some .local) (by decide +kernel)) (fun h₁ hns hsb => ?_) (by kernel_rfl)
  have hlim1 : h₁.NoLimit := (hlim.keeps hk0).fresh _ hsb
  have F : Fr s.heap s.heap.objs.size h₁ (fun x => ((dGen.params.args.map (·.arg)).zip [u1, u2]).reverse.lookup x) := ⟨hns, fun b o e => hsb.extBut b o (Nat.ne_of_lt (Heap.lt_size e)) (Heap.get?_push_of_some _ e), Nat.le_refl _⟩
  refine ⟨hlim1, ?_⟩
  have K1 : Keep s.heap h₁ := F.keep
  have hL1 : (h₁.get? s.heap.objs.size).isSome = true := by obtain ⟨o, _, _, ho, _⟩ := F.ns; rw [ho]; rfl
  have hL0 : s.heap.get? s.heap.objs.size = none := by
    cases e : s.heap.get? s.heap.objs.size with
    | none => rfl
    | some o => exact absurd (Heap.lt_size e) (Nat.lt_irrefl _)
  have hg1 : h₁.get? h₁.objs.size = none := by
    cases e : h₁.get? h₁.objs.size with
    | none => rfl
    | some o => exact absurd (Heap.lt_size e) (Nat.lt_irrefl _)
  have hin : ∀ b, b ∈ ρ ++ C.ex → (s.heap.get? b).isSome = true := fun b m => (hd b).elim (fun f => (List.mem_append.mp m).elim (fun q => absurd q f.1) (fun q => absurd q f.2)) id
  have hv' : VRs ⟨172, ρ ++ C.ex⟩ [] h₁ [.str line, .lst toks] [u1, u2] := (VRs.shift (C' := ⟨172, ρ ++ C.ex⟩) (ρ' := []) hC.symm (fun b _ f => ⟨fun m => (nomatch m), fun m => (List.mem_append.mp m).elim f.1 f.2⟩) hv (by simp only [noMls, noMl, hno, Bool.and_self])).keep K1
  have R1 : Rl h₀ ⟨172, ρ ++ C.ex⟩ [] s.heap.objs.size ⟨((dGen.params.args.map (·.arg)).zip [.str line, .lst toks]).reverse, []⟩ h₁ := by
    refine ⟨⟨rfl, fun j xs e => by simp at e, List.nodup_nil, fun b m => (nomatch m), fun b m => ?_⟩, ⟨_, ⟨F.ns, fun b o e => K1 b o (hk0 b o e), hsz⟩, fun x v e => ?_⟩, fun m => (nomatch m)⟩
    · obtain ⟨o, e⟩ := Option.isSome_iff_exists.mp (hin b m)
      rw [K1 b o e]; rfl
    · rcases binds_ok (dGen.params.args.map (·.arg)) hv' x with ⟨h1, _⟩ | ⟨v', u', h1, h2, h3⟩
      · rw [h1] at e; cases e
      · rw [h1] at e; cases e
        exact ⟨u', h2, h3⟩
  have hP : (⟨((dGen.params.args.map (·.arg)).zip [PV.str line, PV.lst toks]).reverse, []⟩ : PS) = gP toks line := by kernel_rfl
  rw [hP] at R1
  refine h _ _ s.heap.objs.size _ (fun b o e => Heap.get?_push_of_some _ (K1 b o e)) hL0 ?_ (fun q => ?_) ⟨_, _, _, Heap.get?_push_size _ rfl, rfl, rfl, rfl⟩ (R1.keep fun b o e => Heap.get?_push_of_some _ e)
  · cases e : s.heap.get? h₁.objs.size with
    | none => rfl
    | some o => rw [K1 _ _ e] at hg1; cases hg1
  · rw [q] at hg1
    rw [hg1] at hL1; cases hL1
end
end Mine

end
section
open PySem PySem.W PyProof.Rows PySem.Calls PySem.W.X
set_option maxRecDepth 100000
set_option maxHeartbeats 4000000
namespace Mine
theorem Rm.in1 {k : Nat} {A : Around} (r : Rm (k + 1) A) : Rm k A.in1 := ⟨r.hh, by have := r.depth; show A.depth + k < _; omega, by have := r.units; show A.units + 1 + 8 * k + 128 < _; omega⟩
theorem due_len (zs : Zs) (ak : Ak) : (dueP zs ak).length ≤ 2 * ak.length := by
  unfold dueP
  induction ak with
  | nil => exact Nat.le_refl _
  | cons p r ih =>
    have h : ∀ s t, (dueAt zs s t).length ≤ 1 := fun s t => by
      unfold dueAt
      split
      · exact Nat.le_refl _
      · exact Nat.zero_le _
    rw [List.flatMap_cons, List.length_append, List.length_append, List.length_cons]
    have h1 := h p.1 p.2
    have h2 := h (p.1 + 1) p.2
    omega
section
variable {w : World} {A : Around} {s : Shared} {C : Cx} {ρ : List Addr} {h₀ : Heap} {mg mb : Str → Option Value} {a : Addr} {cd : Value} {nm : Str}
theorem told_list (KX : (hd.heap_39 w.params).In h₀) (G : Gd prg w h₀ 172 T0 mg mb) (rm : Rm (T0.nd + 130) A) {ns : List Int} {ex : List Addr} {L ga : Addr} {g : Nat}
    (R : Rl h₀ ⟨172, ex⟩ [] L (gP (toksP (builtZ ns)) (lineP (defP ns))) s.heap) (hg : s.heap.IsGen ga g) (hgL : ga ≠ L) (hgs : s.gens[g]? = some (.fresh (.func dGen.body (envOf nm dGen.scope L a cd))))
    {Q : Value → Shared → Prop} {E : Value → Shared → Prop} (hQ : ∀ s', After s.heap L s.heap.objs.size (dueP (builtZ ns) (builtA ns)) g s s' → Q (.ref s.heap.objs.size) s') : wpAny (model prg w) A (PySem.call (.type "list") [.ref ga]) Q E s := by
  obtain ⟨m, F, _⟩ := R.fr
  have hnone : s.heap.get? s.heap.objs.size = none := Heap.get?_none_of_le (Nat.le_refl _)
  have hL1 : (s.heap.get? L).isSome = true := by obtain ⟨o, _, _, ho, _⟩ := F.ns; rw [ho]; rfl
  have hRL : s.heap.objs.size ≠ L := fun q => by rw [← q, hnone] at hL1; cases hL1
  have hlen : (dueP (builtZ ns) (builtA ns)).length ≤ 1000 := by
    have h1 := due_len (builtZ ns) (builtA ns)
    have h2 := (built_len ns).2
    omega
  have hg0 := built_good ns
  refine list_gen rm.hh (by have := rm.depth; omega) F.keep (Heap.get?_none_of_le F.above) G.nolimit hg hgL hnone hRL hgs ⟨_, _, _, .inl ⟨rfl, rfl, rfl⟩, fun s₂ k2 hr2 => ?_⟩ (fun b o e _ => e) hlen hQ
  have K1 : Keep s.heap (s.heap.push { cls := .type "list", data := .seq #[] }) := Keep.push _ _
  have R1 := R.strong (TO := s.heap.objs.size) hnone K1 (by rw [Heap.get?_push_size _ rfl]; rfl)
  have GI1 : GI s.heap s.heap.objs.size h₀ ⟨172, s.heap.objs.size :: ex⟩ [] L (gP (toksP (builtZ ns)) (lineP (defP ns))) (s.heap.push { cls := .type "list", data := .seq #[] }) :=
    ⟨R1, fun _ m => (nomatch m), fun b e => by obtain ⟨o, e⟩ := Option.isSome_iff_exists.mp e; rw [K1 b o e]; rfl, .head _, fun m => (nomatch m), hRL⟩
  have hR0 : h₀.get? s.heap.objs.size = none := by
    cases q : h₀.get? s.heap.objs.size with
    | none => rfl
    | some o => rw [F.keep _ _ q] at hnone; cases hnone
  have GI2 := (GI1.ext hR0 k2 hr2).1
  obtain ⟨r, s', e, er⟩ := built_run ns
  have hx : toksP (builtZ ns) = (spotsR 0 ((fstW (defP ns), 0) :: r)).map (pvTok (laid (builtZ ns)).1) := (toks_spots (builtZ ns) fun z m => (hg0.1 z m).2.1).trans (congrArg (fun z => (spotsR 0 z).map (pvTok (laid (builtZ ns)).1)) e)
  refine gen_run (C := ⟨172, s.heap.objs.size :: ex⟩) KX G (rm.less (by omega)).in1.in1.in1 hR0 (w0 := fstW (defP ns)) (g0 := 0) (rest := r) (fst_kind _) (by decide) er hx (fun z m => (hg0.1 z (by rw [e]; exact .tail _ m)).2.1) GI2
end
end Mine

end
section
open PySem PySem.W PyProof.Rows PySem.Calls PySem.W.X
set_option maxRecDepth 100000
set_option maxHeartbeats 4000000
namespace Mine

-- each asked place has a word ahead of it
theorem snoc_pos {ak : Ak} {n : Nat} {t : Bool} (h : ∀ p ∈ ak, 1 ≤ p.1) (hn : 1 ≤ n) : ∀ p ∈ ak ++ [(n, t)], 1 ≤ p.1 := fun p m => by
  rcases List.mem_append.1 m with m | m
  · exact h p m
  · cases List.mem_singleton.1 m; exact hn
theorem hd_pos (d : Bool) (i : Nat) (n : Int) (z : Zs) : 1 ≤ (hdP d i n z).length := by
  unfold hdP
  rw [List.length_append, List.length_append]
  show 1 ≤ _ + 1 + _
  omega
theorem arg_pos {d : Bool} {i : Nat} {n m : Int} {z : Zs × Ak} (h : ∀ p ∈ z.2, 1 ≤ p.1) : ∀ p ∈ (argPP d i n m z).2, 1 ≤ p.1 := by
  have h3 := hd_pos d i n z.1
  unfold argPP
  simp only []
  split
  · split
    · exact snoc_pos (snoc_pos h h3) (by rw [List.length_append]; omega)
    · exact snoc_pos h h3
  · exact h
theorem iter_pos (ns : List Int) (d : Bool) : ∀ i, ∀ p ∈ (iterP ns d i).2, 1 ≤ p.1
  | 0 => fun p m => by cases m
  | i + 1 => arg_pos (iter_pos ns d i)
theorem built_pos (ns : List Int) : ∀ p ∈ builtA ns, 1 ≤ p.1 := iter_pos ns (defP ns) (nArgs ns)

theorem spots_get : ∀ (zs : Zs) (cur i : Nat) (h : i < zs.length), (spotsR cur zs)[i]? = some (zs[i].1, curR cur (zs.take i) + zs[i].2.toNat)
  | [], _, _, h => by cases h
  | z :: r, cur, 0, _ => rfl
  | z :: r, cur, i + 1, h => spots_get r _ i (Nat.lt_of_succ_lt_succ h)
/-- the token ahead of a place ends where the place begins -/
theorem tok_before {zs : Zs} (hz : ∀ z ∈ zs, 0 ≤ z.2) {s : Nat} (h1 : 1 ≤ s) (h2 : s ≤ zs.length) :
    ∃ k x st l, (toksP zs).getD (s - 1) .none = .tok [.int k, .str x, st, tp 1 (curR 0 (zs.take s)), .str l] := by
  obtain ⟨i, rfl⟩ : ∃ i, s = i + 1 := ⟨s - 1, by omega⟩
  have hi : i < zs.length := h2
  rw [toks_spots zs hz, List.getD_eq_getElem?_getD, Nat.add_sub_cancel, List.getElem?_map, spots_get zs 0 i hi]
  refine ⟨kindI zs[i].1, zs[i].1, .tup [.int 1, .int ((curR 0 (zs.take i) + zs[i].2.toNat : Nat) : Int)], (laid zs).1 ++ Str.ofString "\n", ?_⟩
  have e : curR 0 (zs.take (i + 1)) = curR 0 (zs.take i) + zs[i].2.toNat + zs[i].1.length := by rw [← List.take_append_getElem hi, curR_snoc]
  rw [e]
  show pvTok _ _ = _
  unfold pvTok tp
  simp only [Int.natCast_add]
theorem toks_len (zs : Zs) (hz : ∀ z ∈ zs, 0 ≤ z.2) : (toksP zs).length = zs.length := by
  rw [toks_spots zs hz, List.length_map]
  have : ∀ (zs : Zs) (c : Nat), (spotsR c zs).length = zs.length := by
    intro zs
    induction zs with
    | nil => intro c; rfl
    | cons z r ih => intro c; show (spotsR _ r).length + 1 = _; rw [ih]; rfl
  exact this zs 0
theorem gap_get {zs : Zs} {s : Nat} (h : s < zs.length) : (gsP zs).getD s .none = .int (gapAt zs s) := by
  unfold gsP gapAt
  rw [getD_map _ zs h, List.getD_eq_getElem?_getD, List.getElem?_eq_getElem h]
  rfl
theorem due_take_succ {ak : Ak} {i : Nat} (h : i < ak.length) (zs : Zs) : dueP zs (ak.take (i + 1)) = dueP zs (ak.take i) ++ (dueAt zs ak[i].1 ak[i].2 ++ dueAt zs (ak[i].1 + 1) ak[i].2) := by
  rw [← List.take_append_getElem h, dueP_snoc]
end Mine

end
section
open PySem PySem.W PyProof.Rows PySem.Calls PySem.W.X
set_option maxRecDepth 100000
set_option maxHeartbeats 4000000
namespace Mine

/-- what is told: a place and a text -/
noncomputable def Told1 (x : PV) : Prop := ∃ k t, x = .tup [tp 1 k, .str (if t = true then near else far)]
theorem due_told (zs : Zs) (ak : Ak) : ∀ x ∈ dueP zs ak, Told1 x := fun x m => by
  unfold dueP at m
  obtain ⟨p, _, m⟩ := List.mem_flatMap.1 m
  have h : ∀ s, x ∈ dueAt zs s p.2 → Told1 x := fun s m => by
    unfold dueAt at m
    split at m
    · cases List.mem_singleton.1 m; exact ⟨_, _, rfl⟩
    · cases m
  rcases List.mem_append.1 m with m | m
  · exact h _ m
  · exact h _ m
theorem texts_ok : PyData.canLay0 (.str near) = true ∧ PyData.canLay0 (.str far) = true := by decide +kernel
theorem told_data (x : PV) (h : Told1 x) : tupOnly x = true ∧ ∃ d, toP x = some d ∧ PyData.canLay0 d = true ∧ PyData.depth d ≤ 2 := by
  obtain ⟨k, t, rfl⟩ := h
  refine ⟨rfl, .tuple [.tuple [.int 1, .int k], .str (if t = true then near else far)], rfl, ?_, ?_⟩
  · cases t
    · simp only [PyData.canLay0, PyData.canLayAll0, Bool.and_true, Bool.true_and]; exact texts_ok.2
    · simp only [PyData.canLay0, PyData.canLayAll0, Bool.and_true, Bool.true_and]; exact texts_ok.1
  · simp only [PyData.depth, PyData.depthAll]; decide
theorem tolds_data : ∀ (xs : List PV), (∀ x ∈ xs, Told1 x) → tupOnlys xs = true ∧ ∃ ds, toPs xs = some ds ∧ PyData.canLayAll0 ds = true ∧ PyData.depthAll ds ≤ 2
  | [], _ => ⟨rfl, [], rfl, rfl, by simp only [PyData.depthAll]; decide⟩
  | x :: r, h => by
    obtain ⟨a1, d, a2, a3, a4⟩ := told_data x (h x (.head _))
    obtain ⟨b1, ds, b2, b3, b4⟩ := tolds_data r fun y m => h y (.tail _ m)
    refine ⟨?_, d :: ds, ?_, ?_, ?_⟩
    · simp only [tupOnlys, a1, b1, Bool.and_self]
    · simp only [toPs, a2, b2]
    · simp only [PyData.canLayAll0, a3, b3, Bool.and_self]
    · simp only [PyData.depthAll]
      omega
theorem due_data (zs : Zs) (ak : Ak) : tupOnlys (dueP zs ak) = true ∧ ∃ ds, toPs (dueP zs ak) = some ds ∧ SeqAt.shaped (.list ds) = true ∧ PyData.eqv (.list ds) (.list ds) = true := by
  obtain ⟨a1, ds, a2, a3, a4⟩ := tolds_data _ (due_told zs ak)
  refine ⟨a1, ds, a2, ?_, SeqAt.eqv_refl _ (by simp only [PyData.canLay0]; exact a3)⟩
  unfold SeqAt.shaped
  simp only [PyData.canLay0, PyData.depth, a3, Bool.true_and]
  exact decide_eq_true (by omega)
end Mine

end
section
open PySem PySem.W PyProof.Rows PySem.Calls PySem.W.X
set_option maxRecDepth 100000
set_option maxHeartbeats 4000000
namespace Mine

noncomputable abbrev scP (ns : List Int) : PV := .lst (ns.map .int)
/-- the law's frame -/
noncomputable def lV (sc ws gs ak tk : List PV) (d : Bool) : List (Str × PV) := [("script", .lst sc), ("words", .lst ws), ("gaps", .lst gs), ("asked", .lst ak), ("is_def", .bool d), ("tokens", .lst tk), ("due", .ml 0)]
noncomputable def lV2 (sc ws gs ak tk : List PV) (d : Bool) (p : Int) (t : Bool) : List (Str × PV) := [("script", .lst sc), ("words", .lst ws), ("gaps", .lst gs), ("asked", .lst ak), ("is_def", .bool d), ("tokens", .lst tk), ("due", .ml 0), ("spot", .int p), ("is_told", .bool t)]
noncomputable def lV3 (sc ws gs ak tk : List PV) (d : Bool) (p : Int) (t : Bool) (at' : Int) : List (Str × PV) := [("script", .lst sc), ("words", .lst ws), ("gaps", .lst gs), ("asked", .lst ak), ("is_def", .bool d), ("tokens", .lst tk), ("due", .ml 0), ("spot", .int p), ("is_told", .bool t), ("at", .int at')]
noncomputable def lB : Stmt := nth (forB (nth dLaw.body 3)) 0
noncomputable def lI : Stmt := nth (forB lB) 0
noncomputable def cmpL : PySem.Expr → PySem.Expr | .Compare l _ _ _ => l | _ => .Constant .none 0 pos0
noncomputable def cmpR : PySem.Expr → PySem.Expr | .Compare _ _ rs _ => rs.headD (.Constant .none 0 pos0) | _ => .Constant .none 0 pos0
noncomputable def appArg : Stmt → PySem.Expr | .Expr (.Call _ args _ _) _ => args.headD (.Constant .none 0 pos0) | _ => .Constant .none 0 pos0
noncomputable def subV : PySem.Expr → PySem.Expr | .Subscript v _ _ => v | _ => .Constant .none 0 pos0
noncomputable def subS : PySem.Expr → PySem.Expr | .Subscript _ s _ => s | _ => .Constant .none 0 pos0
noncomputable def lE : PySem.Expr := appArg (nth (ifB lI) 0)
noncomputable def lE0 : PySem.Expr := (tupE lE).getD 0 (.Constant .none 0 pos0)
noncomputable def lE1 : PySem.Expr := (tupE lE).getD 1 (.Constant .none 0 pos0)
noncomputable def cmpPos : PySem.Expr → Pos | .Compare _ _ _ p => p | _ => pos0

theorem law_body : dLaw.body = [nth dLaw.body 0, nth dLaw.body 1, nth dLaw.body 2, asFor (nth dLaw.body 3), nth dLaw.body 4, nth dLaw.body 5] := by kernel_rfl
theorem law_loop : forB (nth dLaw.body 3) = [asFor lB] := by kernel_rfl
theorem law_in : forB lB = [asIf lI] := by kernel_rfl
theorem law_else : ifO lI = [] := by kernel_rfl
theorem law_0 : ∃ es k tp p args cp pos, nth dLaw.body 0 = .Assign [.Tuple es k tp] (.Call (.Name "_law_built" p) args [] cp) pos ∧ tnames es = some [Str.ofString "words", Str.ofString "gaps", Str.ofString "asked", Str.ofString "is_def"] ∧ swP dLaw.scope es (.Call (.Name "_law_built" p) args [] cp) = some none ∧
    ∀ (ns : List Int) (sc : List PV), evs (evP (T1 ns) dLaw.scope 20 ⟨[("script", .lst sc)], []⟩) args = some ([.lst sc], True ∧ True) :=
  ⟨_, _, _, _, _, _, _, rfl, rfl, rfl, fun _ _ => by kernel_rfl⟩
theorem law_1 : ∃ xp p args cp pos, nth dLaw.body 1 = .Assign [.Name "tokens" xp] (.Call (.Name "_law_tokens" p) args [] cp) pos ∧
    ∀ (ns : List Int) (sc ws gs ak : List PV) (d : Bool), evs (evP (T1 ns) dLaw.scope 20 ⟨[("script", .lst sc), ("words", .lst ws), ("gaps", .lst gs), ("asked", .lst ak), ("is_def", .bool d)], []⟩) args = some ([.lst ws, .lst gs, .int 1], True ∧ True ∧ True ∧ True) :=
  ⟨_, _, _, _, _, rfl, fun _ _ _ _ _ _ => by kernel_rfl⟩
theorem app_run {T : Tb} {sc : Scope} {P : PS} {x : Str} {k : Nat} {xs : List PV} {e : PySem.Expr} {v : PV} {c : Prop} {xp apos cpos pos : Pos} (hx : isLoc sc x = true) (hl : (apos.endLine == cpos.line) = true) (hv : P.vars.lookup x = some (.ml k)) (hm : P.muts[k]? = some xs) (he : evP T sc 20 P e = some (v, c)) :
    exsP T sc 20 20 P [.Expr (.Call (.Attribute (.Name x xp) "append" apos) [e] [] cpos) pos] = some (⟨P.vars, P.muts.set k (xs ++ [v])⟩, .next, (c ∧ xs.length ≤ sizeLine) ∧ True) := by
  have h : EX T sc 20 20 P (.Expr (.Call (.Attribute (.Name x xp) "append" apos) [e] [] cpos) pos) = some (⟨P.vars, P.muts.set k (xs ++ [v])⟩, .next, c ∧ xs.length ≤ sizeLine) := by
    show exStep sc (evP T sc 20) (tvP T sc 20) (exsStep (EX T sc 20 19)) P _ = _
    unfold exStep
    simp only [hx, hl, hv, he, hm, Bool.and_self, if_true]
  show exsStep (EX T sc 20 20) P _ = _
  unfold exsStep
  rw [h]
  rfl
theorem law_ap0 : ∃ xp apos cpos pos, ifB lI = [.Expr (.Call (.Attribute (.Name (Str.ofString "due") xp) "append" apos) [lE] [] cpos) pos] ∧ (apos.endLine == cpos.line) = true := ⟨_, _, _, _, rfl, rfl⟩
section
variable (ns : List Int) (sc ws gs ak tk dl : List PV) (d t : Bool) (p i : Int)
theorem law_2 : exsP (T1 ns) dLaw.scope 20 20 ⟨[("script", .lst sc), ("words", .lst ws), ("gaps", .lst gs), ("asked", .lst ak), ("is_def", .bool d), ("tokens", .lst tk)], []⟩ [nth dLaw.body 2] = some (⟨lV sc ws gs ak tk d, [[]]⟩, .next, True ∧ True) := by kernel_rfl
theorem law_i : evP (T1 ns) dLaw.scope 20 ⟨lV sc ws gs ak tk d, [dl]⟩ (forI (nth dLaw.body 3)) = some (.lst ak, True) := by kernel_rfl
theorem law_a : asgP dLaw.scope (forT (nth dLaw.body 3)) (.tup [.int p, .bool t]) ⟨lV sc ws gs ak tk d, [dl]⟩ = some ⟨lV2 sc ws gs ak tk d p t, [dl]⟩ := by kernel_rfl
theorem law_i2 : evP (T1 ns) dLaw.scope 20 ⟨lV2 sc ws gs ak tk d p t, [dl]⟩ (forI lB) = some (.tup [.int p, .int (p + 1)], (True ∧ (True ∧ True ∧ True) ∧ True) ∧ 2 ≤ sizeLine) := by kernel_rfl
theorem law_a2 : asgP dLaw.scope (forT lB) (.int i) ⟨lV2 sc ws gs ak tk d p t, [dl]⟩ = some ⟨lV3 sc ws gs ak tk d p t i, [dl]⟩ := by kernel_rfl
-- the test
theorem law_t : tvP (T1 ns) dLaw.scope 20 ⟨lV3 sc ws gs ak tk d p t i, [dl]⟩ (ifT lI) = cmpE (evP (T1 ns) dLaw.scope 19 ⟨lV3 sc ws gs ak tk d p t i, [dl]⟩) ⟨lV3 sc ws gs ak tk d p t i, [dl]⟩ (cmpL (ifT lI)) .Eq (cmpR (ifT lI)) := by kernel_rfl
theorem law_tl : evP (T1 ns) dLaw.scope 19 ⟨lV3 sc ws gs ak tk d p t i, [dl]⟩ (cmpL (ifT lI)) = (match cmpE (evP (T1 ns) dLaw.scope 18 ⟨lV3 sc ws gs ak tk d p t i, [dl]⟩) ⟨lV3 sc ws gs ak tk d p t i, [dl]⟩ (cmpL (cmpL (ifT lI))) .Eq (cmpR (cmpL (ifT lI))) with
      | some (b, c) => some (.bool b, c)
      | none => none) := by kernel_rfl
theorem law_tr : evP (T1 ns) dLaw.scope 19 ⟨lV3 sc ws gs ak tk d p t i, [dl]⟩ (cmpR (ifT lI)) = some (.bool t, True) := by kernel_rfl
theorem law_tll : evP (T1 ns) dLaw.scope 18 ⟨lV3 sc ws gs ak tk d p t i, [dl]⟩ (cmpL (cmpL (ifT lI))) = some (gs.getD i.toNat .none, True ∧ True ∧ 0 ≤ i ∧ i < gs.length ∧ i < 2 ^ 63) := by kernel_rfl
theorem law_tlr : evP (T1 ns) dLaw.scope 18 ⟨lV3 sc ws gs ak tk d p t i, [dl]⟩ (cmpR (cmpL (ifT lI))) = some (.int 0, True) := by kernel_rfl
theorem law_bm : behindInMarks .Eq (cmpR (ifT lI)) = false ∧ behindInMarks .Eq (cmpR (cmpL (ifT lI))) = false := ⟨by kernel_rfl, by kernel_rfl⟩
-- the appended pair
theorem law_e : evP (T1 ns) dLaw.scope 20 ⟨lV3 sc ws gs ak tk d p t i, [dl]⟩ lE = (match evs (evP (T1 ns) dLaw.scope 19 ⟨lV3 sc ws gs ak tk d p t i, [dl]⟩) [lE0, lE1] with
      | some (vs, c) => some (.tup vs, c ∧ vs.length ≤ sizeLine)
      | none => none) := by kernel_rfl
theorem law_e0 : evP (T1 ns) dLaw.scope 19 ⟨lV3 sc ws gs ak tk d p t i, [dl]⟩ lE0 = (match evP (T1 ns) dLaw.scope 18 ⟨lV3 sc ws gs ak tk d p t i, [dl]⟩ (subV lE0), evP (T1 ns) dLaw.scope 18 ⟨lV3 sc ws gs ak tk d p t i, [dl]⟩ (subS lE0) with
      | some (o, c), some (i', d') => match idxP ⟨lV3 sc ws gs ak tk d p t i, [dl]⟩ o i' with
        | some (x, e) => some (x, c ∧ d' ∧ e)
        | none => none
      | _, _ => none) := by kernel_rfl
theorem law_e1 : evP (T1 ns) dLaw.scope 19 ⟨lV3 sc ws gs ak tk d p t i, [dl]⟩ lE1 = some (if t then .str near else .str far, (True ∧ True) ∧ (t = true → True) ∧ (t = false → True)) := by kernel_rfl
theorem law_e00 : evP (T1 ns) dLaw.scope 18 ⟨lV3 sc ws gs ak tk d p t i, [dl]⟩ (subV lE0) = some (tk.getD (i - 1).toNat .none, True ∧ (True ∧ True ∧ True) ∧ 0 ≤ i - 1 ∧ i - 1 < tk.length ∧ i - 1 < 2 ^ 63) := by kernel_rfl
theorem law_e01 : evP (T1 ns) dLaw.scope 18 ⟨lV3 sc ws gs ak tk d p t i, [dl]⟩ (subS lE0) = some (.int 3, True) := by kernel_rfl

theorem law_test {g : Int} (hg : gs.getD i.toNat .none = .int g) : tvP (T1 ns) dLaw.scope 20 ⟨lV3 sc ws gs ak tk d p t i, [dl]⟩ (ifT lI) = some (PyData.eqv (.bool (PyData.eqv (.int g) (.int 0))) (.bool t),
      ((True ∧ True ∧ 0 ≤ i ∧ i < gs.length ∧ i < 2 ^ 63) ∧ True ∧ SeqAt.shaped (PyData.int g) = true ∧ SeqAt.shaped (PyData.int 0) = true) ∧ True ∧ SeqAt.shaped (PyData.bool (PyData.eqv (.int g) (.int 0))) = true ∧ SeqAt.shaped (PyData.bool t) = true) := by
  obtain ⟨b1, b2⟩ := law_bm
  rw [law_t]
  unfold cmpE
  rw [b1, law_tl, law_tr]
  unfold cmpE
  rw [b2, law_tll, law_tlr, hg]
  rfl
theorem law_app {a b c e f : PV} (ht : tk.getD (i - 1).toNat .none = .tok [a, b, c, e, f]) : exsP (T1 ns) dLaw.scope 20 20 ⟨lV3 sc ws gs ak tk d p t i, [dl]⟩ (ifB lI) = some (⟨lV3 sc ws gs ak tk d p t i, [dl ++ [.tup [e, if t then .str near else .str far]]]⟩, .next,
      ((((((True ∧ (True ∧ True ∧ True) ∧ 0 ≤ i - 1 ∧ i - 1 < tk.length ∧ i - 1 < 2 ^ 63) ∧ True ∧ (0 : Int) ≤ 3 ∧ (3 : Int) < 5 ∧ (3 : Int) < 2 ^ 63) ∧ ((True ∧ True) ∧ (t = true → True) ∧ (t = false → True)) ∧ True) ∧ 2 ≤ sizeLine) ∧ dl.length ≤ sizeLine) ∧ True)) := by
  have he : evP (T1 ns) dLaw.scope 20 ⟨lV3 sc ws gs ak tk d p t i, [dl]⟩ lE = some (.tup [e, if t then .str near else .str far], ((((True ∧ (True ∧ True ∧ True) ∧ 0 ≤ i - 1 ∧ i - 1 < tk.length ∧ i - 1 < 2 ^ 63) ∧ True ∧ (0 : Int) ≤ 3 ∧ (3 : Int) < 5 ∧ (3 : Int) < 2 ^ 63) ∧ ((True ∧ True) ∧ (t = true → True) ∧ (t = false → True)) ∧ True) ∧ 2 ≤ sizeLine)) := by
    rw [law_e]
    unfold evs evs evs
    rw [law_e0, law_e1, law_e00, law_e01, ht]
    rfl
  obtain ⟨xp, apos, cpos, pos, e1, e2⟩ := law_ap0
  rw [e1]
  exact app_run (k := 0) (xs := dl) (by kernel_rfl) e2 (by kernel_rfl) rfl he
end
end Mine

end
section
open PySem PySem.W PyProof.Rows PySem.Calls PySem.W.X
set_option maxRecDepth 100000
set_option maxHeartbeats 4000000
namespace Mine
theorem eqv_bool (x y : Bool) : PyData.eqv (.bool x) (.bool y) = (x == y) := by
  cases x <;> cases y <;> first | rfl | decide +kernel
theorem law_f1 (env : Env) (x : Value) : foldedSetIterable (forI (nth dLaw.body 3)) env x = pure x := by kernel_rfl
theorem law_f2 (env : Env) (x : Value) : foldedSetIterable (forI lB) env x = pure x := by kernel_rfl
noncomputable abbrev lS (ns : List Int) (dl : List PV) : PS := ⟨lV (ns.map .int) (wsP (builtZ ns)) (gsP (builtZ ns)) (akP (builtA ns)) (toksP (builtZ ns)) (defP ns), [dl]⟩
noncomputable abbrev lS2 (ns : List Int) (dl : List PV) (p : Int) (t : Bool) : PS := ⟨lV2 (ns.map .int) (wsP (builtZ ns)) (gsP (builtZ ns)) (akP (builtA ns)) (toksP (builtZ ns)) (defP ns) p t, [dl]⟩
noncomputable abbrev lS3 (ns : List Int) (dl : List PV) (p : Int) (t : Bool) (i : Int) : PS := ⟨lV3 (ns.map .int) (wsP (builtZ ns)) (gsP (builtZ ns)) (akP (builtA ns)) (toksP (builtZ ns)) (defP ns) p t i, [dl]⟩
theorem sets_l (sc ws gs ak : List PV) (d : Bool) : sets [Str.ofString "words", Str.ofString "gaps", Str.ofString "asked", Str.ofString "is_def"] [.lst ws, .lst gs, .lst ak, .bool d] [("script", .lst sc)] =
    ([("script", .lst sc), ("words", .lst ws), ("gaps", .lst gs), ("asked", .lst ak), ("is_def", .bool d)] : List (Str × PV)) := by kernel_rfl
theorem setv_l (sc ws gs ak tk : List PV) (d : Bool) : setv (Str.ofString "tokens") (.lst tk) ([("script", .lst sc), ("words", .lst ws), ("gaps", .lst gs), ("asked", .lst ak), ("is_def", .bool d)] : List (Str × PV)) =
    ([("script", .lst sc), ("words", .lst ws), ("gaps", .lst gs), ("asked", .lst ak), ("is_def", .bool d), ("tokens", .lst tk)] : List (Str × PV)) := by kernel_rfl

section
variable {w : World} {h₀ : Heap} {mg mb : Str → Option Value} {A : Around} {s : Shared} {C : Cx} {ρ : List Addr} {L : Addr} {nm : Str} {a f1 f2 f3 : Addr} {cd c1 c2 c3 : Value} {ns : List Int}

theorem place_tri (G : Gd prg w h₀ C.cls (T1 ns) mg mb) (rm : Rm ((T1 ns).nd + 12) A) {dl : List PV} (hl : dl.length ≤ 100) (p : Int) (t : Bool) {s : Nat} (h1 : 1 ≤ s) (h2 : s < (builtZ ns).length) :
    Tri prg w A C L h₀ dLaw.scope nm a cd (forB lB) (lS3 ns dl p t (s : Int)) fun P' f => f = .next ∧ P' = lS3 ns (dl ++ dueAt (builtZ ns) s t) p t (s : Int) := by
  have hk : dLaw.scope.kind = .function := by kernel_rfl
  have hsl : sizeLine = 16777216 := rfl
  have hz := built_good ns
  have hz0 : ∀ z ∈ builtZ ns, 0 ≤ z.2 := fun z m => (hz.1 z m).2.1
  have hlen := (built_len ns).1
  have hgl : (gsP (builtZ ns)).length = (builtZ ns).length := gsP_len _
  have htl : (toksP (builtZ ns)).length = (builtZ ns).length := toks_len _ hz0
  rw [law_in]
  have hg : (gsP (builtZ ns)).getD ((s : Int)).toNat .none = .int (gapAt (builtZ ns) s) := by rw [Int.toNat_natCast]; exact gap_get h2
  refine Tri.If G rm hk 20 (law_test ns _ _ _ _ _ _ _ _ _ _ hg) ⟨⟨⟨trivial, trivial, by omega, by omega, by omega⟩, trivial, shaped_int _, shaped_int _⟩, trivial, shaped_bool _, shaped_bool _⟩ (fun q => ?_) (fun q => ?_)
  · obtain ⟨k, x, st, l, ht⟩ := tok_before hz0 h1 (Nat.le_of_lt h2)
    have ht' : (toksP (builtZ ns)).getD ((s : Int) - 1).toNat .none = .tok [.int k, .str x, st, tp 1 (curR 0 ((builtZ ns).take s)), .str l] := by
      rw [show ((s : Int) - 1).toNat = s - 1 by omega]; exact ht
    refine Tri.run G rm hk 20 20 (law_app ns _ _ _ _ _ _ _ _ _ _ ht') ⟨⟨⟨⟨⟨⟨trivial, ⟨trivial, trivial, trivial⟩, by omega, by omega, by omega⟩, trivial, by decide, by decide, by decide⟩, ⟨⟨trivial, trivial⟩, fun _ => trivial, fun _ => trivial⟩, trivial⟩, two_line⟩, by omega⟩, trivial⟩ ⟨rfl, ?_⟩
    rw [eqv_bool, eqv_int] at q
    unfold dueAt
    rw [if_pos q]
    cases t <;> rfl
  · rw [law_else]
    refine Tri.nil ⟨rfl, ?_⟩
    rw [eqv_bool, eqv_int] at q
    unfold dueAt
    rw [if_neg (by rw [q]; exact Bool.false_ne_true), List.append_nil]
end
end Mine

end
section
open PySem PySem.W PyProof.Rows PySem.Calls PySem.W.X
set_option maxRecDepth 100000
set_option maxHeartbeats 4000000
namespace Mine
theorem due_le (zs : Zs) (s : Nat) (t : Bool) : (dueAt zs s t).length ≤ 1 := by
  unfold dueAt
  split
  · exact Nat.le_refl _
  · exact Nat.zero_le _
section
variable {w : World} {h₀ : Heap} {mg mb : Str → Option Value} {A : Around} {s : Shared} {C : Cx} {ρ : List Addr} {L : Addr} {nm : Str} {a f1 f2 f3 : Addr} {cd c1 c2 c3 : Value} {ns : List Int}

theorem pair_tri (G : Gd prg w h₀ C.cls (T1 ns) mg mb) (rm : Rm ((T1 ns).nd + 12) A) {dl : List PV} (hl : dl.length ≤ 90) {p : Nat} (t : Bool) (h1 : 1 ≤ p) (h2 : p + 1 < (builtZ ns).length) :
    Tri prg w A C L h₀ dLaw.scope nm a cd (forB (nth dLaw.body 3)) (lS2 ns dl (p : Int) t) fun P' f => (f = .next ∨ f = .cont) ∧ P' = lS2 ns (dl ++ (dueAt (builtZ ns) p t ++ dueAt (builtZ ns) (p + 1) t)) (p : Int) t := by
  have hk : dLaw.scope.kind = .function := by kernel_rfl
  rw [law_loop]
  have a1 := due_le (builtZ ns) p t
  refine Tri.forTup (xs := [.int (p : Int), .int ((p : Int) + 1)]) G rm hk 20 (law_i2 ns _ _ _ _ _ _ _ _ _) ⟨⟨trivial, ⟨trivial, trivial, trivial⟩, trivial⟩, two_line⟩ (law_f2 _)
    (fun i P => P = lS2 ns (dl ++ (if i = 0 then [] else if i = 1 then dueAt (builtZ ns) p t else dueAt (builtZ ns) p t ++ dueAt (builtZ ns) (p + 1) t)) (p : Int) t) ?_ (fun i P hi hP => ?_) (fun P' hP => ?_)
  · show _ = lS2 ns (dl ++ []) _ _
    rw [List.append_nil]
  · subst hP
    have hi' : i < 2 := hi
    rcases (by omega : i = 0 ∨ i = 1) with rfl | rfl
    · refine ⟨_, law_a2 _ _ _ _ _ _ _ _ _ _, ?_⟩
      simp only [if_true, List.append_nil]
      refine Tri.sub (place_tri G rm (s := p) (by omega) (p : Int) t h1 (by omega)) fun P' f hpf => ?_
      obtain ⟨rfl, rfl⟩ := hpf
      exact ⟨lS2 ns (dl ++ dueAt (builtZ ns) p t) (p : Int) t, Sub.looked ⟨rfl, rfl, rfl, rfl, rfl, rfl, rfl, rfl, rfl, trivial⟩, .inl rfl, rfl⟩
    · refine ⟨_, law_a2 _ _ _ _ _ _ _ _ _ _, ?_⟩
      have e : ((p : Int) + 1) = ((p + 1 : Nat) : Int) := by push_cast; rfl
      rw [e]
      show Tri _ _ _ _ _ _ _ _ _ _ _ (lS3 ns (dl ++ dueAt (builtZ ns) p t) (p : Int) t ((p + 1 : Nat) : Int)) _
      refine Tri.sub (place_tri G rm (s := p + 1) (by rw [List.length_append]; omega) (p : Int) t (by omega) h2) fun P' f hpf => ?_
      obtain ⟨rfl, rfl⟩ := hpf
      refine ⟨lS2 ns (dl ++ (dueAt (builtZ ns) p t ++ dueAt (builtZ ns) (p + 1) t)) (p : Int) t, ?_, .inl rfl, rfl⟩
      rw [List.append_assoc]
      exact Sub.looked ⟨rfl, rfl, rfl, rfl, rfl, rfl, rfl, rfl, rfl, trivial⟩
  · exact ⟨.inl rfl, hP⟩

theorem asked_tri (G : Gd prg w h₀ C.cls (T1 ns) mg mb) (rm : Rm ((T1 ns).nd + 12) A) :
    Tri prg w A C L h₀ dLaw.scope nm a cd [asFor (nth dLaw.body 3)] (lS ns []) fun P' f => f = .next ∧ P' = lS ns (dueP (builtZ ns) (builtA ns)) := by
  have hk : dLaw.scope.kind = .function := by kernel_rfl
  have hal := (built_len ns).2
  refine Tri.forLst (xs := akP (builtA ns)) G rm hk 20 (law_i ns _ _ _ _ _ _ _) trivial (law_f1 _) (fun i P => P = lS ns (dueP (builtZ ns) ((builtA ns).take i))) rfl (fun i P hi hP => ?_) (fun P' hP => ?_)
  · subst hP
    rw [akP_len] at hi
    have e : (akP (builtA ns)).getD i .none = .tup [.int ((builtA ns)[i].1 : Int), .bool (builtA ns)[i].2] := getD_map _ _ hi
    rw [e]
    refine ⟨_, law_a _ _ _ _ _ _ _ _ _, ?_⟩
    have hd := due_len (builtZ ns) ((builtA ns).take i)
    rw [List.length_take] at hd
    refine Tri.sub (pair_tri G rm (by omega) (builtA ns)[i].2 (built_pos ns _ (List.getElem_mem hi)) (built_idx ns _ (List.getElem_mem hi))) fun P' f hpf => ?_
    obtain ⟨hf, rfl⟩ := hpf
    refine ⟨lS ns (dueP (builtZ ns) ((builtA ns).take (i + 1))), ?_, hf, rfl⟩
    rw [due_take_succ hi]
    exact Sub.looked ⟨rfl, rfl, rfl, rfl, rfl, rfl, rfl, trivial⟩
  · rw [akP_len, List.take_length] at hP
    exact ⟨rfl, hP⟩

/-- the law up to the call of the rule -/
theorem law_tri (hC : C.cls = 172) (G : Gd prg w h₀ 172 (T1 ns) mg mb) (hE : FnAt h₀ mg dEquals.name dEquals.params dEquals.body dEquals.scope f1 c1) (hB : FnAt h₀ mg dBuilt.name dBuilt.params dBuilt.body dBuilt.scope f2 c2)
    (hT : FnAt h₀ mg dTokens.name dTokens.params dTokens.body dTokens.scope f3 c3) (rm : Rm ((T1 ns).nd + 50) A) :
    Tri prg w A C L h₀ dLaw.scope nm a cd [nth dLaw.body 0, nth dLaw.body 1, nth dLaw.body 2, asFor (nth dLaw.body 3)] ⟨[("script", .lst (ns.map .int))], []⟩ fun P' f => f = .next ∧ P' = lS ns (dueP (builtZ ns) (builtA ns)) := by
  have hk : dLaw.scope.kind = .function := by kernel_rfl
  have rm' : Rm ((T1 ns).nd + 12) A := rm.less (by omega)
  have G1 : Gd prg w h₀ C.cls (T1 ns) mg mb := by rw [hC]; exact G
  refine Tri.seq (P1 := ⟨[("script", .lst (ns.map .int)), ("words", .lst (wsP (builtZ ns))), ("gaps", .lst (gsP (builtZ ns))), ("asked", .lst (akP (builtA ns))), ("is_def", .bool (defP ns))], []⟩) ?_ ?_
  · obtain ⟨es, k, tp, p, args, cp, pos, e1, e2, e3, e4⟩ := law_0
    rw [e1]
    refine Tri.asgT rm.hh hk e2 (by kernel_rfl) rfl e3 (EvTri.call (postv := fun P' v => P' = ⟨[("script", .lst (ns.map .int))], []⟩ ∧ v = builtV ns) G1 rm' hk (by kernel_rfl) hB.here (fun h k => hB.keeper k) (e4 ns _) ⟨trivial, trivial⟩ (fun ρ s us Q E R hv h => ?_)) ?_
    · obtain ⟨m, F, _⟩ := id R.fr
      exact built_call G hE hB (rm.less (by omega)) F.keep (Nat.le_trans F.above (Nat.le_of_lt F.ns.lt)) hC (Rl.dom R) hv (vout_keep R (h _ _ ⟨rfl, rfl⟩))
    · rintro P' v ⟨rfl, rfl⟩
      exact ⟨_, rfl, rfl, rfl, by rw [sets_l]⟩
  refine Tri.seq (P1 := ⟨[("script", .lst (ns.map .int)), ("words", .lst (wsP (builtZ ns))), ("gaps", .lst (gsP (builtZ ns))), ("asked", .lst (akP (builtA ns))), ("is_def", .bool (defP ns)), ("tokens", .lst (toksP (builtZ ns)))], []⟩) ?_ ?_
  · obtain ⟨xp, p, args, cp, pos, e1, e4⟩ := law_1
    rw [e1]
    refine Tri.asgN hk (by kernel_rfl) rfl (EvTri.call (postv := fun P' v => P' = ⟨[("script", .lst (ns.map .int)), ("words", .lst (wsP (builtZ ns))), ("gaps", .lst (gsP (builtZ ns))), ("asked", .lst (akP (builtA ns))), ("is_def", .bool (defP ns))], []⟩ ∧ v = .lst (toksP (builtZ ns))) G1 rm' hk (by kernel_rfl) hT.here (fun h k => hT.keeper k) (e4 ns _ _ _ _ _) ⟨trivial, trivial, trivial, trivial⟩ (fun ρ s us Q E R hv h => ?_)) ?_
    · obtain ⟨m, F, _⟩ := id R.fr
      exact tokens_call G hT (built_good ns) (rm.less (by omega)) F.keep (Nat.le_trans F.above (Nat.le_of_lt F.ns.lt)) hC (Rl.dom R) hv (vout_keep R (h _ _ ⟨rfl, rfl⟩))
    · rintro P' v ⟨rfl, rfl⟩
      exact ⟨rfl, by rw [setv_l]⟩
  refine Tri.seq (P1 := lS ns []) (Tri.run G1 rm' hk 20 20 (law_2 ns _ _ _ _ _ _) ⟨trivial, trivial⟩ ⟨rfl, rfl⟩) (asked_tri G1 rm')
end
end Mine

end
section
open PySem PySem.W PyProof.Rows PySem.Calls PySem.W.X
set_option maxRecDepth 100000
set_option maxHeartbeats 4000000
namespace Mine
theorem law_4 : ∃ xp p args cp pos, nth dLaw.body 4 = .Assign [.Name "told" xp] (.Call (.Name "whitespace_around_named_parameter_equals" p) args [] cp) pos ∧
    ∀ (ns : List Int) (sc ws gs ak tk dl : List PV) (d : Bool), ∃ c : Prop, c ∧ evs (evP (T1 ns) dLaw.scope 20 ⟨lV sc ws gs ak tk d, [dl]⟩) args = some ([.str (lineP d), .lst tk], c) :=
  ⟨_, _, _, _, _, rfl, fun _ _ _ _ _ _ _ d => by
    cases d with
    | true => exact ⟨((True ∧ True) ∧ (true = true → True) ∧ (true = false → True)) ∧ True ∧ True, ⟨⟨⟨trivial, trivial⟩, fun _ => trivial, fun _ => trivial⟩, trivial, trivial⟩, by kernel_rfl⟩
    | false => exact ⟨((True ∧ True) ∧ (false = true → True) ∧ (false = false → True)) ∧ True ∧ True, ⟨⟨⟨trivial, trivial⟩, fun _ => trivial, fun _ => trivial⟩, trivial, trivial⟩, by kernel_rfl⟩⟩
theorem law_5 : ∃ p tp lp dp cp pos, nth dLaw.body 5 = .Return (some (.Compare (.Call (.Name (Str.ofString "list") p) [.Name (Str.ofString "told") tp] [] lp) [.Eq] [.Name (Str.ofString "due") dp] cp)) pos := ⟨_, _, _, _, _, _, rfl⟩
section
variable {w : World} {h₀ : Heap} {mg mb : Str → Option Value} {A : Around} {s : Shared} {C : Cx} {ρ : List Addr} {L : Addr} {nm : Str} {a ga' : Addr} {cd gcd : Value} {ns : List Int}

/-- the law's last two rows -/
theorem law_tail (KX : (hd.heap_39 w.params).In h₀) (hC : C.cls = 172) (G0 : Gd prg w h₀ 172 T0 mg mb) (G : Gd prg w h₀ 172 (T1 ns) mg mb) (hG : FnAt h₀ mg dGen.name dGen.params dGen.body dGen.scope ga' gcd)
    (rm : Rm ((T1 ns).nd + 150) A) (R : Rl h₀ C ρ L (lS ns (dueP (builtZ ns) (builtA ns))) s.heap) (hgens : s.gens = #[]) {Q : Flow → Shared → Prop} {E : Value → Shared → Prop}
    (hQ : ∀ h tk, (∀ b o, h₀.get? b = some o → h.get? b = some o) → Q (.ret (.bool true)) { s with heap := h, toks := tk, gens := #[.finished] }) :
    wpAny (model prg w) A (execs [nth dLaw.body 4, nth dLaw.body 5] (envOf nm dLaw.scope L a cd)) Q E s := by
  have hk : dLaw.scope.kind = .function := by kernel_rfl
  have rm' : Rm ((T1 ns).nd + 12) A := rm.less (by omega)
  have G1 : Gd prg w h₀ C.cls (T1 ns) mg mb := by rw [hC]; exact G
  obtain ⟨xp, p, args, cp, pos, e4, ev4⟩ := law_4
  obtain ⟨lp, tp, cp2, dp, cp3, pos2, e5⟩ := law_5
  rw [e4, e5]
  obtain ⟨c, hc, ev4⟩ := ev4 ns (ns.map .int) (wsP (builtZ ns)) (gsP (builtZ ns)) (akP (builtA ns)) (toksP (builtZ ns)) (dueP (builtZ ns) (builtA ns)) (defP ns)
  refine wpAny_execs_cons (wpAny_Assign_Name ?_ (swapsWith_no rfl _ _ _))
  rw [arm_eval_Call_Name']
  refine wpAny_bind ?_
  show wpAny _ _ _ (fun fv s₁ => wpAny (model prg w) A (callWith cp fv [] (backTo cp (starEach args (envOf nm dLaw.scope L a cd))) []) _ E s₁) E s
  obtain ⟨v1, v2, v3⟩ := EV_ok (prog := prg) (w := w) (A := A) (C := C) (ρ := ρ) (L := L) (h₀ := h₀) (P := lS ns (dueP (builtZ ns) (builtA ns))) (nm := nm) (a := a) (cd := cd) G1 rm' hk 20
  refine name_global G1 hk R (by kernel_rfl) hG.here (callWith_ok v1 v3 ev4 hc R (fun h k => hG.keeper k) fun us h1 tk1 K1 hv => ?_)
  have R1 := R.keep K1
  obtain ⟨m, F1, hm⟩ := id R1.fr
  refine gen_call (C := C) (ρ := ρ) hG G0.nolimit (noMls_map _ (noMl_tok _) _) (k := 0) (rm.less (by omega)) F1.keep (Nat.le_trans F1.above (Nat.le_of_lt F1.ns.lt)) hC (Rl.dom (s := { s with heap := h1, toks := tk1 }) R1) hv fun h2 tk2 LG ga K2 hLG hga hne hig RG => ?_
  have F2 : Fr h₀ L h2 m := F1.keeps K2
  have hL1 : (h1.get? L).isSome = true := by obtain ⟨o, _, _, ho, _⟩ := F1.ns; rw [ho]; rfl
  have hLLG : L ≠ LG := fun q => by rw [q, show h1.get? LG = none from hLG] at hL1; cases hL1
  have hLga : ga ≠ L := fun q => by rw [← q, show h1.get? ga = none from hga] at hL1; cases hL1
  refine wpAny_storeName_local (env := envOf nm dLaw.scope L a cd) (isLoc_parts (sc := dLaw.scope) (x := Str.ofString "told") (by kernel_rfl)).1 F2.ns (fun h3 hn3 hs3 => ?_) (by show (dLaw.scope.kind == .class || (dLaw.scope.kind == .module && L != mainGlobals)) = false; rw [hk]; rfl)
  have hn3' : h3.Ns L (fun y => if y = Str.ofString "told" then some (.ref ga) else m y) := hn3
  have hs3' : Heap.SameBut L h2 h3 := hs3
  have hL3 : (h3.get? L).isSome = true := by obtain ⟨o, _, _, ho, _⟩ := hn3'; rw [ho]; rfl
  have S3 : Step ⟨172, ρ ++ C.ex⟩ [] [] h2 h3 := step_sameBut F2 hL3 hs3'
  have hL0 : h₀.get? L = none := Heap.get?_none_of_le F2.above
  have RG3 := RG.off1 (C' := ⟨172, ρ ++ C.ex⟩) rfl (fun _ m => m) S3.toStep0 (W := [L]) (fun b m => by rw [List.mem_singleton.mp m]; exact ⟨fun q => (nomatch q), hLLG, hL0⟩) (fun b o n e => (hs3'.2 b fun q => n (by rw [q]; exact .head _)).trans e)
    (fun b _ m => by rw [List.mem_singleton.mp m]; exact Option.isSome_iff_exists.mp hL3)
  have F3 := F2.set hn3' hs3'
  have R2 := R1.keep K2
  -- the due list
  obtain ⟨da, dvs, hda, ⟨dn, hdo⟩, hdv⟩ := R2.mu 0 (dueP (builtZ ns) (builtA ns)) rfl
  have hdm : da ∈ ρ := List.mem_of_getElem? hda
  have hdL : da ≠ L := fun q => R2.nL (q ▸ hdm)
  have hdLG : da ≠ LG := fun q => by
    have := Rl.there (s := { s with heap := h1, toks := tk1 }) R1 da hdm
    rw [q, show ({ s with heap := h1, toks := tk1 } : Shared).heap.get? LG = none from hLG] at this; cases this
  obtain ⟨hto, ds, hds, hsh, heq⟩ := due_data (builtZ ns) (builtA ns)
  have tup3 : ∀ b vs, h2.get? b = some (tupO vs) → h3.get? b = some (tupO vs) := fun b vs e => (hs3'.2 b fun q => by
    obtain ⟨o, es, ep, ho, hd, _⟩ := F2.ns
    rw [q, ho] at e; cases e; cases hd).trans e
  have T3 := TVs.keep tup3 (VRs.tv hdv hto)
  obtain ⟨q, hq, hqv⟩ := hm "due" (.ml 0) (by kernel_rfl)
  have hqa : q = .ref da := by
    cases hqv with
    | ml ha => rw [hda] at ha; cases ha; rfl
  subst hqa
  have hig3 : h3.IsGen ga s.gens.size := by
    obtain ⟨o, n1, n2, ho, r⟩ := hig
    exact ⟨o, n1, n2, (hs3'.2 ga hLga).trans ho, r⟩
  have hgs3 : (s.gens.push (.fresh (.func dGen.body (envOf dGen.name dGen.scope LG ga' gcd))))[s.gens.size]? = some (.fresh (.func dGen.body (envOf dGen.name dGen.scope LG ga' gcd))) := by simp
  have hint : interactive (envOf nm dLaw.scope L a cd) = false := by
    unfold interactive
    show (dLaw.scope.kind == .module && _) = false
    rw [hk]; rfl
  refine wpAny_execs_cons (wpAny_Return_some (wpAny_Compare1 ?_ (by rfl)))
  rw [arm_eval_Call_Name']
  refine wpAny_bind ?_
  obtain ⟨b1, b2⟩ := G0.bt "list" (by simp)
  have hgl := isGlob_parts (sc := dLaw.scope) (x := Str.ofString "list") (by kernel_rfl)
  refine ld_builtin_at F3 G0.g b1 G0.b b2 ?_ hk hgl.1 hgl.2
  refine callWith_of (P := fun _ => True) (by rfl) (fun h _ => keeper_type _ h) ?_
  have htl := isLoc_parts (sc := dLaw.scope) (x := Str.ofString "told") (by kernel_rfl)
  refine evalArgs_plain ?_
  refine Calls.spliced_cons (ld F3 (v := .ref ga) (by rfl) (Calls.spliced_nil ⟨trivial, ?_⟩) hk htl.1 htl.2)
  refine told_list KX G0 (rm.less (by show 0 + 130 ≤ _; omega)) RG3 hig3 hne hgs3 fun s' ha => ?_
  obtain ⟨acc, ac, x1, x2, x3, h4, tk4, x, rfl, y, rfl, rfl⟩ := ha
  have x3' : ∀ b o, h3.get? b = some o → b ≠ LG → h4.get? b = some o := x3
  have hLG0 : h₀.get? LG = none := by
    cases e : h₀.get? LG with
    | none => rfl
    | some o => have := F1.keep _ _ e; rw [show h1.get? LG = none from hLG] at this; cases this
  have F4 : Fr h₀ L h4 (fun y => if y = Str.ofString "told" then some (.ref ga) else m y) := ⟨F3.ns.at' fun o e => x3' _ o e hLLG, fun b o e => x3' b o (F3.keep b o e) (fun q => by rw [q, hLG0] at e; cases e), F3.above⟩
  obtain ⟨as1, r1⟩ := TVs.reads x2 hds
  have T4 : TVs h4 (dueP (builtZ ns) (builtA ns)) dvs := TVs.keep (fun b vs e => x3' b _ e fun q => by
    obtain ⟨o, _, _, ho, hd, _⟩ : ∃ o es ep, h3.get? LG = some o ∧ o.data = .dict es ep ∧ True := by
      obtain ⟨m', F', _⟩ := RG3.fr
      obtain ⟨o, es, ep, ho, hd, _⟩ := F'.ns
      exact ⟨o, es, ep, ho, hd, trivial⟩
    rw [q, ho] at e; cases e; cases hd) T3
  obtain ⟨as2, r2⟩ := TVs.reads T4 hds
  have hd4 : h4.get? da = some { cls := .type "list", data := .seq dvs.toArray dn } := x3' _ _ ((hs3'.2 da hdL).trans hdo) hdLG
  have hdl := isLoc_parts (sc := dLaw.scope) (x := Str.ofString "due") (by kernel_rfl)
  refine ld F4 (v := .ref da) hq ?_ hk hdl.1 hdl.2
  refine eq_dataH (da := .list ds) (db := .list ds) (.list x1 rfl rfl r1) (.list hd4 rfl rfl r2) hsh hsh (by have := rm.units; omega) ?_
  rw [heq]
  have K4 : ∀ b o, h₀.get? b = some o → h4.get? b = some o := F4.keep
  have hx := hQ h4 tk4 K4
  have eg : (s.gens.push (.fresh (.func dGen.body (envOf dGen.name dGen.scope LG ga' gcd)))).setIfInBounds s.gens.size GenState.finished = #[.finished] := by rw [hgens]; rfl
  rw [← eg] at hx
  exact hx
end
end Mine

end
section
open PySem PySem.W PyProof.Rows PySem.Calls PySem.W.X
set_option maxRecDepth 100000
set_option maxHeartbeats 4000000
namespace Mine
section
variable {w : World} {s : Shared} {mg mb : Str → Option Value} {loose : List Str} {mean : ExcName → Option Value}

theorem ints_vrs {C : Cx} {ρ : List Addr} {h : Heap} : ∀ {vs : List Value} {ns : List Int}, IntsAre vs ns → VRs C ρ h (ns.map .int) vs
  | _, _, .nil => .nil
  | _, _, .cons n t e => .cons (.int n t) (ints_vrs e)
theorem caller_room (env : Env) : Rm 560 (callerA.deeper env) := ⟨rfl, by show 1 + claimMargin + 1 + 560 < recursionLimit; decide, by show 4 + 3 + 8 * 560 + 128 < cLine; decide⟩

theorem law_call (KX : (hd.heap_39 w.params).In s.heap) (T : Top hd.view_39 loose mean mg mb s.heap) (hg : s.gens = #[]) {fa : Addr} (hmg : mg dLaw.name = some (.ref fa)) {l : Addr} {vs : List Value} {ns : List Int} (hL : s.heap.IsList l vs.toArray) (hI : IntsAre vs ns) (hn : ns.length ≤ 63)
    {Q : Value → Shared → Prop} {E : Value → Shared → Prop} (hQ : ∀ h tk, (∀ b o, s.heap.get? b = some o → h.get? b = some o) → Q (.bool true) { s with heap := h, toks := tk, gens := #[.finished] }) :
    wpAny (model prg w) callerA (PySem.call (.ref fa) [.ref l]) Q E s := by
  obtain ⟨fa', cd, hF⟩ := fnAt_of T (dMem hasLaw)
  have hF : FnAt s.heap mg dLaw.name dLaw.params dLaw.body dLaw.scope fa' cd := hF
  have hfa : fa' = fa := by
    have := hF.here.symm.trans hmg
    cases this; rfl
  subst hfa
  obtain ⟨a1, cd1, hCell⟩ := fnAt_of T (dMem hasCell)
  obtain ⟨a2, cd2, hKind⟩ := fnAt_of T (dMem hasKind)
  obtain ⟨a3, cd3, hTok⟩ := fnAt_of T (dMem hasTokens)
  obtain ⟨a4, cd4, hEq⟩ := fnAt_of T (dMem hasEquals)
  obtain ⟨a5, cd5, hBuilt⟩ := fnAt_of T (dMem hasBuilt)
  obtain ⟨a6, cd6, hGen⟩ := fnAt_of T (dMem hasGen)
  have G0 := gd0 KX T
  have G := gd1 (ns := ns) KX G0 (by omega) hCell hKind
  obtain ⟨o, pm, doc, ho, hdata⟩ := hF.obj
  refine wpAny_call (call_plain_ret (binds := (dLaw.params.args.map (·.arg)).zip [.ref l]) (by decide) ho hdata G0.nolimit hF.code (by kernel_rfl) (zip_fst (p := fun n => dLaw.scope.names.lookup n = some .local) (by decide +kernel)) (fun h₁ F => ?_) (by kernel_rfl) (by kernel_rfl) (by kernel_rfl) (by decide +kernel))
  have hP : (fun x => ((dLaw.params.args.map (·.arg)).zip [Value.ref l]).reverse.lookup x) = (fun x => ([(Str.ofString "script", Value.ref l)] : List (Str × Value)).lookup x) := by kernel_rfl
  rw [hP] at F
  have R1 : Rl s.heap ⟨172, []⟩ [] s.heap.objs.size ⟨[("script", .lst (ns.map .int))], []⟩ h₁ := by
    refine ⟨⟨rfl, fun j xs e => by simp at e, List.nodup_nil, fun b m => (nomatch m), fun b m => (nomatch m)⟩, ⟨_, F, fun x v e => ?_⟩, fun m => (nomatch m)⟩
    by_cases q : x = Str.ofString "script"
    · subst q
      simp [List.lookup] at e
      subst e
      exact ⟨.ref l, by simp [List.lookup], .lst (hL.at fun o e => F.keep _ o e) ⟨fun m => (nomatch m), fun m => (nomatch m)⟩ (ints_vrs hI)⟩
    · have q' : (x == Str.ofString "script") = false := by simpa using q
      simp [List.lookup, q'] at e
  have eb : execs dLaw.body (envOf dLaw.name dLaw.scope s.heap.objs.size fa' cd) = execs ([nth dLaw.body 0, nth dLaw.body 1, nth dLaw.body 2, asFor (nth dLaw.body 3)] ++ [nth dLaw.body 4, nth dLaw.body 5]) (envOf dLaw.name dLaw.scope s.heap.objs.size fa' cd) := congrArg (fun t => execs t (envOf dLaw.name dLaw.scope s.heap.objs.size fa' cd)) law_body
  rw [eb, execs_append]
  have rm := caller_room (envOf dLaw.name dLaw.scope s.heap.objs.size fa' cd)
  refine wpAny_bind (law_tri rfl G hEq hBuilt hTok (rm.less (by show 350 + 50 ≤ 560; decide)) [] { s with heap := h₁, toks := s.toks + ((dLaw.params.args.map (·.arg)).zip [Value.ref l]).length } _ _ R1 fun P' f hpf fl h' tk ρ' R' S' Pr' F' => ?_)
  obtain ⟨rfl, rfl⟩ := hpf
  cases F'
  refine law_tail (s := { s with heap := h', toks := tk }) KX rfl G0 G hGen (rm.less (by show 350 + 150 ≤ 560; decide)) R' hg fun h4 tk4 K4 => ?_
  exact hQ h4 tk4 K4
end
end Mine

end
section
open PySem PySem.W PyProof.Rows PySem.Calls PySem.W.X
set_option maxRecDepth 100000
set_option maxHeartbeats 4000000
namespace Mine
theorem law_name : Str.ofString "law" = dLaw.name := by kernel_rfl
theorem law_good {c : ClaimW} {cl : Str → Option Addr} {mean : ExcName → Option Value} {args : List WData} {s₁ : Shared} {h : Heap} {tk : Nat} (hr : ∀ cls, c.raises args cls = false) (hp : c.post args (.bool true) args = true) (k : ∀ b o, s₁.heap.get? b = some o → h.get? b = some o) :
    GoodWG c cl mean args s₁ (.ok (.ret (.bool true))) { s₁ with heap := h, toks := tk, gens := #[.finished] } :=
  ⟨.inl ⟨_, _, [], rfl, hr, ReadsW.bool true, hp, fun _ => ⟨List.nodup_nil, fun _ hm => (nomatch hm)⟩⟩, .of_keep k, rfl, allBare_of _ rfl⟩
end Mine
end
open PySem PySem.W PyProof.Rows PySem.Calls PySem.W.X
set_option maxRecDepth 100000
set_option maxHeartbeats 8000000 in
theorem PySem.Challenge.cw_bd0043_01_holds : PySem.Challenge.rw_bd0043_01.Holds := by
  exact Mine.hd (by
  w_strict (
    intro w s₀ s₁ mg mb G Y fa o pm cd doc dV kV ho hd hcd hD hmg hg args vals as hpre hlay hrd hwl hlo
    have KX := kIn_of Y
    refine Ground.open G ?_
    intro T B D TE TW
    wrow_args hpre hlay hrd hwl hlo
    rename_i ns _ _ _ _ _ _ _ l vs _ hL _ _ _ hI _ hlen _
    have hmg' : mg Mine.dLaw.name = some (.ref fa) := (congrArg mg Mine.law_name.symm).trans hmg
    exact Mine.law_call KX T hg hmg' hL hI (by omega) fun h tk k => Mine.law_good (fun _ => rfl) (by wrow_post) k))
