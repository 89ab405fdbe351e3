import PyProof.Rows.All
import Wide.All
import OpenK.AllK
import Wide.FinOn
import PySem.Challenge.RW_mj0103_01
open PySem PySem.W PyProof.Rows
set_option Elab.async false
set_option maxRecDepth 100000
set_option linter.unusedVariables false
set_option linter.unusedSimpArgs false
set_option maxHeartbeats 4000000
namespace Mine
open PySem PySem.W PyProof.Rows PySem.Spec PySem.Calls PyProof.Rows.LCg

abbrev Led := List (Addr × Obj)

/-- plain data -/
inductive D where
  | none
  | bool (b : Bool)
  | int (i : Int)
  | str (x : PySem.Str)
  | tuple (ds : List D)
  | list (ds : List D)
  | dict (kvs : List (PySem.Str × Int))
  | addr (a : Addr)

inductive IntVals : List (PySem.Str × Value) → List (PySem.Str × Int) → Prop
  | nil : IntVals [] []
  | cons {k : PySem.Str} {i : Int} (t : Tok) {r : List (PySem.Str × Value)} {r' : List (PySem.Str × Int)} : IntVals r r' → IntVals ((k, .int i t) :: r) ((k, i) :: r')

def DictObj (prog : Program) (w : World) (o : Obj) (kvs : List (PySem.Str × Int)) : Prop :=
  ∃ vk : List (PySem.Str × Value), o.IsDictOf (strKind prog w) vk ∧ IntVals vk kvs

abbrev tupObj (vs : List Value) (n : Nat) : Obj := { cls := .type "tuple", data := .seq vs.toArray n }
abbrev lstObj (vs : List Value) (n : Nat) : Obj := { cls := .type "list", data := .seq vs.toArray n }

mutual
inductive DIn (prog : Program) (w : World) (im : Led) : Value → D → Prop
  | none : DIn prog w im .none .none
  | bool (b : Bool) : DIn prog w im (.bool b) (.bool b)
  | int (i : Int) (t : Tok) : DIn prog w im (.int i t) (.int i)
  | str (x : PySem.Str) (t : Tok) : DIn prog w im (.str x t) (.str x)
  | tuple {a : Addr} {vs : List Value} {n : Nat} {ds : List D} : (a, tupObj vs n) ∈ im → DAll prog w im vs ds → DIn prog w im (.ref a) (.tuple ds)
  | list {a : Addr} {vs : List Value} {n : Nat} {ds : List D} : (a, lstObj vs n) ∈ im → DAll prog w im vs ds → DIn prog w im (.ref a) (.list ds)
  | dict {a : Addr} {o : Obj} {kvs : List (PySem.Str × Int)} : (a, o) ∈ im → DictObj prog w o kvs → DIn prog w im (.ref a) (.dict kvs)
  | addr (a : Addr) : DIn prog w im (.ref a) (.addr a)
inductive DAll (prog : Program) (w : World) (im : Led) : List Value → List D → Prop
  | nil : DAll prog w im [] []
  | cons {v : Value} {vs : List Value} {d : D} {ds : List D} : DIn prog w im v d → DAll prog w im vs ds → DAll prog w im (v :: vs) (d :: ds)
end

section
variable {prog : Program} {w : World}
mutual
theorem DIn.mono {im im' : Led} (hs : ∀ p ∈ im, p ∈ im') : ∀ {v : Value} {d : D}, DIn prog w im v d → DIn prog w im' v d
  | _, _, .none => .none
  | _, _, .bool b => .bool b
  | _, _, .int i t => .int i t
  | _, _, .str x t => .str x t
  | _, _, .tuple h r => .tuple (hs _ h) (DAll.mono hs r)
  | _, _, .list h r => .list (hs _ h) (DAll.mono hs r)
  | _, _, .dict h r => .dict (hs _ h) r
  | _, _, .addr a => .addr a
theorem DAll.mono {im im' : Led} (hs : ∀ p ∈ im, p ∈ im') : ∀ {vs : List Value} {ds : List D}, DAll prog w im vs ds → DAll prog w im' vs ds
  | _, _, .nil => .nil
  | _, _, .cons h r => .cons (DIn.mono hs h) (DAll.mono hs r)
end
variable {im : Led} {v : Value} {d : D} {vs ws : List Value} {ds es : List D}
theorem DAll.length (h : DAll prog w im vs ds) : vs.length = ds.length := by
  induction vs generalizing ds with
  | nil => cases h; rfl
  | cons v vs ih =>
    cases h with
    | cons _ r => rw [List.length_cons, List.length_cons, ih r]
theorem DAll.append (h : DAll prog w im vs ds) (k : DAll prog w im ws es) : DAll prog w im (vs ++ ws) (ds ++ es) := by
  induction vs generalizing ds with
  | nil => cases h; exact k
  | cons v vs ih =>
    cases h with
    | cons h r => exact .cons h (ih r)
theorem DAll.get (h : DAll prog w im vs ds) {k : Nat} {d : D} (hk : ds[k]? = some d) : ∃ v, vs[k]? = some v ∧ DIn prog w im v d := by
  induction vs generalizing ds k with
  | nil => cases h; simp at hk
  | cons v vs ih =>
    cases h with
    | cons h r =>
      cases k with
      | zero => simp at hk; subst hk; exact ⟨v, rfl, h⟩
      | succ k => exact ih r (by simpa using hk)
theorem DAll.take (h : DAll prog w im vs ds) (k : Nat) : DAll prog w im (vs.take k) (ds.take k) := by
  induction vs generalizing ds k with
  | nil => cases h; simpa using DAll.nil
  | cons v vs ih =>
    cases h with
    | cons h r =>
      cases k with
      | zero => exact .nil
      | succ k => exact .cons h (ih r k)
theorem DAll.drop (h : DAll prog w im vs ds) (k : Nat) : DAll prog w im (vs.drop k) (ds.drop k) := by
  induction vs generalizing ds k with
  | nil => cases h; simpa using DAll.nil
  | cons v vs ih =>
    cases h with
    | cons h r =>
      cases k with
      | zero => exact .cons h r
      | succ k => exact ih r k
theorem DAll.set (h : DAll prog w im vs ds) {k : Nat} {v : Value} {d : D} (hv : DIn prog w im v d) : DAll prog w im (vs.set k v) (ds.set k d) := by
  induction vs generalizing ds k with
  | nil => cases h; simpa using DAll.nil
  | cons v vs ih =>
    cases h with
    | cons h r =>
      cases k with
      | zero => exact .cons hv r
      | succ k => exact .cons h (ih r)
end

/-- a datum without an address -/
def D.atom : D → Bool
  | .none => true
  | .bool _ => true
  | .int _ => true
  | .str _ => true
  | .addr _ => true
  | _ => false
theorem DIn.ofAtom {prog : Program} {w : World} {im im' : Led} {v : Value} {d : D} (h : DIn prog w im v d) (ha : d.atom = true) : DIn prog w im' v d := by
  cases h <;> first | cases ha; done | constructor

def Apart (a b : Led) : Prop := ∀ p ∈ a, ∀ q ∈ b, p.1 ≠ q.1
theorem Apart.symm {a b : Led} (h : Apart a b) : Apart b a := fun p hp q hq e => h q hq p hp e.symm

/-- how a state is laid out: the frame's names m; anybody else's objects ext, this frame's own changing objects mu, the data im -/
structure Lay (h₀ : Heap) (L : Addr) (h : Heap) (m : PySem.Str → Option Value) (ext mu im : Led) : Prop where
  F : Fr h₀ L h m
  N : News h₀ L h (ext ++ (mu ++ im))
  a1 : Apart ext mu
  a2 : Apart ext im
  a3 : Apart mu im

section
variable {h₀ h h' : Heap} {L : Addr} {m : PySem.Str → Option Value} {ext mu im : Led}
theorem Lay.nExt (l : Lay h₀ L h m ext mu im) : News h₀ L h ext := fun p hp => l.N p (List.mem_append.mpr (.inl hp))
theorem Lay.nMu (l : Lay h₀ L h m ext mu im) : News h₀ L h mu := fun p hp => l.N p (List.mem_append.mpr (.inr (List.mem_append.mpr (.inl hp))))
theorem Lay.nIm (l : Lay h₀ L h m ext mu im) : News h₀ L h im := fun p hp => l.N p (List.mem_append.mpr (.inr (List.mem_append.mpr (.inr hp))))
theorem Lay.nVis (l : Lay h₀ L h m ext mu im) : News h₀ L h (mu ++ im) := fun p hp => l.N p (List.mem_append.mpr (.inr hp))
theorem Lay.keeps (l : Lay h₀ L h m ext mu im) (hk : ∀ b o, h.get? b = some o → h'.get? b = some o) : Lay h₀ L h' m ext mu im :=
  ⟨l.F.keeps hk, fun p hp => ⟨hk _ _ (l.N p hp).1, (l.N p hp).2⟩, l.a1, l.a2, l.a3⟩
/-- a new object joins the data -/
theorem Lay.join (l : Lay h₀ L h m ext mu im) (hk : ∀ b o, h.get? b = some o → h'.get? b = some o) {a : Addr} {o : Obj} (hn : h.objs.size ≤ a) (ho : h'.get? a = some o) : Lay h₀ L h' m ext mu ((a, o) :: im) := by
  have fresh : ∀ p : Addr × Obj, h.get? p.1 = some p.2 → p.1 ≠ a := fun p hp e => absurd (Heap.lt_size hp) (by rw [e]; exact Nat.not_lt.mpr hn)
  have hL : a ≠ L := fun e => absurd l.F.ns.lt (by rw [← e]; exact Nat.not_lt.mpr hn)
  have h0 : h₀.get? a = none := by
    cases q : h₀.get? a with
    | none => rfl
    | some o' => exact absurd (Heap.lt_size (l.F.keep _ _ q)) (Nat.not_lt.mpr hn)
  refine ⟨l.F.keeps hk, fun p hp => ?_, l.a1, fun p hp q hq => ?_, fun p hp q hq => ?_⟩
  · rcases List.mem_append.mp hp with hp | hp
    · exact ⟨hk _ _ (l.nExt p hp).1, (l.nExt p hp).2⟩
    · rcases List.mem_append.mp hp with hp | hp
      · exact ⟨hk _ _ (l.nMu p hp).1, (l.nMu p hp).2⟩
      · rcases List.mem_cons.mp hp with rfl | hp
        · exact ⟨ho, hL, h0⟩
        · exact ⟨hk _ _ (l.nIm p hp).1, (l.nIm p hp).2⟩
  · rcases List.mem_cons.mp hq with rfl | hq
    · exact fresh p (l.nExt p hp).1
    · exact l.a2 p hp q hq
  · rcases List.mem_cons.mp hq with rfl | hq
    · exact fresh p (l.nMu p hp).1
    · exact l.a3 p hp q hq
theorem Lay.push (l : Lay h₀ L h m ext mu im) (o : Obj) (hf : o.isFreed = false := by rfl) : Lay h₀ L (h.push o) m ext mu ((h.objs.size, o) :: im) :=
  l.join (fun _ _ e => Heap.get?_push_of_some _ e) (Nat.le_refl _) (Heap.get?_push_size _ hf)
/-- a local name is stored -/
theorem Lay.set (l : Lay h₀ L h m ext mu im) {m' : PySem.Str → Option Value} (hn : h'.Ns L m') (hs : Heap.SameBut L h h') : Lay h₀ L h' m' ext mu im :=
  ⟨l.F.set hn hs, l.N.set hs, l.a1, l.a2, l.a3⟩
/-- the own objects become data -/
theorem Lay.settle (l : Lay h₀ L h m ext mu im) : Lay h₀ L h m ext [] (mu ++ im) :=
  ⟨l.F, fun p hp => l.N p (by simpa using hp), fun _ _ _ hq => (nomatch hq), fun p hp q hq => (List.mem_append.mp hq).elim (l.a1 p hp q) (l.a2 p hp q), fun _ hp => (nomatch hp)⟩
end

/-- a name of the frame at hand and its value -/
inductive Var (env : Env) (L : Addr) (m : PySem.Str → Option Value) (mu : Led) (x : PySem.Str) (v : Value) : Prop
  | loc : env.locals = L → env.kindOf x = some .local → m x = some v → Var env L m mu x v
  | comp {o : Obj} {m₂ : PySem.Str → Option Value} : (env.locals, o) ∈ mu → NsObj o m₂ → env.kindOf x = some .local → m₂ x = some v → Var env L m mu x v
  | cell {c : Addr} {o : Obj} : env.kindOf x = some .cell → env.cells.lookup x = some c → (c, o) ∈ mu → o.data = .cell (some v) → Var env L m mu x v

/-- the names' data: s, settled; u, the one that may change -/
structure Vs where
  s : List (PySem.Str × D)
  u : Option (PySem.Str × D) := none

/-- x holds an object of this frame's own -/
def Own (prog : Program) (w : World) (mu im : Led) (v : Value) : D → Prop
  | .list ds => ∃ a vs n, v = .ref a ∧ (a, lstObj vs n) ∈ mu ∧ DAll prog w im vs ds
  | .dict kvs => ∃ a o, v = .ref a ∧ (a, o) ∈ mu ∧ DictObj prog w o kvs
  | _ => False

structure Holds (prog : Program) (w : World) (env : Env) (L : Addr) (m : PySem.Str → Option Value) (mu im : Led) (V : Vs) : Prop where
  s : ∀ x d, V.s.lookup x = some d → ∃ v, Var env L m mu x v ∧ DIn prog w im v d
  u : ∀ x d, V.u = some (x, d) → ∃ v, Var env L m mu x v ∧ Own prog w mu im v d

theorem Own.mono {prog : Program} {w : World} {mu im im' : Led} {v : Value} {d : D} (hs : ∀ p ∈ im, p ∈ im') (h : Own prog w mu im v d) : Own prog w mu im' v d := by
  cases d with
  | list ds => obtain ⟨a, vs, n, e, hm, hd⟩ := h; exact ⟨a, vs, n, e, hm, hd.mono hs⟩
  | dict kvs => exact h
  | _ => exact h.elim
theorem Own.dIn {prog : Program} {w : World} {mu im : Led} {v : Value} {d : D} (h : Own prog w mu im v d) : DIn prog w (mu ++ im) v d := by
  cases d with
  | list ds => obtain ⟨a, vs, n, rfl, hm, hd⟩ := h; exact .list (List.mem_append.mpr (.inl hm)) (hd.mono fun p hp => List.mem_append.mpr (.inr hp))
  | dict kvs => obtain ⟨a, o, rfl, hm, hd⟩ := h; exact .dict (List.mem_append.mpr (.inl hm)) hd
  | _ => exact h.elim
theorem Holds.mono {prog : Program} {w : World} {env : Env} {L : Addr} {m : PySem.Str → Option Value} {mu im im' : Led} {V : Vs} (h : Holds prog w env L m mu im V) (hs : ∀ p ∈ im, p ∈ im') : Holds prog w env L m mu im' V :=
  ⟨fun x d e => let ⟨v, hv, hd⟩ := h.s x d e; ⟨v, hv, hd.mono hs⟩, fun x d e => let ⟨v, hv, hd⟩ := h.u x d e; ⟨v, hv, hd.mono hs⟩⟩
theorem Holds.weaken {prog : Program} {w : World} {env : Env} {L : Addr} {m : PySem.Str → Option Value} {mu im : Led} {V V' : Vs} (h : Holds prog w env L m mu im V)
    (hs : ∀ x d, V'.s.lookup x = some d → V.s.lookup x = some d) (hu : ∀ x d, V'.u = some (x, d) → V.u = some (x, d)) : Holds prog w env L m mu im V' :=
  ⟨fun x d e => h.s x d (hs x d e), fun x d e => h.u x d (hu x d e)⟩

def vis (b : Bool) (mu im : Led) : Led := if b then im else mu ++ im
theorem vis_mono {b : Bool} {mu im im' : Led} (hs : ∀ p ∈ im, p ∈ im') : ∀ p ∈ vis b mu im, p ∈ vis b mu im' := by
  cases b with
  | true => exact hs
  | false => exact fun p hp => (List.mem_append.mp hp).elim (fun h => List.mem_append.mpr (.inl h)) fun h => List.mem_append.mpr (.inr (hs p h))
theorem vis_im {b : Bool} {mu im : Led} : ∀ p ∈ im, p ∈ vis b mu im := by
  cases b with
  | true => exact fun _ h => h
  | false => exact fun p hp => List.mem_append.mpr (.inr hp)
theorem vis_all {b : Bool} {mu im : Led} : ∀ p ∈ vis b mu im, p ∈ mu ++ im := by
  cases b with
  | true => exact fun p hp => List.mem_append.mpr (.inr hp)
  | false => exact fun _ h => h
theorem Lay.nV {h₀ h : Heap} {L : Addr} {m : PySem.Str → Option Value} {ext mu im : Led} (l : Lay h₀ L h m ext mu im) (b : Bool) : News h₀ L h (vis b mu im) := fun p hp => l.nVis p (vis_all p hp)

/-- what stays the same through the whole call -/
structure Wd where
  prog : Program
  w : World
  K : Frag
  p : Program
  loose : List PySem.Str
  mean : ExcName → Option Value
  mg : PySem.Str → Option Value
  mb : PySem.Str → Option Value
  scA : Addr
  scN : List Int

structure Mach (W : Wd) (A : Around) (fe : Env) (h₀ : Heap) (L : Addr) (lvl : Nat) : Prop where
  hh : A.handled = none
  fr : fe.frame = some L
  kd : fe.scope.kind = .function
  X : W.K.In h₀
  T : Top W.p W.loose W.mean W.mg W.mb h₀
  room : A.depth + lvl < recursionLimit
  un : A.units + 100 * lvl < cLine
  sc : ∃ vs, h₀.IsList W.scA vs.toArray ∧ IntsAre vs W.scN
  sm : ∃ o, h₀.get? sysModules = some o

theorem Mach.le {W : Wd} {A : Around} {fe : Env} {h₀ : Heap} {L : Addr} {l k : Nat} (M : Mach W A fe h₀ L l) (h : k ≤ l) : Mach W A fe h₀ L k :=
  ⟨M.hh, M.fr, M.kd, M.X, M.T, by have := M.room; omega, by have := M.un; omega, M.sc, M.sm⟩

/-- the environment's plain parts -/
structure EnvOk (env : Env) : Prop where
  g : env.globals = mainGlobals
  b : env.builtins = builtinsNs
  k : env.scope.kind = .function

/-- a tree of values gives a datum and leaves all as it is -/
def Gv (W : Wd) (b : Bool) (lvl : Nat) (env : Env) (V : Vs) (t : Sem Value) (d : D) : Prop :=
  ∀ (A : Around) (fe : Env) (h₀ : Heap) (L : Addr) (m : PySem.Str → Option Value) (ext mu im : Led) (s : Shared) (Q : Value → Shared → Prop) (E : Value → Shared → Prop),
    Mach W A fe h₀ L lvl → Lay h₀ L s.heap m ext mu im → Holds W.prog W.w env L m mu im V →
    (∀ v h' tk' im', Lay h₀ L h' m ext mu im' → (∀ p ∈ im, p ∈ im') → DIn W.prog W.w (vis b mu im') v d → Q v { s with heap := h', toks := tk' }) →
    wpAny (model W.prog W.w) A t Q E s

def Ev (W : Wd) (b : Bool) (lvl : Nat) (env : Env) (V : Vs) (e : PySem.Expr) (d : D) : Prop := Gv W b lvl env V (eval e env) d

/-- a test -/
def Tv (W : Wd) (lvl : Nat) (env : Env) (V : Vs) (t : Sem Bool) (c : Bool) : Prop :=
  ∀ (A : Around) (fe : Env) (h₀ : Heap) (L : Addr) (m : PySem.Str → Option Value) (ext mu im : Led) (s : Shared) (Q : Bool → Shared → Prop) (E : Value → Shared → Prop),
    Mach W A fe h₀ L lvl → Lay h₀ L s.heap m ext mu im → Holds W.prog W.w env L m mu im V →
    (∀ h' tk' im', Lay h₀ L h' m ext mu im' → (∀ p ∈ im, p ∈ im') → Q c { s with heap := h', toks := tk' }) →
    wpAny (model W.prog W.w) A t Q E s
def Tr (W : Wd) (lvl : Nat) (env : Env) (V : Vs) (e : PySem.Expr) (c : Bool) : Prop := Tv W lvl env V (isTrue e env (eval e env)) c

end Mine

namespace Mine
open PySem PySem.W PyProof.Rows PySem.Spec PySem.Calls PyProof.Rows.LCg

section
variable {W : Wd} {b : Bool} {lvl : Nat} {env : Env} {V : Vs}

theorem sub_refl {im : Led} : ∀ p ∈ im, p ∈ im := fun _ h => h
theorem sub_trans {a b c : Led} (h : ∀ p ∈ a, p ∈ b) (k : ∀ p ∈ b, p ∈ c) : ∀ p ∈ a, p ∈ c := fun p hp => k p (h p hp)
theorem sub_cons {im : Led} {q : Addr × Obj} : ∀ p ∈ im, p ∈ q :: im := fun _ h => List.mem_cons_of_mem _ h

theorem Var.load {env : Env} {h₀ : Heap} {L : Addr} {m : PySem.Str → Option Value} {ext mu im : Led} {x : PySem.Str} {v : Value} {M : Model} {A : Around} {E : Value → Shared → Prop} {s : Shared} {Q : Value → Shared → Prop}
    (hk : env.scope.kind = .function) (l : Lay h₀ L s.heap m ext mu im) (hv : Var env L m mu x v) (h : Q v s) : wpAny M A (loadName env x) Q E s := by
  cases hv with
  | loc e hl hm => subst e; exact wpAny_loadName_local hk hl l.F.ns hm h
  | comp hm hn hl hv => exact wpAny_loadName_local hk hl (hn.ns (l.nMu _ hm).1) hv h
  | cell hl hc hm hd => exact wpAny_loadName_cell hk hl hc ⟨_, (l.nMu _ hm).1, hd⟩ h

theorem Ev.name {x : PySem.Str} {pos : Pos} {d : D} (he : EnvOk env) (hx : V.s.lookup x = some d) (hd : (x == ("__debug__" : PySem.Str)) = false := by decide) : Ev W b lvl env V (.Name x pos) d := by
  intro A fe h₀ L m ext mu im s Q E M l H k
  obtain ⟨v, hv, hd'⟩ := H.s x d hx
  exact wpAny_Name (hv.load he.k l (k v s.heap s.toks im l sub_refl (hd'.mono vis_im))) hd
theorem Ev.nameU {x : PySem.Str} {pos : Pos} {d : D} (he : EnvOk env) (hx : V.u = some (x, d)) (hd : (x == ("__debug__" : PySem.Str)) = false := by decide) : Ev W false lvl env V (.Name x pos) d := by
  intro A fe h₀ L m ext mu im s Q E M l H k
  obtain ⟨v, hv, hd'⟩ := H.u x d hx
  exact wpAny_Name (hv.load he.k l (k v s.heap s.toks im l sub_refl hd'.dIn)) hd
theorem Gv.ofAtom {t : Sem Value} {d : D} (h : Gv W false lvl env V t d) (ha : d.atom = true := by rfl) : Gv W b lvl env V t d := by
  intro A fe h₀ L m ext mu im s Q E M l H k
  exact h A fe h₀ L m ext mu im s Q E M l H fun v h' tk' im' l' hs hd => k v h' tk' im' l' hs (hd.ofAtom ha)
theorem Gv.weak {t : Sem Value} {d : D} (h : Gv W true lvl env V t d) : Gv W b lvl env V t d := by
  intro A fe h₀ L m ext mu im s Q E M l H k
  exact h A fe h₀ L m ext mu im s Q E M l H fun v h' tk' im' l' hs hd => k v h' tk' im' l' hs (DIn.mono vis_im hd)
theorem Ev.cInt {i : Int} {kd : Nat} {pos : Pos} : Ev W b lvl env V (.Constant (.int i) kd pos) (.int i) := by
  intro A fe h₀ L m ext mu im s Q E M l H k
  exact wpAny_Constant_int (k _ s.heap _ im l sub_refl (.int _ _))
theorem Ev.cStr {x : PySem.Str} {kd : Nat} {pos : Pos} : Ev W b lvl env V (.Constant (.str x) kd pos) (.str x) := by
  intro A fe h₀ L m ext mu im s Q E M l H k
  exact wpAny_Constant_str (k _ s.heap _ im l sub_refl (.str _ _))
theorem Ev.cNone {kd : Nat} {pos : Pos} : Ev W b lvl env V (.Constant .none kd pos) .none := by
  intro A fe h₀ L m ext mu im s Q E M l H k
  exact wpAny_Constant_none (k _ s.heap s.toks im l sub_refl .none)
theorem Ev.cBool {c : Bool} {kd : Nat} {pos : Pos} : Ev W b lvl env V (.Constant (.bool c) kd pos) (.bool c) := by
  intro A fe h₀ L m ext mu im s Q E M l H k
  exact wpAny_Constant_bool (k _ s.heap s.toks im l sub_refl (.bool _))

/-- an operation of one or two values -/
def Op1 (W : Wd) (b : Bool) (lvl : Nat) (f : Value → Sem Value) (d₁ d : D) : Prop :=
  ∀ (A : Around) (fe : Env) (h₀ : Heap) (L : Addr) (m : PySem.Str → Option Value) (ext mu im : Led) (s : Shared) (Q : Value → Shared → Prop) (E : Value → Shared → Prop) (v₁ : Value),
    Mach W A fe h₀ L lvl → Lay h₀ L s.heap m ext mu im → DIn W.prog W.w (vis b mu im) v₁ d₁ →
    (∀ v h' tk' im', Lay h₀ L h' m ext mu im' → (∀ p ∈ im, p ∈ im') → DIn W.prog W.w (vis b mu im') v d → Q v { s with heap := h', toks := tk' }) →
    wpAny (model W.prog W.w) A (f v₁) Q E s
def Op2 (W : Wd) (b : Bool) (lvl : Nat) (f : Value → Value → Sem Value) (d₁ d₂ d : D) : Prop :=
  ∀ (A : Around) (fe : Env) (h₀ : Heap) (L : Addr) (m : PySem.Str → Option Value) (ext mu im : Led) (s : Shared) (Q : Value → Shared → Prop) (E : Value → Shared → Prop) (v₁ v₂ : Value),
    Mach W A fe h₀ L lvl → Lay h₀ L s.heap m ext mu im → DIn W.prog W.w (vis b mu im) v₁ d₁ → DIn W.prog W.w (vis b mu im) v₂ d₂ →
    (∀ v h' tk' im', Lay h₀ L h' m ext mu im' → (∀ p ∈ im, p ∈ im') → DIn W.prog W.w (vis b mu im') v d → Q v { s with heap := h', toks := tk' }) →
    wpAny (model W.prog W.w) A (f v₁ v₂) Q E s

theorem Gv.one {t : Sem Value} {f : Value → Sem Value} {d₁ d : D} (h : Gv W b lvl env V t d₁) (o : Op1 W b lvl f d₁ d) :
    ∀ (A : Around) (fe : Env) (h₀ : Heap) (L : Addr) (m : PySem.Str → Option Value) (ext mu im : Led) (s : Shared) (Q : Value → Shared → Prop) (E : Value → Shared → Prop),
    Mach W A fe h₀ L lvl → Lay h₀ L s.heap m ext mu im → Holds W.prog W.w env L m mu im V →
    (∀ v h' tk' im', Lay h₀ L h' m ext mu im' → (∀ p ∈ im, p ∈ im') → DIn W.prog W.w (vis b mu im') v d → Q v { s with heap := h', toks := tk' }) →
    wpAny (model W.prog W.w) A t (fun v s₁ => wpAny (model W.prog W.w) A (f v) Q E s₁) E s := by
  intro A fe h₀ L m ext mu im s Q E M l H k
  refine h A fe h₀ L m ext mu im s _ E M l H fun v₁ h₁ t₁ im₁ l₁ s₁ hd₁ => ?_
  exact o A fe h₀ L m ext mu im₁ _ Q E v₁ M l₁ hd₁ fun v h' tk' im' l' hs hd => k v h' tk' im' l' (sub_trans s₁ hs) hd
theorem Gv.two {t u : Sem Value} {f : Value → Value → Sem Value} {d₁ d₂ d : D} (h : Gv W b lvl env V t d₁) (h' : Gv W b lvl env V u d₂) (o : Op2 W b lvl f d₁ d₂ d) :
    ∀ (A : Around) (fe : Env) (h₀ : Heap) (L : Addr) (m : PySem.Str → Option Value) (ext mu im : Led) (s : Shared) (Q : Value → Shared → Prop) (E : Value → Shared → Prop),
    Mach W A fe h₀ L lvl → Lay h₀ L s.heap m ext mu im → Holds W.prog W.w env L m mu im V →
    (∀ v h' tk' im', Lay h₀ L h' m ext mu im' → (∀ p ∈ im, p ∈ im') → DIn W.prog W.w (vis b mu im') v d → Q v { s with heap := h', toks := tk' }) →
    wpAny (model W.prog W.w) A t (fun v s₁ => wpAny (model W.prog W.w) A u (fun v' s₂ => wpAny (model W.prog W.w) A (f v v') Q E s₂) E s₁) E s := by
  intro A fe h₀ L m ext mu im s Q E M l H k
  refine h A fe h₀ L m ext mu im s _ E M l H fun v₁ h₁ t₁ im₁ l₁ s₁ hd₁ => ?_
  refine h' A fe h₀ L m ext mu im₁ _ _ E M l₁ (H.mono s₁) fun v₂ h₂ t₂ im₂ l₂ s₂ hd₂ => ?_
  exact o A fe h₀ L m ext mu im₂ _ Q E v₁ v₂ M l₂ (hd₁.mono (vis_mono s₂)) hd₂ fun v h' tk' im' l' hs hd => k v h' tk' im' l' (sub_trans s₁ (sub_trans s₂ hs)) hd

theorem Ev.bin {x y : PySem.Expr} {op : Operator} {pos : Pos} {d₁ d₂ d : D} (h : Ev W b lvl env V x d₁) (h' : Ev W b lvl env V y d₂) (o : Op2 W b lvl (binaryOp op) d₁ d₂ d) : Ev W b lvl env V (.BinOp x op y pos) d := by
  intro A fe h₀ L m ext mu im s Q E M l H k
  exact wpAny_BinOp (Gv.two h h' o A fe h₀ L m ext mu im s Q E M l H k)
theorem Ev.cmp {x y : PySem.Expr} {op : CmpOp} {pos : Pos} {d₁ d₂ d : D} (h : Ev W b lvl env V x d₁) (h' : Ev W b lvl env V y d₂) (o : Op2 W b lvl (compareOp op) d₁ d₂ d)
    (hm : behindInMarks op y = false := by with_unfolding_all rfl) : Ev W b lvl env V (.Compare x [op] [y] pos) d := by
  intro A fe h₀ L m ext mu im s Q E M l H k
  exact wpAny_Compare1 (Gv.two h h' o A fe h₀ L m ext mu im s Q E M l H k) hm
theorem Tr.cmp {x y : PySem.Expr} {op : CmpOp} {pos : Pos} {d₁ d₂ : D} {c : Bool} (b : Bool) (h : Ev W b lvl env V x d₁) (h' : Ev W b lvl env V y d₂) (o : Op2 W b lvl (compareOp op) d₁ d₂ (.bool c))
    (hm : behindInMarks op y = false := by with_unfolding_all rfl) : Tr W lvl env V (.Compare x [op] [y] pos) c := by
  intro A fe h₀ L m ext mu im s Q E M l H k
  refine wpAny_isTrue_Compare1 (Gv.two h h' o A fe h₀ L m ext mu im s _ E M l H fun v h' tk' im' l' hs hd => ?_) hm
  cases hd
  exact wpAny_truthy_bool (k h' tk' im' l' hs)
theorem Ev.unary {x : PySem.Expr} {op : UnaryOp} {pos : Pos} {d₁ d : D} (h : Ev W b lvl env V x d₁) (o : Op1 W b lvl (unaryOp op) d₁ d) : Ev W b lvl env V (.UnaryOp op x pos) d := by
  intro A fe h₀ L m ext mu im s Q E M l H k
  exact wpAny_UnaryOp (Gv.one h o A fe h₀ L m ext mu im s Q E M l H k)
theorem Ev.ifExp {t x y : PySem.Expr} {pos : Pos} {c : Bool} {d : D} (h : Tr W lvl env V t c) (h1 : c = true → Ev W b lvl env V x d) (h2 : c = false → Ev W b lvl env V y d) : Ev W b lvl env V (.IfExp t x y pos) d := by
  intro A fe h₀ L m ext mu im s Q E M l H k
  refine wpAny_IfExp (h A fe h₀ L m ext mu im s _ E M l H fun h' tk' im' l' hs => ?_)
  cases c with
  | true => exact h1 rfl A fe h₀ L m ext mu im' _ Q E M l' (H.mono hs) fun v h₂ t₂ im₂ l₂ s₂ hd => k v h₂ t₂ im₂ l₂ (sub_trans hs s₂) hd
  | false => exact h2 rfl A fe h₀ L m ext mu im' _ Q E M l' (H.mono hs) fun v h₂ t₂ im₂ l₂ s₂ hd => k v h₂ t₂ im₂ l₂ (sub_trans hs s₂) hd

/-- a row of expressions -/
inductive Evs (W : Wd) (b : Bool) (lvl : Nat) (env : Env) (V : Vs) : List PySem.Expr → List D → Prop
  | nil : Evs W b lvl env V [] []
  | cons {e : PySem.Expr} {es : List PySem.Expr} {d : D} {ds : List D} (h : Ev W b lvl env V e d) (r : Evs W b lvl env V es ds) (hs : ∀ rest, starEach (e :: rest) env = (false, eval e env) :: starEach rest env := by intro _; rfl) : Evs W b lvl env V (e :: es) (d :: ds)

theorem Evs.plain {es : List PySem.Expr} {ds : List D} (h : Evs W b lvl env V es ds) (pos : Pos) : (backTo pos (starEach es env)).any (·.1) = false := by
  induction h with
  | nil => rfl
  | cons h r hs ih => rw [hs]; simpa [backTo] using ih

theorem Evs.length {es : List PySem.Expr} {ds : List D} (h : Evs W b lvl env V es ds) : ds.length = es.length := by
  induction h with
  | nil => rfl
  | cons h r hs ih => rw [List.length_cons, List.length_cons, ih]
theorem fits1000 {k : Nat} (h : k ≤ 1000) : k ≤ sizeLine := Nat.le_trans h (by decide)

theorem Evs.run {es : List PySem.Expr} {ds : List D} (h : Evs W b lvl env V es ds) (pos : Pos) :
    ∀ (A : Around) (fe : Env) (h₀ : Heap) (L : Addr) (m : PySem.Str → Option Value) (ext mu im : Led) (s : Shared) (Q : List Value → Shared → Prop) (E : Value → Shared → Prop),
    Mach W A fe h₀ L lvl → Lay h₀ L s.heap m ext mu im → Holds W.prog W.w env L m mu im V →
    (∀ vs h' tk' im', Lay h₀ L h' m ext mu im' → (∀ p ∈ im, p ∈ im') → DAll W.prog W.w (vis b mu im') vs ds → Q vs { s with heap := h', toks := tk' }) →
    wpAny (model W.prog W.w) A (spliced (backTo pos (starEach es env))) Q E s := by
  induction h with
  | nil =>
    intro A fe h₀ L m ext mu im s Q E M l H k
    exact spliced_nil (k [] s.heap s.toks im l sub_refl .nil)
  | @cons e es d ds h r hs ih =>
    intro A fe h₀ L m ext mu im s Q E M l H k
    rw [hs]
    refine spliced_cons (h A fe h₀ L m ext mu im s _ E M l H fun v h₁ t₁ im₁ l₁ s₁ hd => ?_)
    refine ih A fe h₀ L m ext mu im₁ _ _ E M l₁ (H.mono s₁) fun vs h₂ t₂ im₂ l₂ s₂ hds => ?_
    exact k _ h₂ t₂ im₂ l₂ (sub_trans s₁ s₂) (.cons (hd.mono (vis_mono s₂)) hds)

theorem Ev.tuple {es : List PySem.Expr} {ds : List D} {kd : Nat} {pos : Pos} (h : Evs W b lvl env V es ds) (hsz : es.length ≤ 1000 := by decide) : Ev W b lvl env V (.Tuple es kd pos) (.tuple ds) := by
  intro A fe h₀ L m ext mu im s Q E M l H k
  refine Tuple_ (h.run pos A fe h₀ L m ext mu im s _ E M l H fun vs h₁ t₁ im₁ l₁ s₁ hd => ?_)
  refine wpAny_newObj_type (k _ _ t₁ _ (l₁.push _) (sub_trans s₁ sub_cons) (.tuple (vis_im _ (.head _)) (hd.mono (vis_mono sub_cons)))) ?_
  show vs.toArray.size ≤ sizeLine
  rw [List.size_toArray, hd.length, h.length]; exact fits1000 hsz
theorem Ev.list {es : List PySem.Expr} {ds : List D} {pos : Pos} (h : Evs W b lvl env V es ds) (hsz : es.length ≤ 1000 := by decide) : Ev W b lvl env V (.List es pos) (.list ds) := by
  intro A fe h₀ L m ext mu im s Q E M l H k
  refine List_ (h.run pos A fe h₀ L m ext mu im s _ E M l H fun vs h₁ t₁ im₁ l₁ s₁ hd => ?_)
  refine wpAny_newObj_type (k _ _ t₁ _ (l₁.push _) (sub_trans s₁ sub_cons) (.list (vis_im _ (.head _)) (hd.mono (vis_mono sub_cons)))) ?_
  show vs.toArray.size ≤ sizeLine
  rw [List.size_toArray, hd.length, h.length]; exact fits1000 hsz

/-- a call of a def of the text -/
def Fn (W : Wd) (lvl : Nat) (f : Addr) (ds : List D) (d : D) : Prop :=
  ∀ (A : Around) (fe : Env) (h₀ : Heap) (L : Addr) (m : PySem.Str → Option Value) (ext mu im : Led) (s : Shared) (Q : Value → Shared → Prop) (E : Value → Shared → Prop) (vs : List Value),
    Mach W A fe h₀ L lvl → Lay h₀ L s.heap m ext mu im → DAll W.prog W.w im vs ds →
    (∀ v h' tk' im', Lay h₀ L h' m ext mu im' → (∀ p ∈ im, p ∈ im') → DIn W.prog W.w im' v d → Q v { s with heap := h', toks := tk' }) →
    wpAny (model W.prog W.w) A (call (.ref f) vs) Q E s

theorem starEach_ne {es : List PySem.Expr} {ds : List D} (h : Evs W b lvl env V es ds) {e : PySem.Expr} {r : List PySem.Expr} (he : es = e :: r) : starEach (e :: r) env = (false, eval e env) :: starEach r env := by
  cases h with
  | nil => cases he
  | cons h r hs => cases he; exact hs _
theorem Ev.callG {x : PySem.Str} {f : Addr} {e : PySem.Expr} {es : List PySem.Expr} {ds : List D} {d : D} {np pos : Pos} (he : EnvOk env) (hg : nsIn W.K mainGlobals x = some (some (.ref f))) (hk : keepIn W.K (.ref f) = true) (h : Evs W true lvl env V (e :: es) ds) (hf : Fn W lvl f ds d)
    (hx : env.kindOf x = some .globalImplicit) (hd : (x == ("__debug__" : PySem.Str)) = false := by decide) : Ev W b lvl env V (.Call (.Name x np) (e :: es) [] pos) d := by
  intro A fe h₀ L m ext mu im s Q E M l H k
  refine wpAny_Call_NameR (nameG_K l.F M.X (topRead_of M.T) hg ?_ he.g he.k hx hd)
  have hp : (backTo pos (starEach es env)).any (·.1) = false := by
    cases h with
    | cons h r hs => exact r.plain pos
  refine callWith_K M.X hk (h.run pos A fe h₀ L m ext mu im s _ E M l H fun vs h₁ t₁ im₁ l₁ s₁ hds => ⟨M.X.keeps l₁.F.keep, ?_⟩) (starEach_ne h rfl) hp
  exact hf A fe h₀ L m ext mu im₁ _ Q E vs M l₁ hds fun v h' tk' im' l' hs hd => k v h' tk' im' l' (sub_trans s₁ hs) (hd.mono vis_im)

theorem nameB {x : PySem.Str} {pos : Pos} {v : Value} {A : Around} {fe : Env} {h₀ : Heap} {L : Addr} {m : PySem.Str → Option Value} {E : Value → Shared → Prop} {s : Shared} {Q : Value → Shared → Prop} (M : Mach W A fe h₀ L lvl) (F : Fr h₀ L s.heap m) (he : EnvOk env) (hg : nsIn W.K mainGlobals x = some none) (hv : bootBuiltins x = some v)
    (hn : x ≠ "__name__") (hx : env.kindOf x = some .globalImplicit) (hd : (x == ("__debug__" : PySem.Str)) = false) (h : Q v s) : wpAny (model W.prog W.w) A (eval (.Name x pos) env) Q E s :=
  Name_function_global he.k hx (loadGlobal_builtin (env := env) (by rw [he.g]; exact M.T.g.keeps F.keep) (mg_none_of M.X M.T.g hg) (by rw [he.b]; exact M.T.b.keeps F.keep) ((M.T.builtins x hn).trans hv) h) hd

/-- a built-in type called with one value -/
theorem Ev.callT1 {x : PySem.Str} {T : String} {e : PySem.Expr} {d₁ d : D} {np pos : Pos} (he : EnvOk env) (hg : nsIn W.K mainGlobals x = some none) (hv : bootBuiltins x = some (.type T)) (h : Ev W b lvl env V e d₁) (o : Op1 W b lvl (fun v => call (.type T) [v]) d₁ d)
    (hx : env.kindOf x = some .globalImplicit) (hs : ∀ rest, starEach (e :: rest) env = (false, eval e env) :: starEach rest env := by intro _; rfl) (hn : x ≠ "__name__" := by decide) (hd : (x == ("__debug__" : PySem.Str)) = false := by decide) : Ev W b lvl env V (.Call (.Name x np) [e] [] pos) d := by
  intro A fe h₀ L m ext mu im s Q E M l H k
  refine wpAny_Call_NameR (nameB M l.F he hg hv hn hx hd ?_)
  refine PyProof.Rows.callWith_type1 ?_ (hs _) rfl
  rw [hs]
  exact spliced_cons (wpAny_mono (Gv.one h o A fe h₀ L m ext mu im s Q E M l H k) (fun v s₁ h₁ => spliced_nil h₁) fun _ _ e => e)
theorem Ev.callB1 {x : PySem.Str} {T : String} {e : PySem.Expr} {d₁ d : D} {np pos : Pos} (he : EnvOk env) (hg : nsIn W.K mainGlobals x = some none) (hv : bootBuiltins x = some (.builtin T)) (h : Ev W b lvl env V e d₁) (o : Op1 W b lvl (fun v => call (.builtin T) [v]) d₁ d)
    (hx : env.kindOf x = some .globalImplicit) (hs : ∀ rest, starEach (e :: rest) env = (false, eval e env) :: starEach rest env := by intro _; rfl) (hn : x ≠ "__name__" := by decide) (hd : (x == ("__debug__" : PySem.Str)) = false := by decide) : Ev W b lvl env V (.Call (.Name x np) [e] [] pos) d := by
  intro A fe h₀ L m ext mu im s Q E M l H k
  refine wpAny_Call_NameR (nameB M l.F he hg hv hn hx hd ?_)
  refine PyProof.Rows.callWith_builtin1 ?_ (hs _) rfl
  rw [hs]
  exact spliced_cons (wpAny_mono (Gv.one h o A fe h₀ L m ext mu im s Q E M l H k) (fun v s₁ h₁ => spliced_nil h₁) fun _ _ e => e)

theorem Ev.sub {x y : PySem.Expr} {pos : Pos} {d₁ d₂ d : D} (h : Ev W b lvl env V x d₁) (h' : Ev W b lvl env V y d₂) (o : Op2 W b lvl (subscriptTail x y) d₁ d₂ d) : Ev W b lvl env V (.Subscript x y pos) d := by
  intro A fe h₀ L m ext mu im s Q E M l H k
  exact Subscript_ (Gv.two h h' o A fe h₀ L m ext mu im s Q E M l H k)
end
end Mine

namespace Mine
open PySem PySem.W PyProof.Rows PySem.Spec PySem.Calls PyProof.Rows.LCg

section
variable {W : Wd} {b : Bool} {lvl : Nat} {env : Env} {V : Vs}

/-! ints -/
theorem op_add {i j : Int} : Op2 W b lvl (binaryOp .Add) (.int i) (.int j) (.int (i + j)) := by
  intro A fe h₀ L m ext mu im s Q E v₁ v₂ M l h1 h2 k
  cases h1; cases h2
  exact PyProof.Rows.add_int (k _ s.heap _ im l sub_refl (.int _ _))
theorem op_sub {i j : Int} : Op2 W b lvl (binaryOp .Sub) (.int i) (.int j) (.int (i - j)) := by
  intro A fe h₀ L m ext mu im s Q E v₁ v₂ M l h1 h2 k
  cases h1; cases h2
  exact PyProof.Rows.sub_int (k _ s.heap _ im l sub_refl (.int _ _))
theorem op_mul {i j : Int} (hm : IntMulOk i j) : Op2 W b lvl (binaryOp .Mult) (.int i) (.int j) (.int (i * j)) := by
  intro A fe h₀ L m ext mu im s Q E v₁ v₂ M l h1 h2 k
  cases h1; cases h2
  exact PyProof.Rows.mul_int (k _ s.heap _ im l sub_refl (.int _ _)) hm
theorem op_mod {i j : Int} (hj : j ≠ 0) : Op2 W b lvl (binaryOp .Mod) (.int i) (.int j) (.int (i.fmod j)) := by
  intro A fe h₀ L m ext mu im s Q E v₁ v₂ M l h1 h2 k
  cases h1; cases h2
  exact PyProof.Rows.mod_int hj (k _ s.heap _ im l sub_refl (.int _ _))
theorem op_div {i j : Int} (hj : j ≠ 0) (hl : j.natAbs.log2 < 9000) : Op2 W b lvl (binaryOp .FloorDiv) (.int i) (.int j) (.int (i.fdiv j)) := by
  intro A fe h₀ L m ext mu im s Q E v₁ v₂ M l h1 h2 k
  cases h1; cases h2
  exact PyProof.Rows.floordiv_int hj (k _ s.heap _ im l sub_refl (.int _ _)) (.inl (PyProof.noPylong_of_log2 hl))
theorem op_neg {i : Int} : Op1 W b lvl (unaryOp .USub) (.int i) (.int (-i)) := by
  intro A fe h₀ L m ext mu im s Q E v₁ M l h1 k
  cases h1
  exact PyProof.Rows.neg_int (k _ s.heap _ im l sub_refl (.int _ _))
theorem op_eqInt {i j : Int} : Op2 W b lvl (compareOp .Eq) (.int i) (.int j) (.bool (i == j)) := by
  intro A fe h₀ L m ext mu im s Q E v₁ v₂ M l h1 h2 k
  cases h1; cases h2
  exact wpAny_eq_int (k _ s.heap s.toks im l sub_refl (.bool _))

/-! texts -/
theorem op_cat {x y : PySem.Str} (hsz : x.length + y.length ≤ sizeLine) : Op2 W b lvl (binaryOp .Add) (.str x) (.str y) (.str (x ++ y)) := by
  intro A fe h₀ L m ext mu im s Q E v₁ v₂ M l h1 h2 k
  cases h1; cases h2
  exact PyProof.Rows.add_str (fun t' tk => k _ s.heap tk im l sub_refl (.str _ _)) hsz
theorem op_eqStr {x y : PySem.Str} : Op2 W b lvl (compareOp .Eq) (.str x) (.str y) (.bool (x == y)) := by
  intro A fe h₀ L m ext mu im s Q E v₁ v₂ M l h1 h2 k
  cases h1; cases h2
  exact PyProof.Rows.eq_str (k _ s.heap s.toks im l sub_refl (.bool _))
theorem op_neStr {x y : PySem.Str} : Op2 W b lvl (compareOp .NotEq) (.str x) (.str y) (.bool (x != y)) := by
  intro A fe h₀ L m ext mu im s Q E v₁ v₂ M l h1 h2 k
  cases h1; cases h2
  exact PyProof.Rows.ne_str (k _ s.heap s.toks im l sub_refl (.bool _))
theorem op_ltStr {x y : PySem.Str} : Op2 W b lvl (compareOp .Lt) (.str x) (.str y) (.bool (x.cps.toList < y.cps.toList)) := by
  intro A fe h₀ L m ext mu im s Q E v₁ v₂ M l h1 h2 k
  cases h1; cases h2
  exact PyProof.Rows.lt_str (k _ s.heap s.toks im l sub_refl (.bool _))
theorem op_strInt {i : Int} (hi : i.natAbs.log2 < 1920) : Op1 W b lvl (fun v => call (.type "str") [v]) (.int i) (.str (Str.ofString (toString i))) := by
  intro A fe h₀ L m ext mu im s Q E v₁ M l h1 k
  cases h1
  exact P.str_of_int hi (k _ s.heap _ im l sub_refl (.str _ _))
theorem op_intText {x : PySem.Str} {n : Int} (hn : PySem.intText? x = some n) (hl : x.length ≤ 640) : Op1 W b lvl (fun v => call (.type "int") [v]) (.str x) (.int n) := by
  intro A fe h₀ L m ext mu im s Q E v₁ M l h1 k
  cases h1
  exact KIN.call_text hn hl (k _ s.heap _ im l sub_refl (.int _ _))

/-! None -/
def D.isNone : D → Bool
  | .none => true
  | _ => false
theorem op_isNone {d : D} : Op2 W b lvl (compareOp .Is) d .none (.bool d.isNone) := by
  intro A fe h₀ L m ext mu im s Q E v₁ v₂ M l h1 h2 k
  cases h2
  have k' : ∀ c, c = d.isNone → Q (.bool c) s := fun c e => e ▸ k _ s.heap s.toks im l sub_refl (.bool _)
  cases h1 with
  | none => exact wpAny_is_self rfl (k' _ rfl)
  | bool c => exact is_bool_none (k' _ rfl)
  | int i t => exact is_int_none (k' _ rfl)
  | str x t => exact is_str_none (k' _ rfl)
  | tuple _ _ => exact is_ref_none (k' _ rfl)
  | list _ _ => exact is_ref_none (k' _ rfl)
  | dict _ _ => exact is_ref_none (k' _ rfl)
  | addr _ => exact is_ref_none (k' _ rfl)
theorem op_isNotNone {d : D} : Op2 W b lvl (compareOp .IsNot) d .none (.bool (!d.isNone)) := by
  intro A fe h₀ L m ext mu im s Q E v₁ v₂ M l h1 h2 k
  cases h2
  have k' : ∀ c, c = !d.isNone → Q (.bool c) s := fun c e => e ▸ k _ s.heap s.toks im l sub_refl (.bool _)
  cases h1 with
  | none => exact wpAny_isNot_self rfl (k' _ rfl)
  | bool c => exact isnot_bool_none (k' _ rfl)
  | int i t => exact isnot_int_none (k' _ rfl)
  | str x t => exact isnot_str_none (k' _ rfl)
  | tuple _ _ => exact isnot_ref_none (k' _ rfl)
  | list _ _ => exact isnot_ref_none (k' _ rfl)
  | dict _ _ => exact isnot_ref_none (k' _ rfl)
  | addr _ => exact isnot_ref_none (k' _ rfl)

/-! lists and tuples -/
theorem DIn.isList {h₀ h : Heap} {L : Addr} {im : Led} {a : Addr} {vs : List Value} {n : Nat} (N : News h₀ L h im) (hm : (a, lstObj vs n) ∈ im) : h.IsList a vs.toArray := ⟨_, (N _ hm).1, rfl, n, rfl⟩
theorem DIn.isTup {h₀ h : Heap} {L : Addr} {im : Led} {a : Addr} {vs : List Value} {n : Nat} (N : News h₀ L h im) (hm : (a, tupObj vs n) ∈ im) : IsTup h a vs.toArray := ⟨_, (N _ hm).1, rfl, n, rfl⟩
theorem op_catList {ds es : List D} (hsz : ds.length + es.length ≤ sizeLine) : Op2 W b lvl (binaryOp .Add) (.list ds) (.list es) (.list (ds ++ es)) := by
  intro A fe h₀ L m ext mu im s Q E v₁ v₂ M l h1 h2 k
  cases h1 with
  | @list a vs n _ m1 d1 =>
  cases h2 with
  | @list a' vs' n' _ m2 d2 =>
  have e1 := (l.nV b _ m1).1
  have e2 := (l.nV b _ m2).1
  refine P.add_list (items := vs.toArray) (n := n) (items2 := vs'.toArray) (n2 := n') e1 e2 ?_ (by simp only [List.size_toArray, d1.length, d2.length]; exact hsz)
  refine k _ _ s.toks _ (l.push _) sub_cons ?_
  have e : vs.toArray ++ vs'.toArray = (vs ++ vs').toArray := by simp
  rw [e]
  exact .list (n := 0) (vis_im _ (.head _)) ((d1.append d2).mono (vis_mono sub_cons))
theorem op_itemList {x y : PySem.Expr} {ds : List D} {i : Int} {d : D} (h0 : 0 ≤ i) (hd : ds[i.toNat]? = some d) (hf : i < 2 ^ 63)
    (hs : ∀ l u, subscripted y false (.ref l) (.int i u) = operate [.ref l, .int i u] (getItem (.ref l) (.int i u)) := by intro _ _; rfl) : Op2 W b lvl (subscriptTail x y) (.list ds) (.int i) d := by
  intro A fe h₀ L m ext mu im s Q E v₁ v₂ M l h1 h2 k
  cases h2
  cases h1 with
  | @list a vs n _ m1 d1 =>
  obtain ⟨v, hv, dv⟩ := d1.get hd
  have hl := DIn.isList (l.nV b) m1
  exact tail_any hl.typeIs slot_list_getitem.lookup (wpAny_getItem_list hl h0 hf (by simpa using hv) (k v s.heap s.toks im l sub_refl dv)) (hs _ _)
theorem op_itemTup {x y : PySem.Expr} {ds : List D} {i : Int} {d : D} (h0 : 0 ≤ i) (hd : ds[i.toNat]? = some d) (hf : i < 2 ^ 63)
    (hs : ∀ l u, subscripted y false (.ref l) (.int i u) = operate [.ref l, .int i u] (getItem (.ref l) (.int i u)) := by intro _ _; rfl) : Op2 W b lvl (subscriptTail x y) (.tuple ds) (.int i) d := by
  intro A fe h₀ L m ext mu im s Q E v₁ v₂ M l h1 h2 k
  cases h2
  cases h1 with
  | @tuple a vs n _ m1 d1 =>
  obtain ⟨v, hv, dv⟩ := d1.get hd
  have ht := DIn.isTup (l.nV b) m1
  have hlt : i.toNat < vs.length := by
    rcases Nat.lt_or_ge i.toNat vs.length with h | h
    · exact h
    · rw [List.getElem?_eq_none h] at hv; cases hv
  refine item_tupleT ht (by omega) hf (j := i.toNat) ?_ hv (k v s.heap s.toks im l sub_refl dv) (hs _ _)
  unfold seqIndex?
  have e1 : ¬ i < 0 := by omega
  have e2 : i < (vs.length : Int) := by omega
  simp [e1, e2, h0]
theorem op_lenList {ds : List D} (hf : (ds.length : Int) < 2 ^ 63) : Op1 W b lvl (fun v => call (.builtin "len") [v]) (.list ds) (.int ds.length) := by
  intro A fe h₀ L m ext mu im s Q E v₁ M l h1 k
  cases h1 with
  | @list a vs n _ m1 d1 =>
  have hl := DIn.isList (l.nV b) m1
  have e : vs.toArray.size = ds.length := by rw [List.size_toArray, d1.length]
  exact PyProof.Rows.len_list hl (by rw [e]; exact hf) (by rw [e]; exact k _ s.heap _ im l sub_refl (.int _ _))
end
end Mine

namespace Mine
open PySem PySem.W PyProof.Rows PySem.Spec PySem.Calls PyProof.Rows.LCg

section
variable {W : Wd} {b : Bool} {lvl : Nat} {env : Env} {V : Vs}

/-! comparing whole data: through the library's Dat -/
mutual
def toDat : D → Dat
  | .none => .none
  | .bool b => .bool b
  | .int i => .int i
  | .str x => .str x
  | .tuple ds => .tuple (toDats ds)
  | .list ds => .list (toDats ds)
  | .dict _ => .bool true
  | .addr _ => .bool true
def toDats : List D → List Dat
  | [] => []
  | d :: ds => toDat d :: toDats ds
end
mutual
theorem DIn.dat {prog : Program} {w : World} {im : Led} : ∀ {v : Value} {d : D} (n : Nat), DIn prog w im v d → kqdOk n (toDat d) = true → DatIn im v (toDat d)
  | _, _, _, .none, _ => by rw [toDat]; exact .none
  | _, _, _, .bool b, _ => by rw [toDat]; exact .bool b
  | _, _, _, .int i t, _ => by rw [toDat]; exact .int i t
  | _, _, _, .str x t, _ => by rw [toDat]; exact .str x t
  | _, _, 0, .tuple _ _, h => by simp [toDat, kqdOk] at h
  | _, _, 0, .list _ _, h => by simp [toDat, kqdOk] at h
  | _, _, n + 1, .tuple hm r, h => by rw [toDat]; exact .tuple hm (DAll.dat n r (by simpa [toDat, kqdOk] using h))
  | _, _, n + 1, .list hm r, h => by rw [toDat]; exact .list hm (DAll.dat n r (by simpa [toDat, kqdOk] using h))
  | _, _, n, .dict _ _, h => by cases n <;> simp [toDat, kqdOk] at h
  | _, _, n, .addr _, h => by cases n <;> simp [toDat, kqdOk] at h
theorem DAll.dat {prog : Program} {w : World} {im : Led} : ∀ {vs : List Value} {ds : List D} (n : Nat), DAll prog w im vs ds → (∀ d ∈ toDats ds, kqdOk n d = true) → DatAll im vs (toDats ds)
  | _, _, _, .nil, _ => by rw [toDats]; exact .nil
  | _, _, n, .cons h r, hk => by
    rw [toDats] at hk ⊢
    exact .cons (DIn.dat n h (hk _ (.head _))) (DAll.dat n r fun d hd => hk d (.tail _ hd))
end
open Classical in
theorem eqv_dat {d e : D} (h1 : kqdOk 9 (toDat d) = true) (h2 : kqdOk 9 (toDat e) = true) : PyData.eqv (kqdP (toDat d)) (kqdP (toDat e)) = decide (toDat d = toDat e) := by
  have q := kqd_eqv 9 (toDat d) (toDat e) 9 h1 h2
  by_cases hq : toDat d = toDat e
  · rw [decide_eq_true hq]; exact q.mpr hq
  · rw [decide_eq_false hq]; exact Bool.eq_false_iff.mpr fun x => hq (q.mp x)
theorem shaped_dat {d : D} (h : kqdOk 9 (toDat d) = true) : SeqAt.shaped (kqdP (toDat d)) = true := by
  have la := kqd_lay 9 (toDat d) h
  unfold SeqAt.shaped; rw [la.1, Bool.true_and]; exact decide_eq_true (Nat.le_trans la.2 (by decide))
open Classical in
theorem op_eqD {d e : D} {c : Bool} (hl : 1 ≤ lvl) (h1 : kqdOk 9 (toDat d) = true) (h2 : kqdOk 9 (toDat e) = true) (hc : c = decide (toDat d = toDat e)) : Op2 W b lvl (compareOp .Eq) d e (.bool c) := by
  intro A fe h₀ L m ext mu im s Q E v₁ v₂ M l d1 d2 k
  obtain ⟨as, ra⟩ := kqd_in (l.nV b) 9 (d1.dat 9 h1) h1
  obtain ⟨bs, rb⟩ := kqd_in (l.nV b) 9 (d2.dat 9 h2) h2
  exact eq_dataH ra rb (shaped_dat h1) (shaped_dat h2) (by have := M.un; omega) (by rw [eqv_dat h1 h2, ← hc]; exact k _ s.heap s.toks im l sub_refl (.bool _))
open Classical in
theorem op_neD {d e : D} {c : Bool} (hl : 1 ≤ lvl) (h1 : kqdOk 9 (toDat d) = true) (h2 : kqdOk 9 (toDat e) = true) (hc : c = !decide (toDat d = toDat e)) : Op2 W b lvl (compareOp .NotEq) d e (.bool c) := by
  intro A fe h₀ L m ext mu im s Q E v₁ v₂ M l d1 d2 k
  obtain ⟨as, ra⟩ := kqd_in (l.nV b) 9 (d1.dat 9 h1) h1
  obtain ⟨bs, rb⟩ := kqd_in (l.nV b) 9 (d2.dat 9 h2) h2
  exact ne_dataH ra rb (shaped_dat h1) (shaped_dat h2) (by have := M.un; omega) (by rw [eqv_dat h1 h2, ← hc]; exact k _ s.heap s.toks im l sub_refl (.bool _))

theorem toDats_strs (xs : List PySem.Str) : toDats (xs.map D.str) = xs.map Dat.str := by
  induction xs with
  | nil => simp [toDats]
  | cons x xs ih => simp [toDats, toDat, ih]
theorem kqdPs_strs (xs : List PySem.Str) : kqdPs (xs.map Dat.str) = xs.map PyData.str := by
  induction xs with
  | nil => simp [kqdPs]
  | cons x xs ih => simp [kqdPs, kqdP, ih]
theorem any_strs (xs : List PySem.Str) (x : PySem.Str) : (xs.map PyData.str).any (fun y => PyData.eqv y (.str x)) = xs.any (fun y => y == x) := by
  induction xs with
  | nil => rfl
  | cons y ys ih => simp only [List.map_cons, List.any_cons, ih, PyData.eqv]
theorem strs_ok {xs : List PySem.Str} {x : PySem.Str} (h : ∀ y ∈ x :: xs, PyData.strOk y = true) : ∀ d ∈ xs.map Dat.str, kqdOk 8 d = true := by
  intro d hd
  obtain ⟨y, hy, rfl⟩ := List.mem_map.mp hd
  simpa [kqdOk] using h y (.tail _ hy)
theorem strs_lay {xs : List PySem.Str} {x : PySem.Str} (h : ∀ y ∈ x :: xs, PyData.strOk y = true) : PyData.canLayAll0 (xs.map PyData.str) = true ∧ PyData.depthAll (xs.map PyData.str) ≤ 9 := by
  have q := kqd_layL (strs_ok h)
  rw [kqdPs_strs] at q
  exact q
theorem strs_read {prog : Program} {w : World} {h₀ h : Heap} {L : Addr} {im : Led} {vs : List Value} {xs : List PySem.Str} {x : PySem.Str} (N : News h₀ L h im) (d : DAll prog w im vs (xs.map D.str)) (hok : ∀ y ∈ x :: xs, PyData.strOk y = true) : ∃ as, ReadsAll h vs (xs.map PyData.str) as := by
  have q : DatAll im vs (toDats (xs.map D.str)) := DAll.dat 8 d (by rw [toDats_strs]; exact strs_ok hok)
  rw [toDats_strs] at q
  obtain ⟨as, r⟩ := kqd_all N 8 q (strs_ok hok)
  rw [kqdPs_strs] at r
  exact ⟨as, r⟩
theorem op_inListStr {x : PySem.Str} {xs : List PySem.Str} (hl : 1 ≤ lvl) (hok : ∀ y ∈ x :: xs, PyData.strOk y = true) : Op2 W b lvl (compareOp .In) (.str x) (.list (xs.map D.str)) (.bool (xs.any fun y => y == x)) := by
  intro A fe h₀ L m ext mu im s Q E v₁ v₂ M l d1 d2 k
  cases d1 with
  | str _ t =>
  cases d2 with
  | list hm r =>
  obtain ⟨as, q⟩ := strs_read (l.nV b) r hok
  have la := strs_lay hok
  exact SeqAt.in_list_reads (reads_list_at (News.get (l.nV b) hm) rfl rfl (by simpa using q)) (Reads.str x t) la.1 (by simpa [PyData.canLay0] using hok x (.head _))
    (by have := M.un; have := la.2; omega) (by rw [any_strs]; exact k _ s.heap s.toks im l sub_refl (.bool _))
theorem op_notInListStr {x : PySem.Str} {xs : List PySem.Str} (hl : 1 ≤ lvl) (hok : ∀ y ∈ x :: xs, PyData.strOk y = true) : Op2 W b lvl (compareOp .NotIn) (.str x) (.list (xs.map D.str)) (.bool (!xs.any fun y => y == x)) := by
  intro A fe h₀ L m ext mu im s Q E v₁ v₂ M l d1 d2 k
  cases d1 with
  | str _ t =>
  cases d2 with
  | list hm r =>
  obtain ⟨as, q⟩ := strs_read (l.nV b) r hok
  have la := strs_lay hok
  exact SeqAt.notIn_list_reads (reads_list_at (News.get (l.nV b) hm) rfl rfl (by simpa using q)) (Reads.str x t) la.1 (by simpa [PyData.canLay0] using hok x (.head _))
    (by have := M.un; have := la.2; omega) (by rw [any_strs]; exact k _ s.heap s.toks im l sub_refl (.bool _))
theorem op_inTupStr {x : PySem.Str} {xs : List PySem.Str} (hl : 1 ≤ lvl) (hok : ∀ y ∈ x :: xs, PyData.strOk y = true) : Op2 W b lvl (compareOp .In) (.str x) (.tuple (xs.map D.str)) (.bool (xs.any fun y => y == x)) := by
  intro A fe h₀ L m ext mu im s Q E v₁ v₂ M l d1 d2 k
  cases d1 with
  | str _ t =>
  cases d2 with
  | tuple hm r =>
  obtain ⟨as, q⟩ := strs_read (l.nV b) r hok
  have la := strs_lay hok
  exact SeqAt.in_tuple_reads (reads_tuple_at (News.get (l.nV b) hm) rfl rfl (by simpa using q)) (Reads.str x t) la.1 (by simpa [PyData.canLay0] using hok x (.head _))
    (by have := M.un; have := la.2; omega) (by rw [any_strs]; exact k _ s.heap s.toks im l sub_refl (.bool _))
end
end Mine

namespace Mine
open PySem PySem.W PyProof.Rows PySem.Spec PySem.Calls PyProof.Rows.LCg

section
variable {W : Wd} {b : Bool} {lvl : Nat} {env : Env} {V : Vs}

/-! slices of lists -/
theorem pick_upto (vs : List Value) (k : Nat) : slicePick vs.toArray none (some (k : Int)) none = (vs.take k).toArray := by
  rw [slicePick_upto']
theorem pick_from (vs : List Value) (k : Nat) : slicePick vs.toArray (some (k : Int)) none none = (vs.drop k).toArray := by
  rw [slicePick_from']
theorem Ev.upto {x : PySem.Str} {np : Pos} {k kd : Nat} {kp p pos : Pos} {ds : List D} (h : Ev W b lvl env V (.Name x np) (.list ds)) (hsz : ds.length ≤ sizeLine) :
    Ev W b lvl env V (.Subscript (.Name x np) (.Slice none (some (.Constant (.int (k : Int)) kd kp)) none p) pos) (.list (ds.take k)) := by
  intro A fe h₀ L m ext mu im s Q E M l H kk
  refine wpAny_Subscript_list_slice (h A fe h₀ L m ext mu im s _ E M l H fun v h₁ t₁ im₁ l₁ s₁ hd => ?_) (by intro _ _; rfl)
  refine wpAny_evalPart_none (wpAny_evalPart_some (wpAny_Constant_int ?_))
  cases hd with
  | @list a vs n _ hm r =>
  refine ⟨a, vs.toArray, none, some (k : Int), rfl, DIn.isList (l₁.nV b) hm, by rw [List.size_toArray, r.length]; exact hsz, .none, .int _ _, ?_⟩
  rw [pick_upto]
  have l₂ := (l₁.push { cls := .type "slice", data := .fields #[.none, .int (k : Int) t₁, .none] }).push { cls := .type "list", data := .seq (vs.take k).toArray }
  have e : (h₁.push { cls := .type "slice", data := .fields #[.none, .int (k : Int) t₁, .none] }).objs.size = h₁.objs.size + 1 := Heap.size_push ..
  rw [e] at l₂
  exact kk _ _ _ _ l₂ (sub_trans s₁ (sub_trans sub_cons sub_cons)) (.list (n := 0) (vis_im _ (.head _)) ((r.take k).mono (vis_mono (sub_trans sub_cons sub_cons))))
theorem Ev.from {x : PySem.Str} {np : Pos} {k kd : Nat} {kp p pos : Pos} {ds : List D} (h : Ev W b lvl env V (.Name x np) (.list ds)) (hsz : ds.length ≤ sizeLine) :
    Ev W b lvl env V (.Subscript (.Name x np) (.Slice (some (.Constant (.int (k : Int)) kd kp)) none none p) pos) (.list (ds.drop k)) := by
  intro A fe h₀ L m ext mu im s Q E M l H kk
  refine wpAny_Subscript_list_slice (h A fe h₀ L m ext mu im s _ E M l H fun v h₁ t₁ im₁ l₁ s₁ hd => ?_) (by intro _ _; rfl)
  refine wpAny_evalPart_some (wpAny_Constant_int (wpAny_evalPart_none ?_))
  cases hd with
  | @list a vs n _ hm r =>
  refine ⟨a, vs.toArray, some (k : Int), none, rfl, DIn.isList (l₁.nV b) hm, by rw [List.size_toArray, r.length]; exact hsz, .int _ _, .none, ?_⟩
  rw [pick_from]
  have l₂ := (l₁.push { cls := .type "slice", data := .fields #[.int (k : Int) t₁, .none, .none] }).push { cls := .type "list", data := .seq (vs.drop k).toArray }
  have e : (h₁.push { cls := .type "slice", data := .fields #[.int (k : Int) t₁, .none, .none] }).objs.size = h₁.objs.size + 1 := Heap.size_push ..
  rw [e] at l₂
  exact kk _ _ _ _ l₂ (sub_trans s₁ (sub_trans sub_cons sub_cons)) (.list (n := 0) (vis_im _ (.head _)) ((r.drop k).mono (vis_mono (sub_trans sub_cons sub_cons))))
theorem Ev.strUpto {x : PySem.Str} {np : Pos} {k : Int} {kd : Nat} {kp p pos : Pos} {y : PySem.Str} (h : Ev W b lvl env V (.Name x np) (.str y)) (hsz : y.length ≤ sizeLine) :
    Ev W b lvl env V (.Subscript (.Name x np) (.Slice none (some (.Constant (.int k) kd kp)) none p) pos) (.str (Txt.slice y none (some k))) := by
  intro A fe h₀ L m ext mu im s Q E M l H kk
  refine wpAny_Subscript_str_slice (h A fe h₀ L m ext mu im s _ E M l H fun v h₁ t₁ im₁ l₁ s₁ hd => ?_) (by intro _ _; rfl)
  refine wpAny_evalPart_none (wpAny_evalPart_some (wpAny_Constant_int ?_))
  cases hd with
  | str _ t =>
  refine ⟨y, t, none, some (k, t₁), rfl, rfl, rfl, post_val_or_str ⟨Nat.le_trans (Txt.slice_le y none (some k)) hsz, fun t' k' => ?_⟩⟩
  exact kk _ _ k' _ (l₁.keeps fun _ _ e => Heap.get?_push_of_some _ e) s₁ (.str _ _)

/-! methods of texts -/
theorem strs_are {prog : Program} {w : World} {im : Led} {xs : List PySem.Str} : ∀ {vs : List Value}, DAll prog w im vs (xs.map D.str) → StrsAre vs xs := by
  induction xs with
  | nil => intro vs h; cases h; exact .nil
  | cons x xs ih =>
    intro vs h
    cases h with
    | cons h r => cases h; exact .cons _ _ (ih r)
theorem Ev.joinB {sep : PySem.Str} {e : PySem.Expr} {kd : Nat} {cp apos pos : Pos} {d : D} {xs : List PySem.Str} (hd : d = .list (xs.map D.str) ∨ d = .tuple (xs.map D.str)) (h : Ev W b lvl env V e d) (hok : (xs.map (·.length)).sum + xs.length * sep.length ≤ 16777216)
    (hline : (apos.endLine == pos.line) = true) (hs : ∀ rest, starEach (e :: rest) env = (false, eval e env) :: starEach rest env := by intro _; rfl) :
    Ev W b lvl env V (.Call (.Attribute (.Constant (.str sep) kd cp) "join" apos) [e] [] pos) (.str (Txt.join sep xs)) := by
  intro A fe h₀ L m ext mu im s Q E M l H kk
  refine wpAny_Call_method1_late (by rfl) hline (by rw [hs]; rfl) (wpAny_Constant_str ?_)
  refine ⟨"str", "str.join", F.plainAttrs_str, F.slot_str_join, F.type_str_join, typeIs_str _ _ _, (fun _ e => nomatch e), ?_⟩
  refine PySem.Calls.callWith_builtin rfl (evalArgs_plain (spliced_cons (h A fe h₀ L m ext mu im _ _ E M l H fun v h₁ t₁ im₁ l₁ s₁ hd' => spliced_nil ?_)))
  rcases hd with rfl | rfl
  · cases hd' with
    | list hm r => exact PyProof.Rows.join_list (DIn.isList (l₁.nV b) hm) (strs_are r) hok fun t' k => kk _ _ k _ l₁ s₁ (.str _ _)
  · cases hd' with
    | tuple hm r => exact PyProof.Rows.join_tuple (DIn.isTup (l₁.nV b) hm) (strs_are r) hok fun t' k => kk _ _ k _ l₁ s₁ (.str _ _)

/-! truth -/
theorem Tr.strT {e : PySem.Expr} {x : PySem.Str} (b : Bool) (h : Ev W b lvl env V e (.str x)) (hf : (x.length : Int) < 2 ^ 63)
    (he : ∀ whole, isTrue e env whole = (do let v ← whole; standAt e.pos; holding [v] (truthy v)) := by intro _; rfl) : Tr W lvl env V e ((x.length : Int) != 0) := by
  intro A fe h₀ L m ext mu im s Q E M l H kk
  refine wpAny_isTrue_value (h A fe h₀ L m ext mu im s _ E M l H fun v h₁ t₁ im₁ l₁ s₁ hd => ?_) (he _)
  cases hd
  exact P.truthy_str (by omega) (kk _ _ _ l₁ s₁)
theorem Tr.listT {e : PySem.Expr} {ds : List D} (b : Bool) (h : Ev W b lvl env V e (.list ds)) (hf : (ds.length : Int) < 2 ^ 63)
    (he : ∀ whole, isTrue e env whole = (do let v ← whole; standAt e.pos; holding [v] (truthy v)) := by intro _; rfl) : Tr W lvl env V e (!ds.isEmpty) := by
  intro A fe h₀ L m ext mu im s Q E M l H kk
  refine wpAny_isTrue_value (h A fe h₀ L m ext mu im s _ E M l H fun v h₁ t₁ im₁ l₁ s₁ hd => ?_) (he _)
  cases hd with
  | @list a vs n _ hm r =>
  refine wpAny_truthy_list (DIn.isList (l₁.nV b) hm) (by rw [List.size_toArray, r.length]; exact hf) ?_
  have e : vs.toArray.isEmpty = ds.isEmpty := by
    cases r <;> rfl
  rw [e]
  exact kk _ _ _ l₁ s₁
theorem Tr.and2 {x y : PySem.Expr} {pos : Pos} {c c' : Bool} (h : Tr W lvl env V x c) (h' : c = true → Tr W lvl env V y c') (hc : c = false → c' = false) : Tr W lvl env V (.BoolOp .And [x, y] pos) c' := by
  intro A fe h₀ L m ext mu im s Q E M l H kk
  refine wpAny_isTrue_BoolOp (wpAny_allTrue_And_cons (h A fe h₀ L m ext mu im s _ E M l H fun h₁ t₁ im₁ l₁ s₁ => ?_))
  cases c with
  | false => rw [hc rfl] at kk; exact kk _ _ _ l₁ s₁
  | true =>
    refine wpAny_allTrue_And_cons (h' rfl A fe h₀ L m ext mu im₁ _ _ E M l₁ (H.mono s₁) fun h₂ t₂ im₂ l₂ s₂ => ?_)
    cases c' with
    | false => exact kk _ _ _ l₂ (sub_trans s₁ s₂)
    | true => exact wpAny_allTrue_And_nil (kk _ _ _ l₂ (sub_trans s₁ s₂))
theorem Tr.or2 {x y : PySem.Expr} {pos : Pos} {c c' : Bool} (h : Tr W lvl env V x c) (h' : c = false → Tr W lvl env V y c') (hc : c = true → c' = true) : Tr W lvl env V (.BoolOp .Or [x, y] pos) c' := by
  intro A fe h₀ L m ext mu im s Q E M l H kk
  refine wpAny_isTrue_BoolOp (wpAny_allTrue_Or_cons (h A fe h₀ L m ext mu im s _ E M l H fun h₁ t₁ im₁ l₁ s₁ => ?_))
  cases c with
  | true => rw [hc rfl] at kk; exact kk _ _ _ l₁ s₁
  | false =>
    refine wpAny_allTrue_Or_cons (h' rfl A fe h₀ L m ext mu im₁ _ _ E M l₁ (H.mono s₁) fun h₂ t₂ im₂ l₂ s₂ => ?_)
    cases c' with
    | true => exact kk _ _ _ l₂ (sub_trans s₁ s₂)
    | false => exact wpAny_allTrue_Or_nil (kk _ _ _ l₂ (sub_trans s₁ s₂))

/-! sums -/
theorem ints_pairs {prog : Program} {w : World} {im : Led} {xs : List Int} : ∀ {vs : List Value}, DAll prog w im vs (xs.map D.int) → ∃ ps : List (Int × Tok), vs = ps.map (fun p => .int p.1 p.2) ∧ ps.map (·.1) = xs := by
  induction xs with
  | nil => intro vs h; cases h; exact ⟨[], rfl, rfl⟩
  | cons x xs ih =>
    intro vs h
    cases h with
    | cons h r =>
      cases h with
      | int _ t =>
        obtain ⟨ps, e, f⟩ := ih r
        exact ⟨(x, t) :: ps, by rw [e]; rfl, by rw [List.map_cons, f]⟩
theorem preSum_take (ps : List (Int × Tok)) : ∀ k, k ≤ ps.length → preSum (numAt ps.toArray) k = ((ps.map (·.1)).take k).sum := by
  intro k
  induction k with
  | zero => intro _; simp [preSum]
  | succ k ih =>
    intro hk
    rw [preSum, ih (by omega)]
    have : (ps.map (·.1))[k]? = some (numAt ps.toArray k) := by
      have hlt : k < ps.length := by omega
      simp [numAt, hlt]
    rw [List.take_add_one, this]
    simp
theorem op_sum {xs : List Int} : Op1 W b lvl (fun v => call (.builtin "sum") [v]) (.list (xs.map D.int)) (.int xs.sum) := by
  intro A fe h₀ L m ext mu im s Q E v₁ M l h1 k
  cases h1 with
  | @list a vs n _ m1 d1 =>
  obtain ⟨ps, rfl, e⟩ := ints_pairs d1
  have hl : s.heap.IsList a (intItems ps.toArray) := by
    have := DIn.isList (l.nV b) m1
    simpa [intItems] using this
  refine sum_intListG M.hh hl fun h' tk t' hk => ?_
  have e2 : preSum (numAt ps.toArray) ps.toArray.size = xs.sum := by
    rw [List.size_toArray, preSum_take ps _ (Nat.le_refl _), e]
    have : ps.length = xs.length := by rw [← e, List.length_map]
    rw [this, List.take_length]
  rw [e2]
  exact k _ _ _ _ (l.keeps hk) sub_refl (.int _ _)
end
end Mine

namespace Mine
open PySem PySem.W PyProof.Rows PySem.Spec PySem.Calls PyProof.Rows.LCg

/-- how statements end -/
inductive Out where
  | next (V : Vs)
  | ret (d : D)

def Ends (W : Wd) (env : Env) (h₀ : Heap) (L : Addr) (ext im : Led) (s : Shared) (o : Out) (f : Flow) (s' : Shared) : Prop :=
  ∃ h' tk' m' mu' im', s' = { s with heap := h', toks := tk' } ∧ Lay h₀ L h' m' ext mu' im' ∧ (∀ p ∈ im, p ∈ im') ∧
    match o, f with
    | .next V', .next => Holds W.prog W.w env L m' mu' im' V'
    | .ret d, .ret v => DIn W.prog W.w (mu' ++ im') v d
    | _, _ => False

def Ex (W : Wd) (lvl : Nat) (env : Env) (V : Vs) (t : Sem Flow) (Q : Out → Prop) : Prop :=
  ∀ (A : Around) (fe : Env) (h₀ : Heap) (m : PySem.Str → Option Value) (ext mu im : Led) (s : Shared) (R : Flow → Shared → Prop) (E : Value → Shared → Prop),
    Mach W A fe h₀ env.locals lvl → Lay h₀ env.locals s.heap m ext mu im → Holds W.prog W.w env env.locals m mu im V →
    (∀ o f s', Q o → Ends W env h₀ env.locals ext im s o f s' → R f s') → wpAny (model W.prog W.w) A t R E s

section
variable {W : Wd} {b : Bool} {lvl : Nat} {env : Env} {V : Vs} {Q : Out → Prop}

theorem Ends.trans {h₀ : Heap} {L : Addr} {ext im im₁ : Led} {s s' : Shared} {o : Out} {f : Flow} {h₁ : Heap} {t₁ : Nat} (hs : ∀ p ∈ im, p ∈ im₁) (h : Ends W env h₀ L ext im₁ { s with heap := h₁, toks := t₁ } o f s') : Ends W env h₀ L ext im s o f s' := by
  obtain ⟨h', tk', m', mu', im', e, l, k, r⟩ := h
  exact ⟨h', tk', m', mu', im', e, l, sub_trans hs k, r⟩

theorem Ex.nil (h : Q (.next V)) : Ex W lvl env V (execs [] env) Q := by
  intro A fe h₀ m ext mu im s R E M l H k
  exact wpAny_execs_nil (k _ _ _ h ⟨s.heap, s.toks, m, mu, im, rfl, l, sub_refl, H⟩)
theorem Ex.cons {st : Stmt} {rest : List Stmt} (h : Ex W lvl env V (exec st env) fun o => match o with | .next V' => Ex W lvl env V' (execs rest env) Q | .ret d => Q (.ret d)) : Ex W lvl env V (execs (st :: rest) env) Q := by
  intro A fe h₀ m ext mu im s R E M l H k
  refine wpAny_execs_cons (h A fe h₀ m ext mu im s _ E M l H fun o f s' hq he => ?_)
  obtain ⟨h', tk', m', mu', im', rfl, l', hs, r⟩ := he
  cases o with
  | next V' =>
    cases f with
    | next => exact hq A fe h₀ m' ext mu' im' _ R E M l' r fun o f s' hq' he => k o f s' hq' (he.trans hs)
    | _ => exact r.elim
  | ret d =>
    cases f with
    | ret v => exact k _ _ _ hq ⟨h', tk', m', mu', im', rfl, l', hs, r⟩
    | _ => exact r.elim
theorem Ex.mono {t : Sem Flow} {Q' : Out → Prop} (h : Ex W lvl env V t Q) (hq : ∀ o, Q o → Q' o) : Ex W lvl env V t Q' := by
  intro A fe h₀ m ext mu im s R E M l H k
  exact h A fe h₀ m ext mu im s R E M l H fun o f s' q e => k o f s' (hq o q) e
theorem Ex.weaken {t : Sem Flow} {V' : Vs} (h : Ex W lvl env V' t Q) (hs : ∀ x d, V'.s.lookup x = some d → V.s.lookup x = some d) (hu : ∀ x d, V'.u = some (x, d) → V.u = some (x, d)) : Ex W lvl env V t Q := by
  intro A fe h₀ m ext mu im s R E M l H k
  exact h A fe h₀ m ext mu im s R E M l (H.weaken hs hu) k

theorem Holds.store {env : Env} {L : Addr} {m : PySem.Str → Option Value} {mu im : Led} {V : Vs} {x : PySem.Str} {v : Value} {d : D} (H : Holds W.prog W.w env L m mu im V) (hL : env.locals = L) (hk : env.kindOf x = some .local) (hd : DIn W.prog W.w im v d) (hu : ∀ y e, V.u = some (y, e) → y ≠ x) :
    Holds W.prog W.w env L (fun y => if y = x then some v else m y) mu im { V with s := (x, d) :: V.s } := by
  have keep : ∀ y u, y ≠ x → Var env L m mu y u → Var env L (fun y => if y = x then some v else m y) mu y u := by
    intro y u hne hv
    cases hv with
    | loc e a c => exact .loc e a (by rw [if_neg hne]; exact c)
    | comp a c e f => exact .comp a c e f
    | cell a c e f => exact .cell a c e f
  refine ⟨fun y e he => ?_, fun y e he => ?_⟩
  · by_cases hy : y = x
    · subst hy
      have : e = d := by
        have h' : List.lookup y ((y, d) :: V.s) = some e := he
        rw [List.lookup_cons_self] at h'
        exact (Option.some.inj h').symm
      subst this
      exact ⟨v, .loc hL hk (if_pos rfl), hd⟩
    · have : V.s.lookup y = some e := by
        have h' : List.lookup y ((x, d) :: V.s) = some e := he
        rw [List.lookup_cons] at h'
        simpa [show (y == x) = false from beq_eq_false_iff_ne.mpr hy] using h'
      obtain ⟨u, a, c⟩ := H.s y e this
      exact ⟨u, keep y u hy a, c⟩
  · obtain ⟨u, a, c⟩ := H.u y e he
    exact ⟨u, keep y u (hu y e he) a, c⟩

/-- a local name is stored, at the machine -/
theorem storeL {A : Around} {h₀ : Heap} {m : PySem.Str → Option Value} {ext mu im : Led} {s : Shared} {R : Unit → Shared → Prop} {E : Value → Shared → Prop} {x : PySem.Str} {v : Value} {d : D} (he : EnvOk env) (l : Lay h₀ env.locals s.heap m ext mu im) (H : Holds W.prog W.w env env.locals m mu im V)
    (hx : env.kindOf x = some .local) (hd : DIn W.prog W.w im v d) (hu : ∀ y e, V.u = some (y, e) → y ≠ x)
    (k : ∀ h' tk' m', Lay h₀ env.locals h' m' ext mu im → Holds W.prog W.w env env.locals m' mu im { V with s := (x, d) :: V.s } → R () { s with heap := h', toks := tk' }) :
    wpAny (model W.prog W.w) A (storeName env x v) R E s :=
  wpAny_storeName_local hx l.F.ns (fun h' hn hs => k h' _ _ (l.set hn hs) (H.store rfl hx hd hu)) (by rw [he.k]; rfl)

theorem Ex.asg {x : PySem.Str} {xp pos : Pos} {e : PySem.Expr} {d : D} (he : EnvOk env) (hx : env.kindOf x = some .local) (h : Ev W true lvl env V e d) (hu : ∀ y e, V.u = some (y, e) → y ≠ x) (hq : Q (.next { V with s := (x, d) :: V.s }))
    (hs : swapsWith e (some (.Name x xp)) pos.line env = pure false := by rfl) : Ex W lvl env V (exec (.Assign [.Name x xp] e pos) env) Q := by
  intro A fe h₀ m ext mu im s R E M l H k
  refine wpAny_Assign_Name (h A fe h₀ _ m ext mu im s _ E M l H fun v h₁ t₁ im₁ l₁ s₁ hd => ?_) hs
  exact storeL he l₁ (H.mono s₁) hx hd hu fun h' tk' m' l' H' => k _ _ _ hq ⟨h', tk', m', mu, im₁, rfl, l', s₁, H'⟩
theorem Ex.ret {e : PySem.Expr} {pos : Pos} {d : D} (h : Ev W false lvl env V e d) (hq : Q (.ret d)) : Ex W lvl env V (exec (.Return (some e) pos) env) Q := by
  intro A fe h₀ m ext mu im s R E M l H k
  refine wpAny_Return_some (h A fe h₀ _ m ext mu im s _ E M l H fun v h₁ t₁ im₁ l₁ s₁ hd => ?_)
  exact k _ _ _ hq ⟨h₁, t₁, m, mu, im₁, rfl, l₁, s₁, hd⟩
theorem Ex.ifs {e : PySem.Expr} {c : Bool} {body orelse : List Stmt} {pos : Pos} (h : Tr W lvl env V e c) (h1 : c = true → Ex W lvl env V (execs body env) Q) (h2 : c = false → Ex W lvl env V (execs orelse env) Q) : Ex W lvl env V (exec (.If e body orelse pos) env) Q := by
  intro A fe h₀ m ext mu im s R E M l H k
  refine wpAny_If (h A fe h₀ _ m ext mu im s _ E M l H fun h₁ t₁ im₁ l₁ s₁ => ?_)
  cases c with
  | true => exact h1 rfl A fe h₀ m ext mu im₁ _ R E M l₁ (H.mono s₁) fun o f s' hq he => k o f s' hq (he.trans s₁)
  | false => exact h2 rfl A fe h₀ m ext mu im₁ _ R E M l₁ (H.mono s₁) fun o f s' hq he => k o f s' hq (he.trans s₁)
theorem Ex.pass {pos : Pos} (hq : Q (.next V)) : Ex W lvl env V (exec (.Pass pos) env) Q := by
  intro A fe h₀ m ext mu im s R E M l H k
  exact wpAny_Pass (k _ _ _ hq ⟨s.heap, s.toks, m, mu, im, rfl, l, sub_refl, H⟩)

/-- names from a tuple's items, at the machine -/
def putAll (s : List (PySem.Str × D)) : List PySem.Str → List D → List (PySem.Str × D)
  | x :: xs, d :: ds => putAll ((x, d) :: s) xs ds
  | _, _ => s
theorem assignNames {A : Around} {h₀ : Heap} {ext mu im : Led} {R : Unit → Shared → Prop} {E : Value → Shared → Prop} (he : EnvOk env) :
    ∀ (xs : List (PySem.Str × Pos)) (vs : List Value) (ds : List D) (m : PySem.Str → Option Value) (V : Vs) (s : Shared), Lay h₀ env.locals s.heap m ext mu im → Holds W.prog W.w env env.locals m mu im V →
    (∀ p ∈ xs, env.kindOf p.1 = some .local) → (∀ p ∈ xs, ∀ y e, V.u = some (y, e) → y ≠ p.1) → DAll W.prog W.w im vs ds → xs.length = ds.length →
    (∀ h' tk' m', Lay h₀ env.locals h' m' ext mu im → Holds W.prog W.w env env.locals m' mu im { V with s := putAll V.s (xs.map (·.1)) ds } → R () { s with heap := h', toks := tk' }) →
    wpAny (model W.prog W.w) A (assignInOrder (xs.map fun p => assign (.Name p.1 p.2) env) vs) R E s
  | [], vs, ds, m, V, s, l, H, _, _, hd, hl, k => by
    cases ds with
    | nil => cases hd; exact assignInOrder_nil (k s.heap s.toks m l H)
    | cons _ _ => cases hl
  | (x, p) :: xs, vs, ds, m, V, s, l, H, hx, hu, hd, hl, k => by
    cases hd with
    | nil => cases hl
    | @cons v vs d ds h r =>
      refine assignInOrder_cons (wpAny_assign_Name (storeL he l H (hx _ (.head _)) h (hu _ (.head _)) fun h' tk' m' l' H' => ?_))
      exact assignNames he xs vs ds m' _ _ l' H' (fun q hq => hx q (.tail _ hq)) (fun q hq => hu q (.tail _ hq)) r (by simpa using hl) fun h₂ tk₂ m₂ l₂ H₂ => k h₂ tk₂ m₂ l₂ H₂
theorem names_star (he : ∀ (xs : List (PySem.Str × Pos)), assignEach (xs.map fun p => PySem.Expr.Name p.1 p.2) env = xs.map fun p => (false, assign (.Name p.1 p.2) env)) (xs : List (PySem.Str × Pos)) :
    (assignEach (xs.map fun p => PySem.Expr.Name p.1 p.2) env).findIdx? (·.1) = none := by
  rw [he]
  rw [List.findIdx?_eq_none_iff]
  intro p hp
  obtain ⟨q, _, rfl⟩ := List.mem_map.mp hp
  rfl
theorem assignEach_names : ∀ (xs : List (PySem.Str × Pos)), assignEach (xs.map fun p => PySem.Expr.Name p.1 p.2) env = xs.map fun p => (false, assign (.Name p.1 p.2) env)
  | [] => by simp [assignEach]
  | p :: xs => by
    rw [List.map_cons, assignEach, assignEach_names xs, List.map_cons]
    intro a b h; cases h
/-- a tuple is unpacked into local names -/
theorem unpackT {A : Around} {h₀ : Heap} {m : PySem.Str → Option Value} {ext mu im : Led} {s : Shared} {R : Unit → Shared → Prop} {E : Value → Shared → Prop} {xs : List (PySem.Str × Pos)} {kd : Nat} {tp : Pos} {a : Addr} {items : List Value} {ds : List D} (he : EnvOk env) (hh : A.handled = none) (l : Lay h₀ env.locals s.heap m ext mu im) (H : Holds W.prog W.w env env.locals m mu im V)
    (ht : s.heap.IsTuple a items.toArray) (hd : DAll W.prog W.w im items ds) (hx : ∀ p ∈ xs, env.kindOf p.1 = some .local) (hu : ∀ p ∈ xs, ∀ y e, V.u = some (y, e) → y ≠ p.1) (hl : xs.length = ds.length)
    (k : ∀ h' tk' m', Lay h₀ env.locals h' m' ext mu im → Holds W.prog W.w env env.locals m' mu im { V with s := putAll V.s (xs.map (·.1)) ds } → R () { s with heap := h', toks := tk' }) :
    wpAny (model W.prog W.w) A (assign (.Tuple (xs.map fun p => PySem.Expr.Name p.1 p.2) kd tp) env (.ref a)) R E s := by
  refine wpAny_assign_Tuple hh ht (by rw [assignEach_names, List.length_map, List.size_toArray, hd.length, hl]) (names_star assignEach_names xs) fun h₁ hx₁ => ?_
  rw [assignEach_names, List.map_map]
  have l₁ : Lay h₀ env.locals h₁ m ext mu im := l.keeps fun b o e => hx₁ b o (Nat.ne_of_lt (Heap.lt_size e)) e
  exact assignNames he xs items ds m V _ l₁ H hx hu hd hl k
theorem DIn.isTuple {h₀ h : Heap} {L : Addr} {im : Led} {a : Addr} {vs : List Value} {n : Nat} (N : News h₀ L h im) (hm : (a, tupObj vs n) ∈ im) : h.IsTuple a vs.toArray := ⟨_, (N _ hm).1, rfl, n, rfl⟩
theorem Ex.asgT {xs : List (PySem.Str × Pos)} {kd : Nat} {tp pos : Pos} {e : PySem.Expr} {ds : List D} (he : EnvOk env) (h : Ev W true lvl env V e (.tuple ds)) (hx : ∀ p ∈ xs, env.kindOf p.1 = some .local) (hu : ∀ p ∈ xs, ∀ y e, V.u = some (y, e) → y ≠ p.1) (hl : xs.length = ds.length)
    (hq : Q (.next { V with s := putAll V.s (xs.map (·.1)) ds })) (hs : swapsWithSole [.Tuple (xs.map fun p => PySem.Expr.Name p.1 p.2) kd tp] e pos.line env = pure false) (hw : swappedStores [.Tuple (xs.map fun p => PySem.Expr.Name p.1 p.2) kd tp] e env = pure none) :
    Ex W lvl env V (exec (.Assign [.Tuple (xs.map fun p => PySem.Expr.Name p.1 p.2) kd tp] e pos) env) Q := by
  intro A fe h₀ m ext mu im s R E M l H k
  refine wpAny_Assign_stores (h A fe h₀ _ m ext mu im s _ E M l H fun v h₁ t₁ im₁ l₁ s₁ hd => ?_) hs hw
  cases hd with
  | tuple hm r =>
  have hea : ((assignEach [PySem.Expr.Tuple (xs.map fun p => PySem.Expr.Name p.1 p.2) kd tp] env).map (·.2)) = [assign (.Tuple (xs.map fun p => PySem.Expr.Name p.1 p.2) kd tp) env] := by
    rw [assignEach, assignEach]; rfl
    intro a b h; cases h
  rw [hea]
  exact unpackT (W := W) he M.hh l₁ (H.mono s₁) (DIn.isTuple l₁.nIm hm) r hx hu hl fun h' tk' m' l' H' => k _ _ _ hq ⟨h', tk', m', mu, im₁, rfl, l', s₁, H'⟩
end
end Mine

namespace Mine
open PySem PySem.W PyProof.Rows PySem.Spec PySem.Calls PyProof.Rows.LCg

section
variable {W : Wd} {b : Bool} {lvl : Nat} {env : Env} {V : Vs} {Q : Out → Prop}

theorem envOk {cn : PySem.Str} {cs : Scope} {L a : Addr} {cd : Value} (hk : cs.kind = .function) : EnvOk (envOf cn cs L a cd) := ⟨rfl, rfl, hk⟩

theorem Mach.callee {A : Around} {fe : Env} {h₀ : Heap} {L L' f : Addr} {qual : PySem.Str} {scope : Scope} {cdv : Value} (M : Mach W A fe h₀ L (lvl + 1))
    (hk : scope.kind = .function) : Mach W (A.deeper (envOf qual scope L' f cdv)) (envOf qual scope L' f cdv) h₀ L' lvl where
  hh := M.hh
  fr := rfl
  kd := hk
  X := M.X
  T := M.T
  room := by have := M.room; show A.depth + 1 + lvl < _; omega
  un := by have := M.un; show A.units + 3 + 100 * lvl < _; omega
  sc := M.sc
  sm := M.sm

theorem lookup_zip_rev {α : Type} : ∀ (xs : List PySem.Str) (vs : List α) (x : PySem.Str) (v : α), xs.Nodup → (xs.zip vs).lookup x = some v → (xs.zip vs).reverse.lookup x = some v := by
  intro xs vs x v hn h
  have hm : (x, v) ∈ xs.zip vs := by
    clear hn
    induction xs generalizing vs with
    | nil => simp at h
    | cons y ys ih =>
      cases vs with
      | nil => simp at h
      | cons u us =>
        rw [List.zip_cons_cons, List.lookup_cons] at h
        by_cases hy : x = y
        · subst hy; simp at h; subst h; simp
        · simp [show (x == y) = false from beq_eq_false_iff_ne.mpr hy] at h
          exact List.mem_cons_of_mem _ (ih us h)
  have hnd : ((xs.zip vs).map (·.1)).Nodup := by
    have : ((xs.zip vs).map (·.1)).Sublist xs := by
      clear h hm hn
      induction xs generalizing vs with
      | nil => simp
      | cons y ys ih =>
        cases vs with
        | nil => simp
        | cons u us => rw [List.zip_cons_cons, List.map_cons]; exact (ih us).cons_cons _
    exact this.nodup hn
  have hr : (x, v) ∈ (xs.zip vs).reverse := List.mem_reverse.mpr hm
  have hnr : (((xs.zip vs).reverse).map (·.1)).Nodup := by rw [List.map_reverse]; exact List.pairwise_reverse.mpr (List.Pairwise.imp (fun h => Ne.symm h) hnd)
  generalize (xs.zip vs).reverse = l at hr hnr
  clear h hm hnd
  induction l with
  | nil => cases hr
  | cons q l ih =>
    rw [List.map_cons, List.nodup_cons] at hnr
    rw [List.lookup_cons]
    rcases List.mem_cons.mp hr with e | hr
    · rw [← e]; simp
    · have : x ≠ q.1 := fun e => hnr.1 (e ▸ List.mem_map.mpr ⟨(x, v), hr, rfl⟩)
      simp [show (x == q.1) = false from beq_eq_false_iff_ne.mpr this]
      exact ih hr hnr.2

theorem args_hold {env : Env} {L : Addr} {mu im : Led} {xs : List PySem.Str} {vs : List Value} {ds : List D} (hL : env.locals = L) (hk : ∀ x ∈ xs, env.kindOf x = some .local) (hn : xs.Nodup) (hd : DAll W.prog W.w im vs ds) :
    Holds W.prog W.w env L (fun y => (xs.zip vs).reverse.lookup y) mu im { s := xs.zip ds } := by
  refine ⟨fun x d hx => ?_, fun x d hx => nomatch hx⟩
  have key : ∀ (xs : List PySem.Str) (vs : List Value) (ds : List D), DAll W.prog W.w im vs ds → (xs.zip ds).lookup x = some d → x ∈ xs ∧ ∃ v, (xs.zip vs).lookup x = some v ∧ DIn W.prog W.w im v d := by
    intro xs
    induction xs with
    | nil => intro vs ds _ h; simp at h
    | cons y ys ih =>
      intro vs ds hd h
      cases hd with
      | nil => simp at h
      | @cons u us e es h' r =>
        rw [List.zip_cons_cons, List.lookup_cons] at h ⊢
        by_cases hy : x = y
        · subst hy; simp at h; subst h; exact ⟨.head _, u, by simp, h'⟩
        · simp [show (x == y) = false from beq_eq_false_iff_ne.mpr hy] at h ⊢
          obtain ⟨a, v, c, e⟩ := ih us es r h
          exact ⟨.inr a, v, c, e⟩
  obtain ⟨hm, v, hv, hdv⟩ := key xs vs ds hd hx
  exact ⟨v, .loc hL (hk x hm) (lookup_zip_rev xs vs x v hn hv), hdv⟩

def retIs (d : D) : Out → Prop
  | .ret d' => d' = d
  | _ => False

/-- the caller's frame joins what the callee must leave as it is -/
theorem Lay.down {h₀ h h₁ : Heap} {L L' : Addr} {m m' : PySem.Str → Option Value} {ext mu im : Led} {oL : Obj} (l : Lay h₀ L h m ext mu im) (hL : h.get? L = some oL) (hL' : L' = h.objs.size) (hn : h₁.Ns L' m') (hk : ∀ b o, h.get? b = some o → h₁.get? b = some o) :
    Lay h₀ L' h₁ m' ((L, oL) :: (ext ++ mu)) [] im := by
  have lt : ∀ {b o}, h.get? b = some o → b ≠ L' := fun e => by rw [hL']; exact Nat.ne_of_lt (Heap.lt_size e)
  have ab : h₀.objs.size ≤ L := l.F.above
  refine ⟨⟨hn, fun b o e => hk _ _ (l.F.keep b o e), by rw [hL']; exact Nat.le_trans ab (Nat.le_of_lt (Heap.lt_size hL))⟩, fun p hp => ?_, fun _ _ _ hq => (nomatch hq), fun p hp q hq => ?_, fun _ hp => (nomatch hp)⟩
  · have hp' : p = (L, oL) ∨ p ∈ ext ++ (mu ++ im) := by simpa [List.append_assoc] using hp
    rcases hp' with rfl | hp'
    · exact ⟨hk _ _ hL, lt hL, Heap.get?_none_of_le ab⟩
    · exact ⟨hk _ _ (l.N p hp').1, lt (l.N p hp').1, (l.N p hp').2.2⟩
  · rcases List.mem_cons.mp hp with rfl | hp
    · exact Ne.symm (l.nIm q hq).2.1
    · exact (List.mem_append.mp hp).elim (fun h => l.a2 p h q hq) fun h => l.a3 p h q hq
theorem Lay.up {h₀ h h₁ : Heap} {L L' : Addr} {m m' : PySem.Str → Option Value} {ext mu im mu' im' : Led} {oL : Obj} (l : Lay h₀ L h m ext mu im) (hN : NsObj oL m) (l' : Lay h₀ L' h₁ m' ((L, oL) :: (ext ++ mu)) mu' im') : Lay h₀ L h₁ m ext mu (mu' ++ im') := by
  have out : ∀ p ∈ (L, oL) :: (ext ++ mu), ∀ q ∈ mu' ++ im', p.1 ≠ q.1 := fun p hp q hq => (List.mem_append.mp hq).elim (l'.a1 p hp q) (l'.a2 p hp q)
  have out' : ∀ p ∈ ext ++ mu, ∀ q ∈ mu' ++ im', p.1 ≠ q.1 := fun p hp q hq => out p (List.mem_cons_of_mem _ hp) q hq
  refine ⟨⟨hN.ns (l'.nExt _ (.head _)).1, l'.F.keep, l.F.above⟩, fun p hp => ?_, l.a1, fun p hp q hq => out' p (List.mem_append.mpr (.inl hp)) q hq, fun p hp q hq => out' p (List.mem_append.mpr (.inr hp)) q hq⟩
  have hp' : p ∈ ext ++ mu ∨ p ∈ mu' ++ im' := by simpa [List.append_assoc, or_assoc] using hp
  rcases hp' with hp' | hp'
  · have q := l'.nExt p (List.mem_cons_of_mem _ hp')
    exact ⟨q.1, (l.N p (by rcases List.mem_append.mp hp' with h | h <;> simp [h])).2.1, q.2.2⟩
  · have q := l'.N p (List.mem_append.mpr (.inr hp'))
    exact ⟨q.1, fun e => out _ (.head _) p hp' e.symm, q.2.2⟩

theorem Fn.of {f : Addr} {name qual : PySem.Str} {params : Arguments} {body : List Stmt} {scope : Scope} {dV kV doc pm cdv ct oc : Value} {an od : Option Addr} {osl : Array (Option Value)} {ds : List D} {d : D} (xs : List PySem.Str)
    (ho : W.K.lookup f = some ⟨oc, od, .func (fnOf name qual params body scope dV kV doc pm an cdv ct), osl⟩) (hcd : codeIn W.K cdv qual = true)
    (hbind : ∀ s vs, vs.length = ds.length → BindsTo s (fnOf name qual params body scope dV kV doc pm an cdv ct) ⟨vs, []⟩ (xs.zip vs))
    (hloc : ∀ x ∈ xs, scope.names.lookup x = some .local) (hn : xs.Nodup)
    (h : ∀ L', Ex W lvl (envOf qual scope L' f cdv) { s := xs.zip ds } (execs body (envOf qual scope L' f cdv)) (retIs d))
    (hco : scope.isCoroutine = false) (hgen : scope.isGenerator = false) (hk : scope.kind = .function) (hcell : ∀ x ∈ scope.names, x.2 ≠ .cell) : Fn W (lvl + 1) f ds d := by
  intro A fe h₀ L m ext mu im s Q E vs M l hds k
  obtain ⟨oL, hL, hN⟩ := ns_obj l.F.ns
  have X := M.X.keeps l.F.keep
  refine wpAny_call (codeAny_call_def (R := fun r s' => match r with | .ok (.ret v) => Q v s' | .ok _ => False | .error e => E e s') (fd := fnOf name qual params body scope dV kV doc pm an cdv ct) (body := body) (binds := xs.zip vs) (by have := M.room; omega) (X _ _ ho) rfl (M.T.nolimit.keeps l.F.keep) (codeRec_of X hcd) rfl (hbind s vs hds.length) hcell (fun y hy => hloc _ (List.of_mem_zip hy).1) (fun h₁ hns hk₁ => ?_) hco hgen hk)
  have l' := l.down hL rfl hns hk₁
  refine h s.heap.objs.size (A.deeper (envOf qual scope s.heap.objs.size f cdv)) (envOf qual scope s.heap.objs.size f cdv) h₀ _ ((L, oL) :: (ext ++ mu)) [] im _ _ _ (M.callee hk) l' (args_hold rfl (fun x hx => hloc x hx) hn hds) fun o fl s' hq he => ?_
  obtain ⟨h₂, t₂, m₂, mu₂, im₂, rfl, l₂, hs₂, r⟩ := he
  cases o with
  | next V' => exact hq.elim
  | ret d' =>
    obtain rfl : d' = d := hq
    cases fl with
    | ret v =>
      exact k v h₂ t₂ _ (l.up hN l₂) (fun p hp => List.mem_append.mpr (.inr (hs₂ p hp))) r
    | _ => exact r.elim
end
end Mine

namespace Mine
open PySem PySem.W PyProof.Rows PySem.Spec PySem.Calls PyProof.Rows.LCg

/-- the library's wpAny, codeAny for those contexts alone of which Pc is true -/
def wpP {α : Type} (Pc : PySem.Ctx → Prop) (M : Model) (A : Around) (t : Sem α) (Q : α → Shared → Prop) (E : Value → Shared → Prop) (s : Shared) : Prop :=
  ∀ Γ p, Γ.In A → Pc Γ → Sem.wp M Γ t (fun a _ s' => Q a s') (fun e _ s' => E e s') p s
def codeP (Pc : PySem.Ctx → Prop) (M : Model) (A : Around) (c : Code) (R : Result → Shared → Prop) (s : Shared) : Prop :=
  ∀ Γ p, Γ.code = c → Γ.Below A → Pc Γ → wpCode M Γ R p s

structure Clo (Pc : PySem.Ctx → Prop) : Prop where
  enter : ∀ Γ c h p, Pc Γ → Pc (Γ.enter c h p)
  goto : ∀ Γ c, Pc Γ → Pc (Γ.goto c)

/-- the claim's caller is somewhere below -/
def isCl : Code → Bool
  | .builtin "claim.caller" _ => true
  | _ => false
def Cl (Γ : PySem.Ctx) : Prop := ∃ q ∈ Γ.below, isCl q.1 = true
theorem cl_clo : Clo Cl where
  enter := fun Γ c h p ⟨q, hq, e⟩ => ⟨q, List.mem_cons_of_mem _ hq, e⟩
  goto := fun Γ c h => h
theorem true_clo : Clo fun _ => True where
  enter := fun _ _ _ _ _ => trivial
  goto := fun _ _ _ => trivial

section
variable {α β : Type} {Pc : PySem.Ctx → Prop} {M : Model} {A : Around} {E : Value → Shared → Prop} {s : Shared}

theorem wpP.of {t : Sem α} {Q : α → Shared → Prop} (h : wpAny M A t Q E s) : wpP Pc M A t Q E s := fun Γ p hΓ _ => h Γ p hΓ
theorem codeP.of {c : Code} {R : Result → Shared → Prop} (h : codeAny M A c R s) : codeP Pc M A c R s := fun Γ p hc hΓ _ => h Γ p hc hΓ
theorem wpP.any {t : Sem α} {Q : α → Shared → Prop} (h : wpP (fun _ => True) M A t Q E s) : wpAny M A t Q E s := fun Γ p hΓ => h Γ p hΓ trivial
theorem codeP.any {c : Code} {R : Result → Shared → Prop} (h : codeP (fun _ => True) M A c R s) : codeAny M A c R s := fun Γ p hc hΓ => h Γ p hc hΓ trivial
theorem wpP_mono {t : Sem α} {Q Q' : α → Shared → Prop} {E' : Value → Shared → Prop} (h : wpP Pc M A t Q E s) (hQ : ∀ a s, Q a s → Q' a s) (hE : ∀ e s, E e s → E' e s) : wpP Pc M A t Q' E' s :=
  fun Γ p hΓ hc => Sem.wp_mono M Γ t (fun a _ s => hQ a s) (fun e _ s => hE e s) p s (h Γ p hΓ hc)
theorem wpP_bind {m : Sem α} {f : α → Sem β} {Q : β → Shared → Prop} (h : wpP Pc M A m (fun a s' => wpP Pc M A (f a) Q E s') E s) : wpP Pc M A (m >>= f) Q E s := fun Γ p hΓ hc => by
  rw [Sem.wp_bind']
  exact Sem.wp_mono M Γ m (fun a p' s' h' => h' Γ p' hΓ hc) (fun _ _ _ h' => h') p s (h Γ p hΓ hc)
theorem wpP_pure {a : α} {Q : α → Shared → Prop} (h : Q a s) : wpP Pc M A (pure a) Q E s := .of (wpAny_pure h)
theorem wpP_onRaise {m : Sem α} {k : Value → Sem Unit} {Q : α → Shared → Prop} (h : wpP Pc M A m Q (fun e s' => wpP Pc M A (k e) (fun _ s'' => E e s'') E s') s) : wpP Pc M A (m.onRaise k) Q E s := fun Γ p hΓ hc => by
  rw [Sem.wp_onRaise]
  exact Sem.wp_mono M Γ m (fun _ _ _ h' => h') (fun e p' s' h' => h' Γ p' hΓ hc) p s (h Γ p hΓ hc)
theorem wpP_tryCatch {m : Sem α} {k : Value → Sem α} {Q : α → Shared → Prop} (h : wpP Pc M A m Q (fun e s' => wpP Pc M A (k e) Q E s') s) : wpP Pc M A (tryCatch m k) Q E s := fun Γ p hΓ hc => by
  rw [Sem.wp_tryCatch']
  exact Sem.wp_mono M Γ m (fun _ _ _ h' => h') (fun e p' s' h' => h' Γ p' hΓ hc) p s (h Γ p hΓ hc)
theorem wpP_attempt {m : Sem α} {Q : Except Value α → Shared → Prop} (h : wpP Pc M A m (fun a => Q (.ok a)) (fun e => Q (.error e)) s) : wpP Pc M A m.attempt Q E s := fun Γ p hΓ hc => by rw [Sem.wp_attempt]; exact h Γ p hΓ hc
theorem wpP_holding {vs : List Value} {m : Sem α} {Q : α → Shared → Prop} (h : wpP Pc M A m Q E s) : wpP Pc M A (holding vs m) Q E s := fun Γ p hΓ hc => by rw [Sem.wp_holding]; exact h Γ p hΓ hc
theorem wpP_standAt {pos : Pos} {Q : Unit → Shared → Prop} (h : Q () s) : wpP Pc M A (standAt pos) Q E s := .of (wpAny_standAt h)
theorem wpP_operate {vs : List Value} {m : Sem Value} {Q : Value → Shared → Prop} (h : wpP Pc M A m Q E s) : wpP Pc M A (operate vs m) Q E s := fun Γ p hΓ hc => by rw [Sem.wp_operate]; exact h Γ p hΓ hc
theorem codeP_mono {c : Code} {R R' : Result → Shared → Prop} (h : codeP Pc M A c R s) (hR : ∀ r s, R r s → R' r s) : codeP Pc M A c R' s := fun Γ p hc hΓ hp => wpCode_mono hR (h Γ p hc hΓ hp)
theorem wpP_runValue (C : Clo Pc) {c : Code} {Q : Value → Shared → Prop} (hc : codeP Pc M A c (fun r s' => match r with | .ok (.ret v) => Q v s' | .ok _ => False | .error e => E e s') s) : wpP Pc M A (runValue c) Q E s :=
  fun Γ p hΓ hp => by rw [Sem.wp_runValue]; exact hc _ p rfl (hΓ.enter c none p (by intro x; cases x)) (C.enter _ _ _ _ hp)
theorem wpP_run (C : Clo Pc) {c : Code} {h : Option Value} {Q : Flow → Shared → Prop} (hc : codeP Pc M (A.mark h) c (fun r s' => match r with | .ok f => Q f s' | .error e => E e s') s) (hnb : h ≠ some byPass := by intro x; cases x) : wpP Pc M A (run c h) Q E s :=
  fun Γ p hΓ hp => by rw [Sem.wp_run]; exact hc _ p rfl (hΓ.enter c h p hnb) (C.enter _ _ _ _ hp)
theorem wpP_call (C : Clo Pc) {f : Value} {pos : List Value} {kw : List (PySem.Str × Value)} {Q : Value → Shared → Prop} (hc : codeP Pc M A (.call f ⟨pos, kw⟩) (fun r s' => match r with | .ok (.ret v) => Q v s' | .ok _ => False | .error e => E e s') s) :
    wpP Pc M A (call f pos kw) Q E s := wpP_runValue C hc
theorem codeP_of_tree (C : Clo Pc) {c : Code} {R : Result → Shared → Prop}
    (h : wpP Pc M (A.under c) (M.den c) (fun fin s' => match fin with | .done f => R (.ok f) s' | .again c' => c'.quiet = true ∧ codeP Pc M A c' R s') (fun e s' => R (.error e) s') s) : codeP Pc M A c R s := fun Γ p hc hΓ hp => by
  rw [wpCode_iff_wp, hc]
  refine Sem.wp_mono M Γ _ (fun fin p' s' h' => ?_) (fun _ _ _ h' => h') p s (h Γ p (hc ▸ hΓ.in) hp)
  cases fin with
  | done f => exact h'
  | again c' => exact ⟨h'.1, h'.2 (Γ.goto c') p' rfl (hΓ.goto c') (C.goto _ _ hp)⟩
theorem codeP_loop (C : Clo Pc) {c : Code} {R : Result → Shared → Prop} (hq : c.quiet = true) (I : Nat → Shared → Prop)
    (turn : ∀ n s, I n s → wpP Pc M (A.under c) (M.den c) (fun fin s' => match fin with | .done f => R (.ok f) s' | .again c' => (c' = c ∧ ∃ m, m < n ∧ I m s') ∨ (c'.quiet = true ∧ codeP Pc M A c' R s')) (fun e s' => R (.error e) s') s)
    (n : Nat) (h : I n s) : codeP Pc M A c R s := by
  induction n using Nat.strongRecOn generalizing s with
  | ind n ih =>
    refine codeP_of_tree C (wpP_mono (turn n s h) (fun fin s' hf => ?_) fun _ _ h' => h')
    cases fin with
    | done f => exact hf
    | again c' =>
      rcases hf with ⟨rfl, m, hm, hI⟩ | hf
      · exact ⟨hq, ih m hm hI⟩
      · exact hf
theorem wpP_runOwn (C : Clo Pc) {env : Env} {c : Code} {h : Option Value} {Q : Flow → Shared → Prop} (hc : codeP Pc M (A.mark h) c (fun r s' => match r with | .ok f => Q f s' | .error e => cameBackBy M A env E e s') s) (hnb : h ≠ some byPass := by intro x; cases x) :
    wpP Pc M A (runOwn c env h) Q E s := by
  unfold runOwn
  exact wpP_onRaise (wpP_mono (wpP_run C hc hnb) (fun _ _ h' => h') fun _ _ h' => .of h')
theorem wpP_of_eq {t u : Sem α} {Q : α → Shared → Prop} (e : t = u) (h : wpP Pc M A u Q E s) : wpP Pc M A t Q E s := e ▸ h
end

section
variable {Pc : PySem.Ctx → Prop} {prog : Program} {w : World} {A : Around} {E : Value → Shared → Prop} {s : Shared}
theorem wpP_execs_cons {M : Model} {env : Env} {st : Stmt} {rest : List Stmt} {Q : Flow → Shared → Prop} (h : wpP Pc M A (exec st env) (fun f s' => match f with | .next => wpP Pc M A (execs rest env) Q E s' | f => Q f s') E s) : wpP Pc M A (execs (st :: rest) env) Q E s := by
  rw [execs_cons]
  refine wpP_bind (wpP_mono h (fun f s' h' => ?_) fun _ _ h' => h')
  cases f <;> first | exact h' | exact wpP_pure h'
theorem wpP_If {M : Model} {env : Env} {test : PySem.Expr} {body orelse : List Stmt} {pos : Pos} {Q : Flow → Shared → Prop} (h : wpP Pc M A (isTrue test env (eval test env)) (fun b s₂ => if b then wpP Pc M A (execs body env) Q E s₂ else wpP Pc M A (execs orelse env) Q E s₂) E s) :
    wpP Pc M A (exec (.If test body orelse pos) env) Q E s := by
  rw [exec_If]
  refine wpP_bind (wpP_standAt (wpP_bind (wpP_mono h (fun b s₂ h' => ?_) fun _ _ h' => h')))
  cases b <;> exact h'
theorem codeP_forLoop (C : Clo Pc) {R : Result → Shared → Prop} {target : PySem.Expr} {it : Value} {body : List Stmt} {env : Env} (I : Nat → Shared → Prop)
    (turn : ∀ n s, I n s → wpAny (model prog w) A (pyNext it) (fun r s₁ => match r with
      | none => R (.ok .next) s₁
      | some v => wpAny (model prog w) A (letOwnedTupleGo target it v) (fun _ s₁' =>
          wpAny (model prog w) A (assign target env v) (fun _ s₂ => wpP Pc (model prog w) A (execs body env) (fun f s₃ => match f with
            | .next | .cont => ∃ m, m < n ∧ I m s₃
            | .brk => R (.ok .next) s₃
            | .ret v => R (.ok (.ret v)) s₃) (notedBy (model prog w) A env fun e s' => R (.error e) s') s₂) (notedBy (model prog w) A env fun e s' => R (.error e) s') s₁') (notedBy (model prog w) A env fun e s' => R (.error e) s') s₁) (notedBy (model prog w) A env fun e s' => R (.error e) s') s)
    (n : Nat) (h : I n s) : codeP Pc (model prog w) A (.forLoop target it body [] env) R s := by
  refine codeP_loop C rfl I (fun n s hI => ?_) n h
  rw [Around.under_of_weight (by rfl)]
  show wpP Pc _ A ((forTurn target it body [] env).onRaise (fun x => do noteFrame x env; theTreesLotGoes x)) _ _ s
  refine wpP_onRaise (wpP_mono (E := notedBy (model prog w) A env fun e s' => R (.error e) s') ?_ (fun _ _ h' => h') fun x s' h' => .of (wpAny_bind (wpAny_mono h' (fun _ _ e => wpAny_theTreesLotGoes e) fun _ _ e => e)))
  simp only [forTurn]
  refine wpP_bind (wpP_standAt (wpP_bind (wpP_onRaise (wpP_mono (.of (turn n s hI)) (fun r s₁ h₁ => ?_) fun _ _ h' => wpP_standAt h'))))
  cases r with
  | none => exact wpP_pure (.inr ⟨rfl, .of (codeAny_block (wpAny_execs_nil h₁))⟩)
  | some v =>
    refine wpP_bind (wpP_mono (.of h₁) (fun _ s₁' h₁' => ?_) fun _ _ h' => h')
    refine wpP_bind (wpP_mono (.of h₁') (fun _ s₂ h₂ => wpP_bind (wpP_mono h₂ (fun f s₃ h₃ => ?_) fun _ _ h' => h')) fun _ _ h' => h')
    cases f with
    | next => exact wpP_pure (.inl ⟨rfl, h₃⟩)
    | cont => exact wpP_pure (.inl ⟨rfl, h₃⟩)
    | brk => exact wpP_pure h₃
    | ret v => exact wpP_pure h₃
theorem wpP_For (C : Clo Pc) {M : Model} {env : Env} {target iter : PySem.Expr} {body orelse : List Stmt} {pos : Pos} {Q : Flow → Shared → Prop}
    (h : wpAny M A (eval iter env) (fun x s₁ => wpAny M A (pyIter x) (fun it s₂ => codeP Pc M A (.forLoop target it body orelse env) (fun r s' => match r with | .ok f => Q f s' | .error e => cameBackBy M A env E e s') s₂) E s₁) E s)
    (hs : ∀ x, foldedSetIterable iter env x = pure x := by intro _; rfl) : wpP Pc M A (exec (.For target iter body orelse pos) env) Q E s := by
  rw [exec_For]
  exact wpP_bind (wpP_standAt (wpP_bind (wpP_mono (.of h) (fun x s₁ h₁ => wpP_bind (wpP_of_eq (hs x) (wpP_pure (wpP_bind (wpP_standAt (wpP_bind (wpP_holding (wpP_mono (.of h₁) (fun it s₂ h₂ => wpP_runOwn (h := none) C h₂) fun _ _ h' => h')))))))) fun _ _ h' => h')))
end
end Mine

namespace Mine
open PySem PySem.W PyProof.Rows PySem.Spec PySem.Calls PyProof.Rows.LCg

def ExP (Pc : PySem.Ctx → Prop) (W : Wd) (lvl : Nat) (env : Env) (V : Vs) (t : Sem Flow) (Q : Out → Prop) : Prop :=
  ∀ (A : Around) (fe : Env) (h₀ : Heap) (m : PySem.Str → Option Value) (ext mu im : Led) (s : Shared) (R : Flow → Shared → Prop) (E : Value → Shared → Prop),
    Mach W A fe h₀ env.locals lvl → Lay h₀ env.locals s.heap m ext mu im → Holds W.prog W.w env env.locals m mu im V →
    (∀ o f s', Q o → Ends W env h₀ env.locals ext im s o f s' → R f s') → wpP Pc (model W.prog W.w) A t R E s

section
variable {Pc : PySem.Ctx → Prop} {W : Wd} {b : Bool} {lvl : Nat} {env : Env} {V : Vs} {Q : Out → Prop}

theorem Ex.toP {t : Sem Flow} (h : Ex W lvl env V t Q) : ExP Pc W lvl env V t Q := fun A fe h₀ m ext mu im s R E M l H k => .of (h A fe h₀ m ext mu im s R E M l H k)
theorem ExP.any {t : Sem Flow} (h : ExP (fun _ => True) W lvl env V t Q) : Ex W lvl env V t Q := fun A fe h₀ m ext mu im s R E M l H k => (h A fe h₀ m ext mu im s R E M l H k).any
theorem ExP.mono {t : Sem Flow} {Q' : Out → Prop} (h : ExP Pc W lvl env V t Q) (hq : ∀ o, Q o → Q' o) : ExP Pc W lvl env V t Q' := by
  intro A fe h₀ m ext mu im s R E M l H k
  exact h A fe h₀ m ext mu im s R E M l H fun o f s' q e => k o f s' (hq o q) e
theorem ExP.weaken {t : Sem Flow} {V' : Vs} (h : ExP Pc W lvl env V' t Q) (hs : ∀ x d, V'.s.lookup x = some d → V.s.lookup x = some d) (hu : ∀ x d, V'.u = some (x, d) → V.u = some (x, d)) : ExP Pc W lvl env V t Q := by
  intro A fe h₀ m ext mu im s R E M l H k
  exact h A fe h₀ m ext mu im s R E M l (H.weaken hs hu) k
theorem ExP.cons {st : Stmt} {rest : List Stmt} (h : ExP Pc W lvl env V (exec st env) fun o => match o with | .next V' => ExP Pc W lvl env V' (execs rest env) Q | .ret d => Q (.ret d)) : ExP Pc W lvl env V (execs (st :: rest) env) Q := by
  intro A fe h₀ m ext mu im s R E M l H k
  refine wpP_execs_cons (h A fe h₀ m ext mu im s _ E M l H fun o f s' hq he => ?_)
  obtain ⟨h', tk', m', mu', im', rfl, l', hs, r⟩ := he
  cases o with
  | next V' =>
    cases f with
    | next => exact hq A fe h₀ m' ext mu' im' _ R E M l' r fun o f s' hq' he => k o f s' hq' (he.trans hs)
    | _ => exact r.elim
  | ret d =>
    cases f with
    | ret v => exact k _ _ _ hq ⟨h', tk', m', mu', im', rfl, l', hs, r⟩
    | _ => exact r.elim
theorem ExP.ifs {e : PySem.Expr} {c : Bool} {body orelse : List Stmt} {pos : Pos} (h : Tr W lvl env V e c) (h1 : c = true → ExP Pc W lvl env V (execs body env) Q) (h2 : c = false → ExP Pc W lvl env V (execs orelse env) Q) : ExP Pc W lvl env V (exec (.If e body orelse pos) env) Q := by
  intro A fe h₀ m ext mu im s R E M l H k
  refine wpP_If (.of (h A fe h₀ _ m ext mu im s _ E M l H fun h₁ t₁ im₁ l₁ s₁ => ?_))
  cases c with
  | true => exact h1 rfl A fe h₀ m ext mu im₁ _ R E M l₁ (H.mono s₁) fun o f s' hq he => k o f s' hq (he.trans s₁)
  | false => exact h2 rfl A fe h₀ m ext mu im₁ _ R E M l₁ (H.mono s₁) fun o f s' hq he => k o f s' hq (he.trans s₁)

def nextIs (P : Vs → Prop) : Out → Prop
  | .next V => P V
  | _ => False

theorem Lay.iter {h₀ h h' : Heap} {L : Addr} {m : PySem.Str → Option Value} {ext mu im : Led} (l : Lay h₀ L h m ext mu im) {I : Addr} {o : Obj} (hk : ∀ b o, b ≠ I → h.get? b = some o → h'.get? b = some o) (ho : h'.get? I = some o) (hL : I ≠ L) (h0 : h₀.get? I = none) (hI : ∀ p ∈ ext ++ (mu ++ im), p.1 ≠ I) : Lay h₀ L h' m ((I, o) :: ext) mu im := by
  have inE : ∀ p ∈ ext, p ∈ ext ++ (mu ++ im) := fun p hp => List.mem_append.mpr (.inl hp)
  have inM : ∀ p ∈ mu, p ∈ ext ++ (mu ++ im) := fun p hp => List.mem_append.mpr (.inr (List.mem_append.mpr (.inl hp)))
  have inI : ∀ p ∈ im, p ∈ ext ++ (mu ++ im) := fun p hp => List.mem_append.mpr (.inr (List.mem_append.mpr (.inr hp)))
  refine ⟨⟨l.F.ns.at' fun o e => hk _ o (Ne.symm hL) e, fun b o e => hk b o (fun q => by rw [q, h0] at e; cases e) (l.F.keep b o e), l.F.above⟩, fun p hp => ?_, fun p hp q hq => ?_, fun p hp q hq => ?_, l.a3⟩
  · rcases List.mem_cons.mp (by simpa using hp : p ∈ (I, o) :: (ext ++ (mu ++ im))) with rfl | hp
    · exact ⟨ho, hL, h0⟩
    · exact ⟨hk _ _ (hI p hp) (l.N p hp).1, (l.N p hp).2⟩
  · rcases List.mem_cons.mp hp with rfl | hp
    · exact Ne.symm (hI q (inM q hq))
    · exact l.a1 p hp q hq
  · rcases List.mem_cons.mp hp with rfl | hp
    · exact Ne.symm (hI q (inI q hq))
    · exact l.a2 p hp q hq
theorem Lay.drop {h₀ h : Heap} {L : Addr} {m : PySem.Str → Option Value} {ext mu im : Led} {q : Addr × Obj} (l : Lay h₀ L h m (q :: ext) mu im) : Lay h₀ L h m ext mu im :=
  ⟨l.F, fun p hp => l.N p (List.mem_cons_of_mem _ hp), fun p hp => l.a1 p (List.mem_cons_of_mem _ hp), fun p hp => l.a2 p (List.mem_cons_of_mem _ hp), l.a3⟩

/-- a for over any source that takes turns -/
theorem loop_core (C : Clo Pc) {A : Around} {fe : Env} {h₀ : Heap} {m : PySem.Str → Option Value} {ext mu im : Led} {s : Shared} {E : Value → Shared → Prop} {R : Flow → Shared → Prop} {target : PySem.Expr} {body : List Stmt} {I : Addr} {fp : List Addr} {n : Nat}
    {P Md : Nat → Value → Heap → Prop} {St : Nat → Heap → Prop} (K : KTurns W.prog W.w A target I fp [I] n P Md St) (M : Mach W A fe h₀ env.locals lvl) (l : Lay h₀ env.locals s.heap m ext mu im) (H : Holds W.prog W.w env env.locals m mu im V)
    (hst : St 0 s.heap) (hI : ∀ p ∈ ext ++ (mu ++ im), p.1 ≠ I) (hL : I ≠ env.locals) (h0 : h₀.get? I = none) (hIs : ∀ i h, St i h → ∃ o, h.get? I = some o)
    (hfp : ∀ b ∈ fp, b = I ∨ (∃ o, (b, o) ∈ im) ∨ (∃ o, (b, o) ∈ ext) ∨ ∃ o, h₀.get? b = some o)
    (Inv : Nat → Vs → Prop) (start : Inv 0 V)
    (bind : ∀ i v h₁ t₁ m₁ mu₁ im₁ oI V₁, i < n → Inv i V₁ → P i v h₁ → (∀ p ∈ im, p ∈ im₁) → Lay h₀ env.locals h₁ m₁ ((I, oI) :: ext) mu₁ im₁ → Holds W.prog W.w env env.locals m₁ mu₁ im₁ V₁ →
      ∃ V₂, ExP Pc W lvl env V₂ (execs body env) (nextIs (Inv (i + 1))) ∧ ∀ (R : Unit → Shared → Prop) (E : Value → Shared → Prop),
        (∀ h' tk' m', Lay h₀ env.locals h' m' ((I, oI) :: ext) mu₁ im₁ → Holds W.prog W.w env env.locals m' mu₁ im₁ V₂ → R () { s with heap := h', toks := tk' }) → wpAny (model W.prog W.w) A (assign target env v) R E { s with heap := h₁, toks := t₁ })
    (done : ∀ h' tk' m' mu' im' V', Lay h₀ env.locals h' m' ext mu' im' → (∀ p ∈ im, p ∈ im') → Holds W.prog W.w env env.locals m' mu' im' V' → Inv n V' → R .next { s with heap := h', toks := tk' }) :
    codeP Pc (model W.prog W.w) A (.forLoop target (.ref I) body [] env) (fun r s' => match r with | .ok f => R f s' | .error e => cameBackBy (model W.prog W.w) A env E e s') s := by
  refine codeP_forLoop C (fun k s' => ∃ h' tk m' mu' im' V' i, s' = { s with heap := h', toks := tk } ∧ St i h' ∧ Lay h₀ env.locals h' m' ext mu' im' ∧ (∀ p ∈ im, p ∈ im') ∧ (∀ p ∈ ext ++ (mu' ++ im'), p.1 ≠ I) ∧ Holds W.prog W.w env env.locals m' mu' im' V' ∧ Inv i V' ∧ i ≤ n ∧ k = n + 1 - i) ?_ (n + 1)
    ⟨s.heap, s.toks, m, mu, im, V, 0, rfl, hst, l, sub_refl, hI, H, start, Nat.zero_le _, rfl⟩
  rintro k s' ⟨h', tk, m', mu', im', V', i, rfl, hst', l', hs', hI', H', hJ, hi, rfl⟩
  by_cases hlt : i < n
  · refine K.item i _ _ _ hlt hst' fun v h₁ tk₁ hMd hk₁ => ?_
    refine K.go i v _ _ _ hMd fun h₂ hP hst₂ hk₂ => ?_
    obtain ⟨oI, hoI⟩ := hIs _ _ hst₂
    have l₂ : Lay h₀ env.locals h₂ m' ((I, oI) :: ext) mu' im' := l'.iter (fun b o hb e => hk₂ b o (by simpa using hb) (hk₁ b o (by simpa using hb) e)) hoI hL h0 hI'
    obtain ⟨V₂, hex, hasg⟩ := bind i v h₂ tk₁ m' mu' im' oI V' hlt hJ hP hs' l₂ H'
    refine hasg _ _ fun h₃ tk₃ m₃ l₃ H₃ => ?_
    refine hex A fe h₀ m₃ ((I, oI) :: ext) mu' im' _ _ _ M l₃ H₃ fun o f s₄ hq he => ?_
    obtain ⟨h₄, tk₄, m₄, mu₄, im₄, rfl, l₄, hs₄, r⟩ := he
    cases o with
    | ret d => exact hq.elim
    | next V₄ =>
      cases f with
      | next =>
        refine ⟨n + 1 - (i + 1), by omega, h₄, tk₄, m₄, mu₄, im₄, V₄, i + 1, rfl, K.frame _ _ _ hst₂ fun b hb o e => ?_, l₄.drop, sub_trans hs' hs₄, ?_, r, hq, hlt, rfl⟩
        · rcases hfp b hb with rfl | ⟨o', ho'⟩ | ⟨o', ho'⟩ | ⟨o', ho'⟩
          · have e1 := (l₄.nExt _ (.head _)).1
            rw [hoI] at e; cases e; exact e1
          · have e1 := (l₂.nIm _ (hs' _ ho')).1
            rw [e] at e1; cases e1
            exact (l₄.nIm _ (hs₄ _ (hs' _ ho'))).1
          · have e1 := (l₂.nExt _ (.tail _ ho')).1
            rw [e] at e1; cases e1
            exact (l₄.nExt _ (.tail _ ho')).1
          · have e1 := l₂.F.keep _ _ ho'
            rw [e] at e1; cases e1
            exact l₄.F.keep _ _ ho'
        · intro p hp
          rcases List.mem_append.mp hp with hp | hp
          · exact hI p (List.mem_append.mpr (.inl hp))
          · rcases List.mem_append.mp hp with hp | hp
            · exact Ne.symm (l₄.a1 (I, oI) (.head _) p hp)
            · exact Ne.symm (l₄.a2 (I, oI) (.head _) p hp)
      | _ => exact r.elim
  · have hin : i = n := by omega
    subst hin
    refine K.done _ _ _ hst' fun h₁ tk₁ hk₁ => ?_
    obtain ⟨oI, hoI⟩ := hIs _ _ hst'
    have l₁ : Lay h₀ env.locals h₁ m' ext mu' im' := by
      refine ⟨⟨l'.F.ns.at' fun o e => hk₁ _ o (by simpa using Ne.symm hL) e, fun b o e => hk₁ b o (by intro q; rw [List.mem_singleton.mp q, h0] at e; cases e) (l'.F.keep b o e), l'.F.above⟩, fun p hp => ⟨hk₁ _ _ (by simpa using hI' p hp) (l'.N p hp).1, (l'.N p hp).2⟩, l'.a1, l'.a2, l'.a3⟩
    exact done h₁ tk₁ m' mu' im' V' l₁ hs' H' hJ

theorem next_new {h₀ h : Heap} {L : Addr} {m : PySem.Str → Option Value} {ext mu im : Led} (l : Lay h₀ L h m ext mu im) : (∀ p ∈ ext ++ (mu ++ im), p.1 ≠ h.objs.size) ∧ h.objs.size ≠ L ∧ h₀.get? h.objs.size = none :=
  ⟨fun p hp => Nat.ne_of_lt (Heap.lt_size (l.N p hp).1), fun e => absurd l.F.ns.lt (by rw [e]; exact Nat.lt_irrefl _), next_is_new l.F⟩

/-- a for over a list of data: what a turn binds is said by B -/
theorem for_list (C : Clo Pc) {target iter : PySem.Expr} {body : List Stmt} {pos : Pos} {ds : List D} (h : Ev W true lvl env V iter (.list ds)) (Inv : Nat → Vs → Prop) (start : Inv 0 V)
    (hgo : ∀ (A : Around) (I ax : Addr) (i : Nat) (v : Value) (s : Shared) (Q : Unit → Shared → Prop) (E : Value → Shared → Prop) (d : D) (im : Led), DIn W.prog W.w im v d → d ∈ ds → s.heap.IsListIter I ax i → Q () s → wpAny (model W.prog W.w) A (letOwnedTupleGo target (.ref I) v) Q E s)
    (bind : ∀ i d V₁, ds[i]? = some d → Inv i V₁ → ∃ V₂, ExP Pc W lvl env V₂ (execs body env) (nextIs (Inv (i + 1))) ∧
      ∀ (A : Around) (h₀ : Heap) (m : PySem.Str → Option Value) (ext mu im : Led) (s : Shared) (v : Value) (R : Unit → Shared → Prop) (E : Value → Shared → Prop), A.handled = none → Lay h₀ env.locals s.heap m ext mu im → Holds W.prog W.w env env.locals m mu im V₁ → DIn W.prog W.w im v d →
        (∀ h' tk' m', Lay h₀ env.locals h' m' ext mu im → Holds W.prog W.w env env.locals m' mu im V₂ → R () { s with heap := h', toks := tk' }) → wpAny (model W.prog W.w) A (assign target env v) R E s)
    (hq : ∀ V', Inv ds.length V' → Q (.next V')) (hs : ∀ x, foldedSetIterable iter env x = pure x := by intro _; rfl) : ExP Pc W lvl env V (exec (.For target iter body [] pos) env) Q := by
  intro A fe h₀ m ext mu im s R E M l H k
  refine wpP_For C (h A fe h₀ _ m ext mu im s _ E M l H fun xv h₁ t₁ im₁ l₁ s₁ hd => ?_) hs
  cases hd with
  | @list ax vs n _ hm r =>
  have hl := DIn.isList l₁.nIm hm
  refine wpAny_pyIter_list hl ?_
  obtain ⟨n1, n2, n3⟩ := next_new l₁
  have hlt : ax < h₁.objs.size := Heap.lt_size (l₁.nIm _ hm).1
  have Wk := Walks.list (prog := W.prog) (w := W.w) (A := A) M.hh h₁.objs.size ax (Nat.ne_of_lt hlt) vs.toArray
  have hsz : vs.toArray.size = ds.length := by rw [List.size_toArray, r.length]
  have it : ∀ (i : Nat) (v : Value), vs.toArray[i]? = some v → ∃ d, ds[i]? = some d ∧ DIn W.prog W.w im₁ v d := by
    intro i v hv
    have hv' : vs[i]? = some v := by simpa using hv
    have hi : i < ds.length := by
      rw [← r.length]
      rcases Nat.lt_or_ge i vs.length with h | h
      · exact h
      · rw [List.getElem?_eq_none h] at hv'; cases hv'
    obtain ⟨u, hu, hd⟩ := r.get (List.getElem?_eq_getElem hi)
    rw [hu] at hv'; cases hv'
    exact ⟨_, List.getElem?_eq_getElem hi, hd⟩
  have K : KTurns W.prog W.w A target h₁.objs.size [h₁.objs.size, ax] [h₁.objs.size] vs.toArray.size (fun i v _ => vs.toArray[i]? = some v) (fun i v h => vs.toArray[i]? = some v ∧ (h.IsListIter h₁.objs.size ax (i + 1) ∧ h.IsList ax vs.toArray)) (fun i h => h.IsListIter h₁.objs.size ax i ∧ h.IsList ax vs.toArray) :=
    { sub := Wk.sub, frame := Wk.frame, item := fun i s Q E hi st hQ => Wk.item i s Q E hi st fun v h' tk hP st' hk => hQ v h' tk ⟨hP, st'⟩ hk,
      go := fun i v s Q E hm hQ => by
        obtain ⟨d, hd, hD⟩ := it i v hm.1
        exact hgo A _ ax (i + 1) v s Q E d im₁ hD (List.mem_of_getElem? hd) hm.2.1 (hQ s.heap hm.1 hm.2 fun _ _ _ e => e),
      done := Wk.done }
  rw [hsz] at K
  have l₂ : Lay h₀ env.locals (h₁.push { cls := .type "list_iterator", data := .fields #[.ref ax, .int 0 0] }) m ext mu im₁ := l₁.keeps fun _ _ e => Heap.get?_push_of_some _ e
  refine loop_core C K M l₂ (H.mono s₁) ⟨⟨_, Heap.get?_push_size _ rfl, rfl, rfl⟩, hl.push _⟩ n1 n2 n3 (fun i h st => by obtain ⟨o, e, _⟩ := st.1; exact ⟨o, e⟩) (fun b hb => ?_) Inv start (fun i v h₂ t₂ m₂ mu₂ im₂ oI V₂ hi hJ hP hs₂ l₂ H₂ => ?_) fun h' tk' m' mu' im' V' l' hs' H' hJ => ?_
  · rcases List.mem_cons.mp hb with rfl | hb
    · exact .inl rfl
    · rw [List.mem_singleton.mp hb]; exact .inr (.inl ⟨_, hm⟩)
  · obtain ⟨d, hd, hD⟩ := it i v hP
    obtain ⟨V₃, hex, hasg⟩ := bind i d V₂ hd hJ
    exact ⟨V₃, hex, fun R E kk => hasg A h₀ m₂ _ mu₂ im₂ _ v R E M.hh l₂ H₂ (hD.mono hs₂) kk⟩
  · exact k _ _ _ (hq V' hJ) ⟨h', tk', m', mu', im', rfl, l', sub_trans s₁ hs', H'⟩
end
end Mine

namespace Mine
open PySem PySem.W PyProof.Rows PySem.Spec PySem.Calls PyProof.Rows.LCg

section
variable {Pc : PySem.Ctx → Prop} {W : Wd} {b : Bool} {lvl : Nat} {env : Env} {V : Vs} {Q : Out → Prop}

theorem ExP.forName (C : Clo Pc) {x : PySem.Str} {xp : Pos} {iter : PySem.Expr} {body : List Stmt} {pos : Pos} {ds : List D} (he : EnvOk env) (hx : env.kindOf x = some .local) (h : Ev W true lvl env V iter (.list ds)) (Inv : Nat → Vs → Prop) (start : Inv 0 V)
    (hu : ∀ i V₁ y e, Inv i V₁ → V₁.u = some (y, e) → y ≠ x) (turn : ∀ i d V₁, ds[i]? = some d → Inv i V₁ → ExP Pc W lvl env { V₁ with s := (x, d) :: V₁.s } (execs body env) (nextIs (Inv (i + 1))))
    (hq : ∀ V', Inv ds.length V' → Q (.next V')) (hs : ∀ x, foldedSetIterable iter env x = pure x := by intro _; rfl) : ExP Pc W lvl env V (exec (.For (.Name x xp) iter body [] pos) env) Q :=
  for_list C h Inv start (fun _ _ _ _ _ _ _ _ _ _ _ _ _ hQ => wpAny_pure hQ)
    (fun i d V₁ hd hJ => ⟨_, turn i d V₁ hd hJ, fun A h₀ m ext mu im s v R E _ l H hD k => wpAny_assign_Name (storeL he l H hx hD (fun y e h => hu i V₁ y e hJ h) k)⟩) hq hs
theorem ExP.forTup (C : Clo Pc) {xs : List (PySem.Str × Pos)} {kd : Nat} {tp : Pos} {iter : PySem.Expr} {body : List Stmt} {pos : Pos} {ds : List D} (he : EnvOk env) (hx : ∀ p ∈ xs, env.kindOf p.1 = some .local) (h : Ev W true lvl env V iter (.list ds)) (hds : ∀ d ∈ ds, ∃ es, d = .tuple es ∧ xs.length = es.length) (Inv : Nat → Vs → Prop) (start : Inv 0 V)
    (hu : ∀ i V₁ y e, Inv i V₁ → V₁.u = some (y, e) → ∀ p ∈ xs, y ≠ p.1) (turn : ∀ i es V₁, ds[i]? = some (.tuple es) → Inv i V₁ → ExP Pc W lvl env { V₁ with s := putAll V₁.s (xs.map (·.1)) es } (execs body env) (nextIs (Inv (i + 1))))
    (hq : ∀ V', Inv ds.length V' → Q (.next V')) (hs : ∀ x, foldedSetIterable iter env x = pure x := by intro _; rfl) : ExP Pc W lvl env V (exec (.For (.Tuple (xs.map fun p => PySem.Expr.Name p.1 p.2) kd tp) iter body [] pos) env) Q :=
  for_list C h Inv start (fun A I ax i v s Q E d im hD hm hit hQ => by
      obtain ⟨es, rfl, _⟩ := hds d hm
      cases hD with
      | tuple _ _ => exact wpAny_letOwnedTupleGo_listiter hit hQ)
    (fun i d V₁ hd hJ => by
      obtain ⟨es, rfl, hl⟩ := hds d (List.mem_of_getElem? hd)
      refine ⟨_, turn i es V₁ hd hJ, fun A h₀ m ext mu im s v R E hh l H hD k => ?_⟩
      cases hD with
      | tuple hm r => exact unpackT he hh l H (DIn.isTuple l.nIm hm) r hx (fun p hp y e h => hu i V₁ y e hJ h p hp) hl k) hq hs

/-! own objects that change -/
def upd (a : Addr) (o : Obj) (mu : Led) : Led := mu.map fun q => if q.1 = a then (a, o) else q
theorem mem_upd {a : Addr} {o o' : Obj} {mu : Led} (h : (a, o') ∈ mu) : (a, o) ∈ upd a o mu := List.mem_map.mpr ⟨_, h, if_pos rfl⟩
theorem mem_upd_ne {a : Addr} {o : Obj} {mu : Led} {q : Addr × Obj} (h : q ∈ mu) (hne : q.1 ≠ a) : q ∈ upd a o mu := List.mem_map.mpr ⟨q, h, if_neg hne⟩
theorem upd_addr {a : Addr} {o : Obj} {mu : Led} {p : Addr × Obj} (h : p ∈ upd a o mu) : (p = (a, o) ∧ ∃ o', (a, o') ∈ mu) ∨ (p.1 ≠ a ∧ p ∈ mu) := by
  obtain ⟨q, hq, e⟩ := List.mem_map.mp h
  by_cases hqa : q.1 = a
  · rw [if_pos hqa] at e
    exact .inl ⟨e.symm, q.2, by rw [← hqa]; exact hq⟩
  · rw [if_neg hqa] at e
    subst e
    exact .inr ⟨hqa, hq⟩
theorem Lay.upd {h₀ h h' : Heap} {L : Addr} {m : PySem.Str → Option Value} {ext mu im : Led} (l : Lay h₀ L h m ext mu im) {a : Addr} {o o' : Obj} (ha : (a, o) ∈ mu) (hs : Heap.SameBut a h h') (ho : h'.get? a = some o') : Lay h₀ L h' m ext (upd a o' mu) im := by
  have na := l.nMu _ ha
  have keepNe : ∀ p : Addr × Obj, p.1 ≠ a → h.get? p.1 = some p.2 → h'.get? p.1 = some p.2 := fun p hp e => (hs.2 _ hp).trans e
  refine ⟨l.F.change hs na.2.1 na.2.2, fun p hp => ?_, fun p hp q hq => ?_, l.a2, fun p hp q hq => ?_⟩
  · rcases List.mem_append.mp hp with hp | hp
    · exact ⟨keepNe p (l.a1 p hp _ ha) (l.nExt p hp).1, (l.nExt p hp).2⟩
    · rcases List.mem_append.mp hp with hp | hp
      · rcases upd_addr hp with ⟨rfl, _⟩ | ⟨hne, hp⟩
        · exact ⟨ho, na.2⟩
        · exact ⟨keepNe p hne (l.nMu p hp).1, (l.nMu p hp).2⟩
      · exact ⟨keepNe p (Ne.symm (l.a3 _ ha p hp)) (l.nIm p hp).1, (l.nIm p hp).2⟩
  · rcases upd_addr hq with ⟨rfl, _⟩ | ⟨_, hq⟩
    · exact l.a1 p hp (a, o) ha
    · exact l.a1 p hp q hq
  · rcases upd_addr hp with ⟨rfl, _⟩ | ⟨_, hp⟩
    · exact l.a3 (a, o) ha q hq
    · exact l.a3 p hp q hq
theorem Lay.updK {h₀ h h' : Heap} {L : Addr} {m : PySem.Str → Option Value} {ext mu im : Led} (l : Lay h₀ L h m ext mu im) {a : Addr} {o o' : Obj} (ha : (a, o) ∈ mu) (hk : ∀ c o, c ≠ a → h.get? c = some o → h'.get? c = some o) (ho : h'.get? a = some o') : Lay h₀ L h' m ext (Mine.upd a o' mu) im := by
  have na := l.nMu _ ha
  refine ⟨⟨l.F.ns.at' fun o e => hk _ o (Ne.symm na.2.1) e, fun b o e => hk b o (fun q => by rw [q, na.2.2] at e; cases e) (l.F.keep b o e), l.F.above⟩, fun p hp => ?_, fun p hp q hq => ?_, l.a2, fun p hp q hq => ?_⟩
  · rcases List.mem_append.mp hp with hp | hp
    · exact ⟨hk _ _ (l.a1 p hp _ ha) (l.nExt p hp).1, (l.nExt p hp).2⟩
    · rcases List.mem_append.mp hp with hp | hp
      · rcases upd_addr hp with ⟨rfl, _⟩ | ⟨hne, hp⟩
        · exact ⟨ho, na.2⟩
        · exact ⟨hk _ _ hne (l.nMu p hp).1, (l.nMu p hp).2⟩
      · exact ⟨hk _ _ (Ne.symm (l.a3 _ ha p hp)) (l.nIm p hp).1, (l.nIm p hp).2⟩
  · rcases upd_addr hq with ⟨rfl, _⟩ | ⟨_, hq⟩
    · exact l.a1 p hp (a, o) ha
    · exact l.a1 p hp q hq
  · rcases upd_addr hp with ⟨rfl, _⟩ | ⟨_, hp⟩
    · exact l.a3 (a, o) ha q hq
    · exact l.a3 p hp q hq
def plainObj (o : Obj) : Prop := (∀ v, o.data ≠ .cell v) ∧ ∀ m, ¬ NsObj o m
theorem Var.upd {h₀ h : Heap} {L : Addr} {m : PySem.Str → Option Value} {ext mu im : Led} {x : PySem.Str} {v : Value} (l : Lay h₀ L h m ext mu im) {a : Addr} {o o' : Obj} (ha : (a, o) ∈ mu) (hc : ∀ v, o.data ≠ .cell v) (hL : env.locals ≠ a) (hv : Var env L m mu x v) : Var env L m (upd a o' mu) x v := by
  cases hv with
  | loc e k c => exact .loc e k c
  | comp hm hn k c => exact .comp (mem_upd_ne hm hL) hn k c
  | @cell c oc k e hm hd =>
    refine .cell k e (mem_upd_ne hm fun q => ?_) hd
    have h1 := (l.nMu _ hm).1
    have h2 := (l.nMu _ ha).1
    have q' : c = a := q
    subst q'
    rw [h2] at h1; cases h1
    exact hc _ hd
theorem Holds.upd {h₀ h : Heap} {L : Addr} {m : PySem.Str → Option Value} {ext mu im : Led} {x : PySem.Str} {a : Addr} {o o' : Obj} {d d' : D} (l : Lay h₀ L h m ext mu im) (H : Holds W.prog W.w env L m mu im V) (hu : V.u = some (x, d)) (hv : Var env L m mu x (.ref a)) (ha : (a, o) ∈ mu) (hc : ∀ v, o.data ≠ .cell v) (hL : env.locals ≠ a)
    (ho : Own W.prog W.w (Mine.upd a o' mu) im (.ref a) d') : Holds W.prog W.w env L m (Mine.upd a o' mu) im { V with u := some (x, d') } := by
  refine ⟨fun y e he => ?_, fun y e he => ?_⟩
  · obtain ⟨u, hu, hd⟩ := H.s y e he
    exact ⟨u, hu.upd l ha hc hL, hd⟩
  · cases he
    exact ⟨_, hv.upd l ha hc hL, ho⟩

theorem Ex.append {x : PySem.Str} {np apos cpos pos : Pos} {e : PySem.Expr} {ds : List D} {d : D} (he : EnvOk env) (hu : V.u = some (x, .list ds)) (h : Ev W true lvl env V e d) (hsz : ds.length ≤ sizeLine) (hq : Q (.next { V with u := some (x, .list (ds ++ [d])) }))
    (hline : (apos.endLine == cpos.line) = true) (hi : interactive env = false) (hd : (x == ("__debug__" : PySem.Str)) = false := by decide) (hs : ∀ rest, starEach (e :: rest) env = (false, eval e env) :: starEach rest env := by intro _; rfl) :
    Ex W lvl env V (exec (.Expr (.Call (.Attribute (.Name x np) "append" apos) [e] [] cpos) pos) env) Q := by
  intro A fe h₀ m ext mu im s R E M l H k
  obtain ⟨v, hv, a, vs, n, rfl, hm, hds⟩ := H.u x _ hu
  refine wpAny_Expr_any (wpAny_Call_method1_late (by rfl) hline (by rw [hs]; rfl) (wpAny_Name (hv.load he.k l ?_) hd)) hi
  have ho := (l.nMu _ hm).1
  refine ⟨"list", "list.append", F.plainAttrs_list, F.slot_list_append, F.type_list_append, ⟨_, ho, rfl⟩, (fun b e => by cases e; exact ⟨_, ho, rfl⟩), ?_⟩
  refine PySem.Calls.callWith_builtin rfl (evalArgs_plain (spliced_cons (h A fe h₀ _ m ext mu im s _ E M l H fun u h₁ t₁ im₁ l₁ s₁ hd' => spliced_nil ?_)))
  refine append_at (l₁.nMu _ hm).1 (fun h₂ hs₂ ho₂ => ?_) (by rw [List.size_toArray, hds.length]; exact hsz)
  have e1 : vs.toArray.push u = (vs ++ [u]).toArray := by simp
  rw [e1] at ho₂
  have hL : env.locals ≠ a := fun q => (l.nMu _ hm).2.1 q.symm
  refine k _ _ _ hq ⟨h₂, t₁, m, Mine.upd a (lstObj (vs ++ [u]) (n + 1)) mu, im₁, rfl, l₁.upd hm hs₂ ho₂, s₁, ?_⟩
  exact Holds.upd l₁ (H.mono s₁) hu hv hm (by intro v q; cases q) hL ⟨a, vs ++ [u], n + 1, rfl, mem_upd hm, (hds.mono s₁).append (.cons hd' .nil)⟩
end
end Mine

namespace Mine
open PySem PySem.W PyProof.Rows PySem.Spec PySem.Calls PyProof.Rows.LCg

/-! dicts of ints by texts: the plain functions -/
def put (kvs : List (PySem.Str × Int)) (k : PySem.Str) (n : Int) : List (PySem.Str × Int) :=
  if kvs.any (fun kv => kv.1 = k) then kvs.map (fun kv => if kv.1 = k then (kv.1, n) else kv) else kvs ++ [(k, n)]
def at? (kvs : List (PySem.Str × Int)) (k : PySem.Str) : Option Int := (kvs.find? fun kv => kv.1 = k).map (·.2)

theorem IntVals.any {vk : List (PySem.Str × Value)} {kvs : List (PySem.Str × Int)} (h : IntVals vk kvs) (k : PySem.Str) : vk.any (fun kv => kv.1 = k) = kvs.any (fun kv => kv.1 = k) := by
  induction h with
  | nil => rfl
  | cons t r ih => simp only [List.any_cons, ih]
theorem IntVals.length {vk : List (PySem.Str × Value)} {kvs : List (PySem.Str × Int)} (h : IntVals vk kvs) : vk.length = kvs.length := by
  induction h with
  | nil => rfl
  | cons t r ih => simp only [List.length_cons, ih]
theorem IntVals.snoc {vk : List (PySem.Str × Value)} {kvs : List (PySem.Str × Int)} (h : IntVals vk kvs) (k : PySem.Str) (n : Int) (t : Tok) : IntVals (vk ++ [(k, .int n t)]) (kvs ++ [(k, n)]) := by
  induction h with
  | nil => exact .cons t .nil
  | cons t r ih => exact .cons t ih
theorem IntVals.setv {vk : List (PySem.Str × Value)} {kvs : List (PySem.Str × Int)} (h : IntVals vk kvs) (k : PySem.Str) (n : Int) (t : Tok) :
    IntVals (vk.map fun kv => if kv.1 = k then (kv.1, Value.int n t) else kv) (kvs.map fun kv => if kv.1 = k then (kv.1, n) else kv) := by
  induction h with
  | nil => exact .nil
  | @cons k' i t' r r' h ih =>
    simp only [List.map_cons]
    by_cases hk : k' = k
    · rw [if_pos hk, if_pos hk]; exact .cons t ih
    · rw [if_neg hk, if_neg hk]; exact .cons t' ih
theorem IntVals.stored {vk : List (PySem.Str × Value)} {kvs : List (PySem.Str × Int)} (h : IntVals vk kvs) (k : PySem.Str) (n : Int) (t : Tok) : IntVals (PySem.stored vk k (.int n t)) (put kvs k n) := by
  unfold PySem.stored put
  rw [h.any k]
  split
  · exact h.setv k n t
  · exact h.snoc k n t
theorem IntVals.valueAt {vk : List (PySem.Str × Value)} {kvs : List (PySem.Str × Int)} (h : IntVals vk kvs) (k : PySem.Str) : (∀ n, at? kvs k = some n → ∃ t, PySem.valueAt vk k = some (.int n t)) ∧ (at? kvs k = none → PySem.valueAt vk k = none) := by
  induction h with
  | nil => exact ⟨fun n h => (by cases h), fun _ => rfl⟩
  | @cons k' i t r r' h ih =>
    unfold at? PySem.valueAt at *
    simp only [List.find?_cons]
    by_cases hk : k' = k
    · simp only [hk, decide_true]
      exact ⟨fun n e => ⟨t, by simp at e; subst e; rfl⟩, fun e => by simp at e⟩
    · simp only [hk, decide_false]
      exact ih
theorem IntVals.get {vk : List (PySem.Str × Value)} {kvs : List (PySem.Str × Int)} (h : IntVals vk kvs) {i : Nat} {k : PySem.Str} {x : Value} (hx : vk[i]? = some (k, x)) : ∃ n t, x = .int n t ∧ kvs[i]? = some (k, n) := by
  induction h generalizing i with
  | nil => simp at hx
  | @cons k' j t r r' h ih =>
    cases i with
    | zero => simp at hx; obtain ⟨rfl, rfl⟩ := hx; exact ⟨j, t, rfl, rfl⟩
    | succ i => exact ih (by simpa using hx)

section
variable {Pc : PySem.Ctx → Prop} {W : Wd} {b : Bool} {lvl : Nat} {env : Env} {V : Vs} {Q : Out → Prop}

theorem not_sm {A : Around} {fe : Env} {h₀ : Heap} {L : Addr} (M : Mach W A fe h₀ L lvl) {h : Heap} {news : Led} {a : Addr} {o : Obj} (N : News h₀ L h news) (hm : (a, o) ∈ news) : (a == sysModules) = false := by
  rw [beq_eq_false_iff_ne]
  intro e
  obtain ⟨o', ho'⟩ := M.sm
  have := (N _ hm).2.2
  rw [show (a, o).1 = sysModules from e, ho'] at this
  cases this
theorem op_inDict {k : PySem.Str} {kvs : List (PySem.Str × Int)} : Op2 W b lvl (compareOp .In) (.str k) (.dict kvs) (.bool (at? kvs k).isSome) := by
  intro A fe h₀ L m ext mu im s Q E v₁ v₂ M l d1 d2 kk
  cases d1 with
  | str _ t =>
  cases d2 with
  | @dict a o _ hm r =>
  obtain ⟨vk, hd, hi⟩ := r
  refine kda_in (knd := strKind W.prog W.w) (l.nV b) hm hd (not_sm M (l.nV b) hm) (strKind_is _ _ k t) (at? kvs k).isSome ?_ (kk _ s.heap _ im l sub_refl (.bool _))
  have q := hi.valueAt k
  cases e : at? kvs k with
  | none => rw [q.2 e]; rfl
  | some n => obtain ⟨t, ht⟩ := q.1 n e; rw [ht]; rfl

/-- the dict of this frame's own takes a key -/
theorem dict_put {A : Around} {fe : Env} {h₀ : Heap} {m : PySem.Str → Option Value} {ext mu im : Led} {s : Shared} {R : Unit → Shared → Prop} {E : Value → Shared → Prop} {x : PySem.Str} {a : Addr} {o : Obj} {kvs : List (PySem.Str × Int)} {k : PySem.Str} {t t' : Tok} {n : Int} (M : Mach W A fe h₀ env.locals lvl)
    (l : Lay h₀ env.locals s.heap m ext mu im) (H : Holds W.prog W.w env env.locals m mu im V) (hu : V.u = some (x, .dict kvs)) (hv : Var env env.locals m mu x (.ref a)) (hm : (a, o) ∈ mu) (ho : DictObj W.prog W.w o kvs) (hsz : kvs.length ≤ sizeLine)
    (kk : ∀ h' tk' mu', Lay h₀ env.locals h' m ext mu' im → Holds W.prog W.w env env.locals m mu' im { V with u := some (x, .dict (put kvs k n)) } → R () { s with heap := h', toks := tk' }) :
    wpAny (model W.prog W.w) A (setItem (.ref a) (.str k t) (.int n t')) R E s := by
  obtain ⟨vk, hd, hi⟩ := ho
  refine wpAny_setItem_pairs (knd := strKind W.prog W.w) (strKind_is _ _ k t) (Heap.dictOf_iff.mpr ⟨o, (l.nMu _ hm).1, hd⟩) (fun h' hd' hs => ?_) (by rw [hi.length]; exact hsz)
  obtain ⟨o', ho', hd''⟩ := Heap.dictOf_iff.mp hd'
  have hL : env.locals ≠ a := fun q => (l.nMu _ hm).2.1 q.symm
  have hc : ∀ v, o.data ≠ .cell v := by
    intro v q
    obtain ⟨es, ep, _, e, _⟩ := hd
    rw [q] at e; cases e
  exact kk h' _ _ (l.upd hm hs ho') (Holds.upd l H hu hv hm hc hL ⟨a, o', rfl, mem_upd hm, ⟨_, hd'', hi.stored k n t'⟩⟩)
theorem Ex.dictSet {x y : PySem.Str} {np yp sp pos : Pos} {e : PySem.Expr} {kvs : List (PySem.Str × Int)} {k : PySem.Str} {n : Int} (he : EnvOk env) (hu : V.u = some (x, .dict kvs)) (hy : V.s.lookup y = some (.str k)) (h : Ev W true lvl env V e (.int n)) (hsz : kvs.length ≤ sizeLine) (hq : Q (.next { V with u := some (x, .dict (put kvs k n)) }))
    (hd : (x == ("__debug__" : PySem.Str)) = false := by decide) (hd' : (y == ("__debug__" : PySem.Str)) = false := by decide) (hs : swapsWith e (some (.Subscript (.Name x np) (.Name y yp) sp)) pos.line env = pure false := by rfl) : Ex W lvl env V (exec (.Assign [.Subscript (.Name x np) (.Name y yp) sp] e pos) env) Q := by
  intro A fe h₀ m ext mu im s R E M l H kk
  refine wpAny_Assign_Subscript (h A fe h₀ _ m ext mu im s _ E M l H fun v h₁ t₁ im₁ l₁ s₁ hd₁ => ?_) hs
  have H₁ := H.mono s₁
  obtain ⟨u, hv, a, o, rfl, hm, ho⟩ := H₁.u x _ hu
  obtain ⟨ky, hky, hkd⟩ := H₁.s y _ hy
  cases hd₁; cases hkd
  exact wpAny_Name (hv.load he.k l₁ (wpAny_Name (hky.load he.k l₁ (dict_put M l₁ H₁ hu hv hm ho hsz fun h' tk' mu' l' H' => kk _ _ _ hq ⟨h', tk', m, mu', im₁, rfl, l', s₁, H'⟩)) hd')) hd
theorem Ex.dictAug {x y z : PySem.Str} {np yp zp sp pos : Pos} {kvs : List (PySem.Str × Int)} {k : PySem.Str} {n i : Int} (he : EnvOk env) (hu : V.u = some (x, .dict kvs)) (hy : V.s.lookup y = some (.str k)) (hz : V.s.lookup z = some (.int n)) (hi : at? kvs k = some i) (hsz : kvs.length ≤ sizeLine) (hq : Q (.next { V with u := some (x, .dict (put kvs k (i + n))) }))
    (hd : (x == ("__debug__" : PySem.Str)) = false := by decide) (hd' : (y == ("__debug__" : PySem.Str)) = false := by decide) (hd'' : (z == ("__debug__" : PySem.Str)) = false := by decide) : Ex W lvl env V (exec (.AugAssign (.Subscript (.Name x np) (.Name y yp) sp) .Add (.Name z zp) pos) env) Q := by
  intro A fe h₀ m ext mu im s R E M l H kk
  obtain ⟨u, hv, a, o, rfl, hm, ho⟩ := H.u x _ hu
  obtain ⟨ky, hky, hkd⟩ := H.s y _ hy
  obtain ⟨kz, hkz, hzd⟩ := H.s z _ hz
  cases hkd; cases hzd
  refine wpAny_AugAssign_SubscriptAny (wpAny_Name (hv.load he.k l (wpAny_Name (hky.load he.k l ?_) hd')) hd)
  obtain ⟨vk, hd₁, hi₁⟩ := id ho
  obtain ⟨t, ht⟩ := (hi₁.valueAt k).1 i hi
  refine wpAny_getItem_of (knd := strKind W.prog W.w) (strKind_is _ _ k _) (Heap.DictOf.mapOf (Heap.dictOf_iff.mpr ⟨o, (l.nMu _ hm).1, hd₁⟩)) ht ?_
  refine wpAny_Name (hkz.load he.k l (wpAny_iadd_int ?_)) hd''
  exact dict_put M l H hu hv hm ho hsz fun h' tk' mu' l' H' => kk _ _ _ hq ⟨h', tk', m, mu', im, rfl, l', sub_refl, H'⟩

/-- an expression that makes an object nobody else holds -/
def EvF (W : Wd) (lvl : Nat) (env : Env) (V : Vs) (e : PySem.Expr) (d : D) : Prop :=
  ∀ (A : Around) (fe : Env) (h₀ : Heap) (L : Addr) (m : PySem.Str → Option Value) (ext mu im : Led) (s : Shared) (Q : Value → Shared → Prop) (E : Value → Shared → Prop),
    Mach W A fe h₀ L lvl → Lay h₀ L s.heap m ext mu im → Holds W.prog W.w env L m mu im V →
    (∀ a o h' tk' im', Lay h₀ L h' m ext ((a, o) :: mu) im' → (∀ p ∈ im, p ∈ im') → Own W.prog W.w [(a, o)] im' (.ref a) d → Q (.ref a) { s with heap := h', toks := tk' }) →
    wpAny (model W.prog W.w) A (eval e env) Q E s
theorem Lay.own {h₀ h h' : Heap} {L : Addr} {m : PySem.Str → Option Value} {ext mu im : Led} (l : Lay h₀ L h m ext mu im) (hk : ∀ b o, h.get? b = some o → h'.get? b = some o) {a : Addr} {o : Obj} (hn : h.objs.size ≤ a) (ho : h'.get? a = some o) : Lay h₀ L h' m ext ((a, o) :: mu) im := by
  have j := l.join hk hn ho
  have fresh : ∀ p ∈ im, (a, o).1 ≠ p.1 := fun p hp e => absurd (Heap.lt_size (l.nIm p hp).1) (by rw [← e]; exact Nat.not_lt.mpr hn)
  refine ⟨j.F, fun p hp => j.N p ?_, fun p hp q hq => ?_, l.a2, fun p hp q hq => ?_⟩
  · rcases List.mem_append.mp hp with hp | hp
    · exact List.mem_append.mpr (.inl hp)
    · rcases List.mem_cons.mp (by simpa using hp : p ∈ (a, o) :: (mu ++ im)) with rfl | hp
      · exact List.mem_append.mpr (.inr (List.mem_append.mpr (.inr (.head _))))
      · exact List.mem_append.mpr (.inr ((List.mem_append.mp hp).elim (fun h => List.mem_append.mpr (.inl h)) fun h => List.mem_append.mpr (.inr (.tail _ h))))
  · rcases List.mem_cons.mp hq with rfl | hq
    · exact j.a2 p hp (a, o) (.head _)
    · exact l.a1 p hp q hq
  · rcases List.mem_cons.mp hp with rfl | hp
    · exact fresh q hq
    · exact l.a3 p hp q hq
theorem EvF.nilList {pos : Pos} : EvF W lvl env V (.List [] pos) (.list []) := by
  intro A fe h₀ L m ext mu im s Q E M l H kk
  refine List_ (spliced_nil (wpAny_newObj_type (kk _ _ _ s.toks im (l.own (fun _ _ e => Heap.get?_push_of_some _ e) (Nat.le_refl _) (Heap.get?_push_size _ rfl)) sub_refl ⟨_, [], 0, rfl, .head _, .nil⟩) ?_))
  show (0 : Nat) ≤ sizeLine
  exact Nat.zero_le _
theorem emptyDict : DictObj W.prog W.w { cls := .type "dict", data := .dict #[] } [] :=
  ⟨[], ⟨#[], 0, ⟨rfl, rfl, rfl⟩, rfl, by intro e he; simp at he, .nil, List.nodup_nil⟩, .nil⟩
theorem EvF.nilDict {pos : Pos} : EvF W lvl env V (.Dict [] [] pos) (.dict []) := by
  intro A fe h₀ L m ext mu im s Q E M l H kk
  exact wpAny_Dict_empty (kk _ _ _ s.toks im (l.own (fun _ _ e => Heap.get?_push_of_some _ e) (Nat.le_refl _) (Heap.get?_push_size _ rfl)) sub_refl ⟨_, _, rfl, .head _, emptyDict⟩)
theorem Ev.nilDict {pos : Pos} : Ev W b lvl env V (.Dict [] [] pos) (.dict []) := by
  intro A fe h₀ L m ext mu im s Q E M l H kk
  exact wpAny_Dict_empty (kk _ _ s.toks _ (l.push _) sub_cons (.dict (vis_im _ (.head _)) emptyDict))
open Builtin.Str in
theorem split_exact {prog : Program} {w : World} {A : Around} {E : Value → Shared → Prop} {s : Shared} {x y : PySem.Str} {t u : Tok} {Q : Value → Shared → Prop} (hy : (y.length == 0) = false)
    (hq : ∀ l k, l.map (·.1) = Txt.split x y → Q (.ref s.heap.objs.size) { s with heap := s.heap.push { cls := .type "list", data := .seq (strValues l).toArray }, toks := k })
    (hsz : x.length ≤ sizeLine) (hsz2 : (partsBetween x (occurrences x y 0 x.length (x.length + 1)) y.length).length ≤ sizeLine) : wpAny (model prog w) A (call (.builtin "str.split") [.str x t, .str y u]) Q E s := by
  have cm := fun {S : PySem.Spec} (m : Meets (Builtin.«str.split» ⟨[.str x t, .str y u], []⟩) S) h => call_meets (prog := prog) (w := w) (A := A) (E := E) (Q := Q) (s := s) F.slot_str_split (typeIs_str s x t) F.entry_str_split (F.args_str_split_2 _ _) m h
  cases h1 : (decide (x.length < y.length) || decide (strKind x < strKind y))
  · cases hf : (occurrences x y 0 x.length (x.length + 1)).isEmpty
    · refine cm (meets_str_split_sep x y t u h1 hy hf hsz hsz2) ?_
      show wants Q E _ { s with toks := _, heap := s.heap.push { cls := .type "list", data := .seq (strsFrom s.toks (partsBetween x (occurrences x y 0 x.length (x.length + 1)) y.length)).toArray } }
      rw [strsFrom_eq]
      exact hq (numbered s.toks _) _ ((numbered_texts _ _).trans ((if_neg (ne_true_of_eq_false h1)).trans (if_neg (ne_true_of_eq_false hf))).symm)
    · exact cm (meets_str_split_not_found x y t u h1 hy hf) (hq [(x, t)] s.toks ((if_neg (ne_true_of_eq_false h1)).trans (if_pos hf)).symm)
  · exact cm (meets_str_split_cannot_occur x y t u h1) (hq [(x, t)] s.toks (if_pos h1).symm)
theorem strs_all {prog : Program} {w : World} {im : Led} : ∀ (l : List (PySem.Str × Tok)), DAll prog w im (strValues l) ((l.map (·.1)).map D.str)
  | [] => .nil
  | (x, t) :: l => .cons (.str x t) (strs_all l)
theorem EvF.splitB {x : PySem.Str} {sep : PySem.Str} {np apos pos cp : Pos} {kd : Nat} {y : PySem.Str} {ys : List PySem.Str} (he : EnvOk env) (hx : V.s.lookup x = some (.str y)) (hsep : (sep.length == 0) = false) (hys : Txt.split y sep = ys) (hsz : y.length ≤ sizeLine) (hsz2 : (Builtin.Str.partsBetween y (Builtin.Str.occurrences y sep 0 y.length (y.length + 1)) sep.length).length ≤ sizeLine)
    (hline : (apos.endLine == pos.line) = true) (hd : (x == ("__debug__" : PySem.Str)) = false := by decide) : EvF W lvl env V (.Call (.Attribute (.Name x np) "split" apos) [.Constant (.str sep) kd cp] [] pos) (.list (ys.map D.str)) := by
  intro A fe h₀ L m ext mu im s Q E M l H kk
  obtain ⟨v, hv, hdv⟩ := H.s x _ hx
  cases hdv with
  | str _ t =>
  refine wpAny_Call_method1_late (by rfl) hline (by rfl) (wpAny_Name (hv.load he.k l ?_) hd)
  refine ⟨"str", "str.split", F.plainAttrs_str, F.slot_str_split, F.type_str_split, typeIs_str _ _ _, (fun _ e => nomatch e), ?_⟩
  refine PySem.Calls.callWith_builtin rfl (evalArgs_plain (spliced_cons (wpAny_Constant_str (spliced_nil ?_))))
  refine split_exact hsep (fun ll k hl => ?_) hsz hsz2
  refine kk _ _ _ k im (l.own (fun _ _ e => Heap.get?_push_of_some _ e) (Nat.le_refl _) (Heap.get?_push_size _ rfl)) sub_refl ⟨_, strValues ll, 0, rfl, .head _, ?_⟩
  rw [← hys, ← hl]
  exact strs_all ll
theorem Ex.asgF {x : PySem.Str} {xp pos : Pos} {e : PySem.Expr} {d : D} (he : EnvOk env) (hx : env.kindOf x = some .local) (h : EvF W lvl env V e d) (hu : V.u = none) (hnew : V.s.lookup x = none) (hq : Q (.next { V with u := some (x, d) }))
    (hs : swapsWith e (some (.Name x xp)) pos.line env = pure false := by rfl) : Ex W lvl env V (exec (.Assign [.Name x xp] e pos) env) Q := by
  intro A fe h₀ m ext mu im s R E M l H kk
  refine wpAny_Assign_Name (h A fe h₀ _ m ext mu im s _ E M l H fun a o h₁ t₁ im₁ l₁ s₁ ho => ?_) hs
  refine wpAny_storeName_local hx l₁.F.ns (fun h' hn hs' => ?_) (by rw [he.k]; rfl)
  refine kk _ _ _ hq ⟨h', _, _, (a, o) :: mu, im₁, rfl, l₁.set hn hs', s₁, fun y e hy => ?_, fun y e hy => ?_⟩
  · obtain ⟨u, hu', hd⟩ := H.s y e hy
    have hne : y ≠ x := fun q => by rw [q, hnew] at hy; cases hy
    refine ⟨u, ?_, hd.mono s₁⟩
    cases hu' with
    | loc a' b' c' => exact .loc a' b' (by rw [if_neg hne]; exact c')
    | comp a' b' c' d' => exact .comp (.tail _ a') b' c' d'
    | cell a' b' c' d' => exact .cell a' b' (.tail _ c') d'
  · cases hy
    refine ⟨.ref a, .loc rfl hx (if_pos rfl), ?_⟩
    cases d with
    | list ds => obtain ⟨a', vs, n, e1, hm, hd⟩ := ho; exact ⟨a', vs, n, e1, by simp at hm; simp [hm], hd⟩
    | dict kvs => obtain ⟨a', o', e1, hm, hd⟩ := ho; exact ⟨a', o', e1, by simp at hm; simp [hm], hd⟩
    | _ => exact ho.elim
end
end Mine

namespace Mine
open PySem PySem.W PyProof.Rows PySem.Spec PySem.Calls PyProof.Rows.LCg

section
variable {Pc : PySem.Ctx → Prop} {W : Wd} {b : Bool} {lvl : Nat} {env : Env} {V : Vs} {Q : Out → Prop}

theorem Ev.dict1 {x y : PySem.Str} {xp yp pos : Pos} {k : PySem.Str} {n : Int} (he : EnvOk env) (hx : V.s.lookup x = some (.str k)) (hy : V.s.lookup y = some (.int n)) (hd : (x == ("__debug__" : PySem.Str)) = false := by decide) (hd' : (y == ("__debug__" : PySem.Str)) = false := by decide) :
    Ev W b lvl env V (.Dict [some (.Name x xp)] [.Name y yp] pos) (.dict [(k, n)]) := by
  intro A fe h₀ L m ext mu im s Q E M l H kk
  obtain ⟨u, hu, hud⟩ := H.s x _ hx
  obtain ⟨v, hv, hvd⟩ := H.s y _ hy
  cases hud with
  | str _ t =>
  cases hvd with
  | int _ t' =>
  have l₁ : Lay h₀ L (s.heap.push { cls := .type "dict", data := .dict #[] }) m ext mu im := l.keeps fun _ _ e => Heap.get?_push_of_some _ e
  refine wpAny_Dict_walk (knd := strKind W.prog W.w) rfl rfl (by simp) (by simp) ?_
  show wpAny _ _ (do let kv ← eval (.Name x xp) env; let vv ← holding [kv] (do let z ← eval (.Name y yp) env; standAt pos; pure z); return (kv, vv) :: (← holding [kv, vv] (evalPairs []))) _ _ _
  refine wpAny_bind (wpAny_Name (hu.load he.k l₁ (wpAny_bind (wpAny_holding (wpAny_bind (wpAny_Name (hv.load he.k l₁ (wpAny_bind (wpAny_standAt (wpAny_pure ?_)))) hd'))))) hd)
  refine wpAny_bind (wpAny_holding (wpAny_pure (wpAny_pure ?_)))
  have hnew : (s.heap.push { cls := .type "dict", data := .dict #[] }).get? s.heap.objs.size = some { cls := .type "dict", data := .dict #[] } := Heap.get?_push_size _ rfl
  obtain ⟨vk, e0, _⟩ := emptyDict (W := W)
  refine ⟨[(k, .int n t')], ⟨strKind_is _ _ k t, rfl, trivial⟩, Heap.dictOf_iff.mpr ⟨_, hnew, ⟨#[], 0, ⟨rfl, rfl, rfl⟩, rfl, by intro e he; simp at he, .nil, List.nodup_nil⟩⟩, fun h' hd' hs => ?_⟩
  obtain ⟨o', ho', hd''⟩ := Heap.dictOf_iff.mp hd'
  have l₂ := l.join (h' := h') (fun b o e => (hs.2 b (Nat.ne_of_lt (Heap.lt_size e))).trans (Heap.get?_push_of_some _ e)) (Nat.le_refl _) ho'
  exact kk _ h' _ _ l₂ sub_cons (.dict (vis_im _ (.head _)) ⟨_, hd'', .cons t' .nil⟩)

/-! views of a dict -/
theorem call_items {x : PySem.Str} {xp apos pos : Pos} {kvs : List (PySem.Str × Int)} (he : EnvOk env) (hx : V.s.lookup x = some (.dict kvs)) (hline : (apos.endLine == pos.line) = true) (hd : (x == ("__debug__" : PySem.Str)) = false) :
    ∀ (A : Around) (fe : Env) (h₀ : Heap) (L : Addr) (m : PySem.Str → Option Value) (ext mu im : Led) (s : Shared) (Q : Value → Shared → Prop) (E : Value → Shared → Prop), Mach W A fe h₀ L lvl → Lay h₀ L s.heap m ext mu im → Holds W.prog W.w env L m mu im V →
    (∀ d o vk, (d, o) ∈ im → o.IsDictOf (strKind W.prog W.w) vk → IntVals vk kvs → Q (.ref s.heap.objs.size) { s with heap := s.heap.push { cls := .type "dict_items", data := .fields #[.ref d] } }) →
    wpAny (model W.prog W.w) A (eval (.Call (.Attribute (.Name x xp) "items" apos) [] [] pos) env) Q E s := by
  intro A fe h₀ L m ext mu im s Q E M l H kk
  obtain ⟨u, hu, hud⟩ := H.s x _ hx
  cases hud with
  | @dict d o _ hm r =>
  obtain ⟨vk, hdo, hi⟩ := r
  exact wpAny_Call_items (knd := strKind W.prog W.w) (not_sm M l.nIm hm) (Heap.dictOf_iff.mpr ⟨o, (l.nIm _ hm).1, hdo⟩) (by rfl) hline (fun Q' hq => wpAny_Name (hu.load he.k l hq) hd) (kk d o vk hm hdo hi)
theorem call_values {x : PySem.Str} {xp apos pos : Pos} {kvs : List (PySem.Str × Int)} (he : EnvOk env) (hx : V.s.lookup x = some (.dict kvs)) (hline : (apos.endLine == pos.line) = true) (hd : (x == ("__debug__" : PySem.Str)) = false) :
    ∀ (A : Around) (fe : Env) (h₀ : Heap) (L : Addr) (m : PySem.Str → Option Value) (ext mu im : Led) (s : Shared) (Q : Value → Shared → Prop) (E : Value → Shared → Prop), Mach W A fe h₀ L lvl → Lay h₀ L s.heap m ext mu im → Holds W.prog W.w env L m mu im V →
    (∀ d o vk, (d, o) ∈ im → o.IsDictOf (strKind W.prog W.w) vk → IntVals vk kvs → Q (.ref s.heap.objs.size) { s with heap := s.heap.push { cls := .type "dict_values", data := .fields #[.ref d] } }) →
    wpAny (model W.prog W.w) A (eval (.Call (.Attribute (.Name x xp) "values" apos) [] [] pos) env) Q E s := by
  intro A fe h₀ L m ext mu im s Q E M l H kk
  obtain ⟨u, hu, hud⟩ := H.s x _ hx
  cases hud with
  | @dict d o _ hm r =>
  obtain ⟨vk, hdo, hi⟩ := r
  have hD : s.heap.DictOf (strKind W.prog W.w) d vk := Heap.dictOf_iff.mpr ⟨o, (l.nIm _ hm).1, hdo⟩
  refine wpAny_Call_method (T := "dict") (id := "dict.values") (by rfl) rfl hline F.plainAttrs_dict F.slot_dict_values F.type_dict_values (wpAny_Name (hu.load he.k l ⟨hD.typeIs, hD.mapOf.noDict, ?_⟩) hd)
  show wpAny _ _ (callWith pos (.builtin "dict.values") [.ref d] [] []) Q E s
  exact method_meetsIn F.slot_dict_values F.entry_dict_values rfl (PySem.evalArgs_none ⟨rfl, hD.typeIs, F.args_dict_values_1 _, _, meets_dict_values (strKind W.prog W.w) d (not_sm M l.nIm hm), ⟨vk, hD⟩, kk d o vk hm hdo hi⟩)

theorem dict_at {prog : Program} {w : World} {o : Obj} {vk : List (PySem.Str × Value)} (h : o.IsDictOf (strKind prog w) vk) : ∃ ep, ∀ (g : Heap) (d : Addr), g.get? d = some o → g.DictAt (strKind prog w) d vk ep := by
  obtain ⟨es, ep, r⟩ := h
  exact ⟨ep, fun g d e => ⟨o, es, e, r⟩⟩

theorem ExP.forItems (C : Clo Pc) {x k v : PySem.Str} {xp kp vp tp apos cpos pos : Pos} {kd : Nat} {body : List Stmt} {kvs : List (PySem.Str × Int)} (he : EnvOk env) (hk : env.kindOf k = some .local) (hv : env.kindOf v = some .local) (hx : V.s.lookup x = some (.dict kvs)) (hline : (apos.endLine == cpos.line) = true)
    (Inv : Nat → Vs → Prop) (start : Inv 0 V) (hu : ∀ i V₁ y e, Inv i V₁ → V₁.u = some (y, e) → y ≠ k ∧ y ≠ v)
    (turn : ∀ i key n V₁, kvs[i]? = some (key, n) → Inv i V₁ → ExP Pc W lvl env { V₁ with s := (v, .int n) :: (k, .str key) :: V₁.s } (execs body env) (nextIs (Inv (i + 1))))
    (hq : ∀ V', Inv kvs.length V' → Q (.next V')) (hd : (x == ("__debug__" : PySem.Str)) = false := by decide) :
    ExP Pc W lvl env V (exec (.For (.Tuple [.Name k kp, .Name v vp] kd tp) (.Call (.Attribute (.Name x xp) "items" apos) [] [] cpos) body [] pos) env) Q := by
  intro A fe h₀ m ext mu im s R E M l H kk
  refine wpP_For C (call_items he hx hline hd A fe h₀ _ m ext mu im s _ E M l H fun d o vk hm hdo hi => ?_) (by intro _; rfl)
  obtain ⟨ep, hat⟩ := dict_at hdo
  generalize hg1 : s.heap.push { cls := .type "dict_items", data := .fields #[.ref d] } = h₁
  have l₁ : Lay h₀ env.locals h₁ m ext mu im := hg1 ▸ l.keeps fun _ _ e => Heap.get?_push_of_some _ e
  have hdat : h₁.DictAt (strKind W.prog W.w) d vk ep := hat _ _ (l₁.nIm _ hm).1
  refine wpAny_pyIter_items (knd := strKind W.prog W.w) ⟨_, hg1 ▸ Heap.get?_push_size _ rfl, rfl, rfl⟩ hdat ?_
  obtain ⟨n1, n2, n3⟩ := next_new l₁
  have hlt : d < h₁.objs.size := Heap.lt_size (l₁.nIm _ hm).1
  have K := kti_itemsTurns (prog := W.prog) (w := W.w) (A := A) (knd := strKind W.prog W.w) (elts := [.Name k kp, .Name v vp]) (kk := kd) (pos := tp) M.hh h₁.objs.size d (Nat.ne_of_lt hlt) vk ep
  rw [hi.length] at K
  rw [hi.length]
  have l₂ : Lay h₀ env.locals (h₁.push { cls := .type "dict_itemiterator", data := .fields #[.none, .bool false, .ref d, .int 0 0, .int kvs.length 0, .int ep 0, .none, .none] }) m ext mu im := l₁.keeps fun _ _ e => Heap.get?_push_of_some _ e
  refine loop_core C K M l₂ H ⟨⟨.none, .none, Heap.get?_push_size _ rfl⟩, hdat.push _⟩ n1 n2 n3 (fun i h st => by obtain ⟨⟨ok, ov, e⟩, _⟩ := st; exact ⟨_, e⟩) (fun b hb => ?_) Inv start (fun i u h₂ t₂ m₂ mu₂ im₂ oI V₂ hi' hJ hP hs₂ l₂ H₂ => ?_) fun h' tk' m' mu' im' V' l' hs' H' hJ => ?_
  · rcases List.mem_cons.mp hb with rfl | hb
    · exact .inl rfl
    · rw [List.mem_singleton.mp hb]; exact .inr (.inl ⟨_, hm⟩)
  · obtain ⟨T, key, ky, x', rfl, hx', hkey, hT⟩ := hP
    obtain ⟨n, t, rfl, hn⟩ := hi.get hx'
    obtain ⟨t', rfl⟩ := Value.isStrOf_shape hkey
    refine ⟨_, turn i ky n V₂ hn hJ, fun R E k' => ?_⟩
    have := unpackT (W := W) (A := A) (E := E) (R := R) (xs := [(k, kp), (v, vp)]) (kd := kd) (tp := tp) (items := [.str ky t', .int n t]) (ds := [.str ky, .int n]) (s := { s with heap := h₂, toks := t₂ }) he M.hh l₂ H₂ hT (.cons (.str _ _) (.cons (.int _ _) .nil))
      (by intro p hp; simp at hp; rcases hp with rfl | rfl; exact hk; exact hv) (by intro p hp y e hy; simp at hp; rcases hp with rfl | rfl; exact (hu i V₂ y e hJ hy).1; exact (hu i V₂ y e hJ hy).2) rfl k'
    exact this
  · exact kk _ _ _ (hq V' hJ) ⟨h', tk', m', mu', im', rfl, l', hs', H'⟩
theorem ExP.forValues (C : Clo Pc) {x v : PySem.Str} {xp vp apos cpos pos : Pos} {body : List Stmt} {kvs : List (PySem.Str × Int)} (he : EnvOk env) (hv : env.kindOf v = some .local) (hx : V.s.lookup x = some (.dict kvs)) (hline : (apos.endLine == cpos.line) = true)
    (Inv : Nat → Vs → Prop) (start : Inv 0 V) (hu : ∀ i V₁ y e, Inv i V₁ → V₁.u = some (y, e) → y ≠ v)
    (turn : ∀ i key n V₁, kvs[i]? = some (key, n) → Inv i V₁ → ExP Pc W lvl env { V₁ with s := (v, .int n) :: V₁.s } (execs body env) (nextIs (Inv (i + 1))))
    (hq : ∀ V', Inv kvs.length V' → Q (.next V')) (hd : (x == ("__debug__" : PySem.Str)) = false := by decide) :
    ExP Pc W lvl env V (exec (.For (.Name v vp) (.Call (.Attribute (.Name x xp) "values" apos) [] [] cpos) body [] pos) env) Q := by
  intro A fe h₀ m ext mu im s R E M l H kk
  refine wpP_For C (call_values he hx hline hd A fe h₀ _ m ext mu im s _ E M l H fun d o vk hm hdo hi => ?_) (by intro _; rfl)
  obtain ⟨ep, hat⟩ := dict_at hdo
  generalize hg1 : s.heap.push { cls := .type "dict_values", data := .fields #[.ref d] } = h₁
  have l₁ : Lay h₀ env.locals h₁ m ext mu im := hg1 ▸ l.keeps fun _ _ e => Heap.get?_push_of_some _ e
  have hdat : h₁.DictAt (strKind W.prog W.w) d vk ep := hat _ _ (l₁.nIm _ hm).1
  refine wpAny_pyIter_values (knd := strKind W.prog W.w) ⟨_, hg1 ▸ Heap.get?_push_size _ rfl, rfl, rfl⟩ hdat ?_
  obtain ⟨n1, n2, n3⟩ := next_new l₁
  have hlt : d < h₁.objs.size := Heap.lt_size (l₁.nIm _ hm).1
  have K := KTurns.ofWalks (target := .Name v vp) (Walks.dictValues (prog := W.prog) (w := W.w) (A := A) (knd := strKind W.prog W.w) M.hh h₁.objs.size d (Nat.ne_of_lt hlt) vk ep) fun i u s Q E st q => letGo_valiter st.1 q
  rw [hi.length] at K
  rw [hi.length]
  have l₂ : Lay h₀ env.locals (h₁.push { cls := .type "dict_valueiterator", data := .fields #[.ref d, .int 0 0, .int kvs.length 0, .int ep 0] }) m ext mu im := l₁.keeps fun _ _ e => Heap.get?_push_of_some _ e
  refine loop_core C K M l₂ H ⟨⟨_, Heap.get?_push_size _ rfl, rfl, rfl⟩, hdat.push _⟩ n1 n2 n3 (fun i h st => by obtain ⟨o, e, _⟩ := st.1; exact ⟨_, e⟩) (fun b hb => ?_) Inv start (fun i u h₂ t₂ m₂ mu₂ im₂ oI V₂ hi' hJ hP hs₂ l₂ H₂ => ?_) fun h' tk' m' mu' im' V' l' hs' H' hJ => ?_
  · rcases List.mem_cons.mp hb with rfl | hb
    · exact .inl rfl
    · rw [List.mem_singleton.mp hb]; exact .inr (.inl ⟨_, hm⟩)
  · obtain ⟨ky, hx'⟩ := hP
    obtain ⟨n, t, rfl, hn⟩ := hi.get hx'
    exact ⟨_, turn i ky n V₂ hn hJ, fun R E k' => wpAny_assign_Name (storeL he l₂ H₂ hv (.int _ _) (fun y e hy => hu i V₂ y e hJ hy) k')⟩
  · exact kk _ _ _ (hq V' hJ) ⟨h', tk', m', mu', im', rfl, l', hs', H'⟩

/-- many new objects join the data -/
theorem Lay.joins {h₀ h h' : Heap} {L : Addr} {m : PySem.Str → Option Value} {ext mu im : Led} (l : Lay h₀ L h m ext mu im) (hk : ∀ b o, h.get? b = some o → h'.get? b = some o) : ∀ (new : Led), (∀ p ∈ new, h.objs.size ≤ p.1 ∧ h'.get? p.1 = some p.2) → Lay h₀ L h' m ext mu (new ++ im)
  | [], _ => l.keeps hk
  | p :: new, hp => by
    have ih := l.joins hk new fun q hq => hp q (.tail _ hq)
    have p0 := hp p (.head _)
    have lp := l.join hk p0.1 p0.2
    refine ⟨ih.F, fun q hq => ?_, ih.a1, fun q hq r hr => ?_, fun q hq r hr => ?_⟩
    · rcases List.mem_append.mp hq with hq | hq
      · exact ih.nExt q hq
      · rcases List.mem_append.mp hq with hq | hq
        · exact ih.nMu q hq
        · rcases List.mem_cons.mp hq with rfl | hq
          · exact lp.nIm _ (.head _)
          · exact ih.nIm q hq
    · rcases List.mem_cons.mp hr with rfl | hr
      · exact lp.a2 q hq _ (.head _)
      · exact ih.a2 q hq r hr
    · rcases List.mem_cons.mp hr with rfl | hr
      · exact lp.a3 q hq _ (.head _)
      · exact ih.a3 q hq r hr
theorem pairs_all {prog : Program} {w : World} {im : Led} {h : Heap} {vk : List (PySem.Str × Value)} {kvs : List (PySem.Str × Int)} (hi : IntVals vk kvs) : ∀ (as : List Addr) (j : Nat), as.length + j = kvs.length →
    (∀ (i : Nat) (a : Addr), as[i]? = some a → ∃ key k x, vk[i + j]? = some (k, x) ∧ (strKind prog w).is k key = true ∧ h.get? a = some { cls := .type "tuple", data := .seq #[key, x] }) →
    ∃ new : Led, (∀ p ∈ new, p.1 ∈ as ∧ h.get? p.1 = some p.2) ∧ DAll prog w (new ++ im) (as.map Value.ref) ((kvs.drop j).map fun kv => D.tuple [.str kv.1, .int kv.2])
  | [], j, hl, _ => ⟨[], fun p hp => (nomatch hp), by
      have : kvs.drop j = [] := List.drop_eq_nil_of_le (by simp at hl; omega)
      rw [this]; exact .nil⟩
  | a :: as, j, hl, hp => by
    obtain ⟨key, k, x, hx, hkey, ho⟩ := hp 0 a rfl
    rw [Nat.zero_add] at hx
    obtain ⟨n, t, rfl, hn⟩ := hi.get hx
    obtain ⟨t', rfl⟩ := Value.isStrOf_shape hkey
    obtain ⟨new, h1, h2⟩ := pairs_all (im := im) hi as (j + 1) (by simp at hl; omega) fun i a' ha' => by
      have := hp (i + 1) a' (by simpa using ha')
      rw [show i + 1 + j = i + (j + 1) by omega] at this
      exact this
    refine ⟨(a, tupObj [.str k t', .int n t] 0) :: new, fun p hp => ?_, ?_⟩
    · rcases List.mem_cons.mp hp with rfl | hp
      · exact ⟨.head _, ho⟩
      · exact ⟨.tail _ (h1 p hp).1, (h1 p hp).2⟩
    · have hlt : j < kvs.length := by simp at hl; omega
      have e : kvs.drop j = (k, n) :: kvs.drop (j + 1) := by
        rw [List.drop_eq_getElem_cons hlt]
        rw [List.getElem?_eq_getElem hlt] at hn
        rw [Option.some.inj hn]
      rw [e, List.map_cons, List.map_cons]
      exact .cons (.tuple (.head _) (.cons (.str _ _) (.cons (.int _ _) .nil))) (h2.mono fun p hp => .tail _ hp)
theorem Ev.listItems {x : PySem.Str} {xp apos cpos np pos : Pos} {kvs : List (PySem.Str × Int)} (he : EnvOk env) (hg : nsIn W.K mainGlobals "list" = some none) (hx : V.s.lookup x = some (.dict kvs)) (hline : (apos.endLine == cpos.line) = true) (hsz : kvs.length ≤ sizeLine) (hgl : env.kindOf "list" = some .globalImplicit)
    (hd : (x == ("__debug__" : PySem.Str)) = false := by decide) : Ev W b lvl env V (.Call (.Name "list" np) [.Call (.Attribute (.Name x xp) "items" apos) [] [] cpos] [] pos) (.list (kvs.map fun kv => D.tuple [.str kv.1, .int kv.2])) := by
  intro A fe h₀ L m ext mu im s Q E M l H kk
  refine wpAny_Call_NameR (nameB (v := .type "list") M l.F he hg (by decide +kernel) (by decide) hgl (by decide) ?_)
  refine PyProof.Rows.callWith_type1 (spliced_cons (call_items he hx hline hd A fe h₀ _ m ext mu im s _ E M l H fun d o vk hm hdo hi => spliced_nil ?_)) rfl rfl
  obtain ⟨ep, hat⟩ := dict_at hdo
  generalize hg1 : s.heap.push { cls := .type "dict_items", data := .fields #[.ref d] } = h₁
  have l₁ : Lay h₀ L h₁ m ext mu im := hg1 ▸ l.keeps fun _ _ e => Heap.get?_push_of_some _ e
  have hdat : h₁.DictAt (strKind W.prog W.w) d vk ep := hat _ _ (l₁.nIm _ hm).1
  refine kdx_call (knd := strKind W.prog W.w) M.hh ⟨_, hg1 ▸ Heap.get?_push_size _ rfl, rfl, rfl⟩ hdat (by rw [hi.length]; exact hsz) fun h' tk acc c as hk hS hl hG hacc => ?_
  obtain ⟨new, hn1, hn2⟩ := pairs_all (prog := W.prog) (w := W.w) (im := im) (h := h') hi as 0 (by rw [Nat.add_zero, hl, hi.length]) fun i a ha => by
    obtain ⟨key, k, x, q1, q2, q3⟩ := hG.pairs i a ha
    exact ⟨key, k, x, by rw [Nat.add_zero]; exact q1, q2, q3⟩
  rw [List.drop_zero] at hn2
  have l₂ := l₁.joins hk ((h₁.objs.size, { cls := .type "list", data := .seq acc c }) :: new) fun p hp => by
    rcases List.mem_cons.mp hp with rfl | hp
    · exact ⟨Nat.le_refl _, hS⟩
    · exact ⟨Nat.le_of_lt (hG.above _ (hn1 p hp).1), (hn1 p hp).2⟩
  have ea : acc = (as.map Value.ref).toArray := by rw [← hacc]
  subst ea
  exact kk _ h' tk _ l₂ (fun p hp => .tail _ (List.mem_append.mpr (.inr hp))) (.list (n := c) (vis_im _ (.head _)) (hn2.mono fun p hp => vis_im p (.tail _ hp)))

theorem Ex.setItem {x : PySem.Str} {np sp pos : Pos} {i e : PySem.Expr} {ds : List D} {k : Int} {d : D} (he : EnvOk env) (hu : V.u = some (x, .list ds)) (h : Ev W true lvl env V e d) (hi : Ev W true lvl env V i (.int k)) (h0 : 0 ≤ k) (hk : k < ds.length) (hf : k < 2 ^ 63) (hq : Q (.next { V with u := some (x, .list (ds.set k.toNat d)) }))
    (hd : (x == ("__debug__" : PySem.Str)) = false := by decide) (hs : swapsWith e (some (.Subscript (.Name x np) i sp)) pos.line env = pure false := by rfl) : Ex W lvl env V (exec (.Assign [.Subscript (.Name x np) i sp] e pos) env) Q := by
  intro A fe h₀ m ext mu im s R E M l H kk
  refine wpAny_Assign_Subscript (h A fe h₀ _ m ext mu im s _ E M l H fun v h₁ t₁ im₁ l₁ s₁ hd₁ => ?_) hs
  obtain ⟨u, hv, a, vs, n, rfl, hm, hds⟩ := (H.mono s₁).u x _ hu
  refine wpAny_Name (hv.load he.k l₁ (hi A fe h₀ _ m ext mu im₁ _ _ E M l₁ (H.mono s₁) fun u h₂ t₂ im₂ l₂ s₂ hd₂ => ?_)) hd
  cases hd₂ with
  | int _ t =>
  have hlen : vs.length = ds.length := hds.length
  refine ki_setAt (n := n) (l₂.nMu _ hm).1 h0 hf (by rw [List.size_toArray, hlen]; exact hk) ?_
  have hL : env.locals ≠ a := fun q => (l.nMu _ hm).2.1 q.symm
  have ho := PySem.IsL.update (l₂.nMu _ hm).1 (·.setIfInBounds k.toNat v)
  have e1 : vs.toArray.setIfInBounds k.toNat v = (vs.set k.toNat v).toArray := by apply Array.toList_inj.mp; simp
  rw [e1] at ho
  have e2 : (if (vs.set k.toNat v).toArray.size == vs.toArray.size then n else n + 1) = n := by simp
  rw [e2] at ho
  refine kk _ _ _ hq ⟨_, t₂, m, Mine.upd a (lstObj (vs.set k.toNat v) n) mu, im₂, rfl, l₂.upd hm (Heap.SameBut.update ..) ho, sub_trans s₁ s₂, ?_⟩
  exact Holds.upd l₂ (H.mono (sub_trans s₁ s₂)) hu hv hm (by intro v q; cases q) hL ⟨a, _, n, rfl, mem_upd hm, (hds.mono s₂).set (hd₁.mono s₂)⟩
theorem Ex.augName {x : PySem.Str} {xp pos : Pos} {e : PySem.Expr} {i j : Int} (he : EnvOk env) (hx : env.kindOf x = some .local) (hv : V.s.lookup x = some (.int i)) (h : Ev W true lvl env V e (.int j)) (hu : ∀ y e, V.u = some (y, e) → y ≠ x) (hq : Q (.next { V with s := (x, .int (i + j)) :: V.s })) :
    Ex W lvl env V (exec (.AugAssign (.Name x xp) .Add e pos) env) Q := by
  intro A fe h₀ m ext mu im s R E M l H kk
  obtain ⟨u, hv', hd⟩ := H.s x _ hv
  cases hd
  refine wpAny_AugAssign_Name (hv'.load he.k l (h A fe h₀ _ m ext mu im s _ E M l H fun v h₁ t₁ im₁ l₁ s₁ hd₁ => ?_))
  cases hd₁
  exact wpAny_iadd_int (storeL he (s := { s with heap := h₁, toks := t₁ + 1 }) l₁ (H.mono s₁) hx (.int _ _) hu fun h' tk' m' l' H' => kk _ _ _ hq ⟨h', tk', m', mu, im₁, rfl, l', s₁, H'⟩)
end
end Mine

namespace Mine
open PySem PySem.W PyProof.Rows PySem.Spec PySem.Calls PyProof.Rows.LCg

theorem codeAny_comp {prog : Program} {w : World} {A : Around} {s : Shared} {R : Result → Shared → Prop} {elt target iter : PySem.Expr} {ifs : List PySem.Expr} {scope : Scope} {pos : Pos} {it acc : Value} {env : Env} (I : Nat → Shared → Prop)
    (turn : ∀ n s, I n s → wpAny (model prog w) A (pyNext it) (fun r s₁ => match r with
      | none => R (.ok .next) s₁
      | some v => wpAny (model prog w) A (letOwnedTupleGo target it v) (fun _ s₁' => wpAny (model prog w) A (assign target env v) (fun _ s₂ =>
          wpAny (model prog w) A (forIn ifs true fun c r => if r = true then do let ok ← isTrue c env (eval c env); pure (ForInStep.yield ok) else pure (ForInStep.yield r)) (fun ok s₃ =>
            if ok = true then wpAny (model prog w) A (eval elt env) (fun x s₄ =>
              wpAny (model prog w) A (call (.builtin "list.append") [acc, x]) (fun _ s₅ => ∃ m, m < n ∧ I m s₅) (notedBy (model prog w) A env fun e s' => R (.error e) s') s₄) (notedBy (model prog w) A env fun e s' => R (.error e) s') s₃
            else ∃ m, m < n ∧ I m s₃) (notedBy (model prog w) A env fun e s' => R (.error e) s') s₂) (notedBy (model prog w) A env fun e s' => R (.error e) s') s₁') (notedBy (model prog w) A env fun e s' => R (.error e) s') s₁) (notedBy (model prog w) A env fun e s' => R (.error e) s') s)
    (n : Nat) (h : I n s) : codeAny (model prog w) A (.compLoop (.ListComp elt [⟨target, iter, ifs, 0⟩] scope pos) 0 it acc env) R s := by
  refine codeAny_loop rfl I (fun n s hI => ?_) n h
  show wpAny _ A ((compTurn (.ListComp elt [⟨target, iter, ifs, 0⟩] scope pos) 0 it acc env).onRaise (fun x => do noteFrame x env; theTreesLotGoes x)) _ _ s
  refine wpAny_noted ?_
  rw [compTurn_list]
  refine wpAny_bind (wpAny_standAt (wpAny_bind (wpAny_mono (turn n s hI) (fun r s₁ h₁ => ?_) fun _ _ h' => h')))
  cases r with
  | none => exact wpAny_pure h₁
  | some v =>
    refine wpAny_bind (wpAny_mono h₁ (fun _ s₁' h₁' => ?_) fun _ _ h' => h')
    refine wpAny_bind (wpAny_mono h₁' (fun _ s₂ h₂ => wpAny_bind (wpAny_mono h₂ (fun ok s₃ h₃ => ?_) fun _ _ h' => h')) fun _ _ h' => h')
    cases ok with
    | false => exact wpAny_pure ⟨rfl, h₃⟩
    | true =>
      exact wpAny_bind (wpAny_bind (wpAny_mono h₃ (fun x s₄ h₄ => wpAny_bind (wpAny_mono h₄ (fun _ s₅ h₅ => wpAny_pure (wpAny_pure ⟨rfl, h₅⟩)) fun _ _ h' => h')) fun _ _ h' => h'))

section
variable {Pc : PySem.Ctx → Prop} {W : Wd} {b : Bool} {lvl : Nat} {env : Env} {V : Vs} {Q : Out → Prop}

theorem upd_off {a : Addr} {o : Obj} : ∀ {mu : Led}, (∀ p ∈ mu, p.1 ≠ a) → (mu.map fun q => if q.1 = a then (a, o) else q) = mu
  | [], _ => rfl
  | p :: mu, h => by rw [List.map_cons, if_neg (h p (.head _)), upd_off fun q hq => h q (.tail _ hq)]
/-- a source of data, item by item -/
structure SrcAt (W : Wd) (A : Around) (h₀ : Heap) (L : Addr) (ext mu im : Led) (target : PySem.Expr) (ds : List D) (I : Addr) (fp : List Addr) (P : Nat → Value → Prop) (St : Nat → Heap → Prop) : Prop where
  walk : Walks W.prog W.w A I fp [I] ds.length P St
  new : ∀ p ∈ ext ++ (mu ++ im), p.1 ≠ I
  notL : I ≠ L
  none0 : h₀.get? I = none
  there : ∀ i h, St i h → ∃ o, h.get? I = some o
  kept : ∀ b ∈ fp, b = I ∨ ∃ o, (b, o) ∈ im
  item : ∀ i v, P i v → ∃ d, ds[i]? = some d ∧ DIn W.prog W.w im v d
  go : ∀ i v (s : Shared) (Q : Unit → Shared → Prop) (E : Value → Shared → Prop), P i v → St (i + 1) s.heap → Q () s → wpAny (model W.prog W.w) A (letOwnedTupleGo target (.ref I) v) Q E s

def Src (W : Wd) (lvl : Nat) (env : Env) (V : Vs) (target iter : PySem.Expr) (ds : List D) : Prop :=
  ∀ (A : Around) (fe : Env) (h₀ : Heap) (L : Addr) (m : PySem.Str → Option Value) (ext mu im : Led) (s : Shared) (Q : Value → Shared → Prop) (E : Value → Shared → Prop),
    Mach W A fe h₀ L lvl → Lay h₀ L s.heap m ext mu im → Holds W.prog W.w env L m mu im V →
    (∀ I fp P St h' tk' im', Lay h₀ L h' m ext mu im' → (∀ p ∈ im, p ∈ im') → SrcAt W A h₀ L ext mu im' target ds I fp P St → St 0 h' → Q (.ref I) { s with heap := h', toks := tk' }) →
    wpAny (model W.prog W.w) A (eval iter env) (fun x s₁ => wpAny (model W.prog W.w) A (pyIter x) Q E s₁) E s

theorem Src.list {target iter : PySem.Expr} {ds : List D} (h : Ev W true lvl env V iter (.list ds)) (ht : (∃ x p, target = .Name x p) ∨ ((∃ es k p, target = .Tuple es k p) ∧ ∀ d ∈ ds, ∃ es, d = .tuple es)) : Src W lvl env V target iter ds := by
  intro A fe h₀ L m ext mu im s Q E M l H kk
  refine h A fe h₀ L m ext mu im s _ E M l H fun xv h₁ t₁ im₁ l₁ s₁ hd => ?_
  cases hd with
  | @list ax vs n _ hm r =>
  have hl := DIn.isList l₁.nIm hm
  refine wpAny_pyIter_list hl ?_
  obtain ⟨n1, n2, n3⟩ := next_new l₁
  have hlt : ax < h₁.objs.size := Heap.lt_size (l₁.nIm _ hm).1
  have Wk := Walks.list (prog := W.prog) (w := W.w) (A := A) M.hh h₁.objs.size ax (Nat.ne_of_lt hlt) vs.toArray
  have hsz : vs.toArray.size = ds.length := by rw [List.size_toArray, r.length]
  rw [hsz] at Wk
  have it : ∀ (i : Nat) (v : Value), vs.toArray[i]? = some v → ∃ d, ds[i]? = some d ∧ DIn W.prog W.w im₁ v d := by
    intro i v hv
    have hv' : vs[i]? = some v := by simpa using hv
    have hi : i < ds.length := by
      rw [← r.length]
      rcases Nat.lt_or_ge i vs.length with h | h
      · exact h
      · rw [List.getElem?_eq_none h] at hv'; cases hv'
    obtain ⟨u, hu, hd⟩ := r.get (List.getElem?_eq_getElem hi)
    rw [hu] at hv'; cases hv'
    exact ⟨_, List.getElem?_eq_getElem hi, hd⟩
  refine kk _ _ _ _ _ t₁ im₁ (l₁.keeps fun _ _ e => Heap.get?_push_of_some _ e) s₁ ⟨Wk, n1, n2, n3, fun i h st => ?_, fun b hb => ?_, it, fun i v s Q E hP st hQ => ?_⟩ ⟨⟨_, Heap.get?_push_size _ rfl, rfl, rfl⟩, hl.push _⟩
  · obtain ⟨o, e, _⟩ := st.1; exact ⟨o, e⟩
  · rcases List.mem_cons.mp hb with rfl | hb
    · exact .inl rfl
    · rw [List.mem_singleton.mp hb]; exact .inr ⟨_, hm⟩
  · rcases ht with ⟨x, p, rfl⟩ | ⟨⟨es, k, p, rfl⟩, hds⟩
    · exact wpAny_pure hQ
    · obtain ⟨d, hd, hD⟩ := it i v hP
      obtain ⟨es', rfl⟩ := hds d (List.mem_of_getElem? hd)
      cases hD with
      | tuple _ _ => exact wpAny_letOwnedTupleGo_listiter st.1 hQ

/-- the frame of a comprehension -/
theorem comp_core {A : Around} {fe : Env} {h₀ : Heap} {L : Addr} {m : PySem.Str → Option Value} {ext mu im : Led} {s : Shared} {E : Value → Shared → Prop} {RR : Value → Addr → Result → Shared → Prop} {elt target iter : PySem.Expr} {ifs : List PySem.Expr} {scope : Scope} {cl : List (PySem.Str × Addr)} {pos : Pos} {ds : List D} {I : Addr} {fp : List Addr} {P : Nat → Value → Prop} {St : Nat → Heap → Prop}
    (M : Mach W A fe h₀ L lvl) (l : Lay h₀ L s.heap m ext mu im) (S : SrcAt W A h₀ L ext mu im target ds I fp P St) (hst : St 0 s.heap) (hsz : ds.length ≤ sizeLine) (hcell : ∀ y ∈ scope.names, y.2 ≠ .cell) (hkind : scope.kind = .function)
    (keep : D → Bool) (f : D → D) (Vd : D → Vs)
    (bind : ∀ (C : Addr) (i : Nat) (d : D), ds[i]? = some d → ∀ (oC : Obj) (m₂ : PySem.Str → Option Value) (ext' mu' im' : Led) (s' : Shared) (v : Value) (R : Unit → Shared → Prop) (E : Value → Shared → Prop), NsObj oC m₂ → (∀ p ∈ im, p ∈ im') → (∀ p ∈ mu, p ∈ mu') → (∀ p ∈ mu, p.1 ≠ C) → Lay h₀ L s'.heap m ext' ((C, oC) :: mu') im' → DIn W.prog W.w im' v d →
      (∀ h' tk' oC' m₃, NsObj oC' m₃ → (∀ c o, c ≠ C → s'.heap.get? c = some o → h'.get? c = some o) → h'.get? C = some oC' → Holds W.prog W.w (compEnvC scope cl C env) L m ((C, oC') :: mu') im' (Vd d) → R () { s' with heap := h', toks := tk' }) → wpAny (model W.prog W.w) A (assign target (compEnvC scope cl C env) v) R E s')
    (tests : ∀ (C : Addr) (i : Nat) (d : D), ds[i]? = some d → Tv W lvl (compEnvC scope cl C env) (Vd d) (forIn ifs true fun c r => if r = true then do let ok ← isTrue c (compEnvC scope cl C env) (eval c (compEnvC scope cl C env)); pure (ForInStep.yield ok) else pure (ForInStep.yield r)) (keep d))
    (elts : ∀ (C : Addr) (i : Nat) (d : D), ds[i]? = some d → keep d = true → Ev W true lvl (compEnvC scope cl C env) (Vd d) elt (f d))
    (hRR : ∀ D C h tk im' oC m' ys n, Lay h₀ L h m ext ((C, oC) :: (D, lstObj ys n) :: mu) im' → (∀ p ∈ im, p ∈ im') → NsObj oC m' → C ≠ D → (∀ p ∈ mu, p.1 ≠ C ∧ p.1 ≠ D) → DAll W.prog W.w im' ys ((ds.filter keep).map f) → RR (.ref D) C (.ok .next) { s with heap := h, toks := tk }) :
    wpAny (model W.prog W.w) A (newList []) (fun acc s₃ => wpAny (model W.prog W.w) A (newFunctionEnv scope env.globals cl [] env.qual none .none (some env)) (fun cenv s₄ =>
      codeAny (model W.prog W.w) A (.compStart (.ListComp elt [⟨target, iter, ifs, 0⟩] scope pos) 0 (.ref I) acc { cenv with scope := relabel scope env }) (RR acc cenv.locals) s₄) E s₃) E s := by
  refine wpAny_newObj_type (wpAny_newFunctionEnv hcell (by intro y hy; simp at hy) (fun h₁ hns₁ hsb₁ => ?_) hkind)
  dsimp only at hns₁ hsb₁ ⊢
  generalize hH2 : s.heap.push { cls := .type "list", dict := none, data := .seq ([] : List Value).toArray } = H2 at hns₁ hsb₁ ⊢
  have hC : H2.objs.size = s.heap.objs.size + 1 := by rw [← hH2, Heap.size_push]
  have hDC : s.heap.objs.size ≠ H2.objs.size := by rw [hC]; exact Nat.ne_of_lt (Nat.lt_succ_self _)
  have below : ∀ b, b < s.heap.objs.size → b ≠ H2.objs.size ∧ b ≠ s.heap.objs.size := fun b hb => ⟨by rw [hC]; exact Nat.ne_of_lt (Nat.lt_succ_of_lt hb), Nat.ne_of_lt hb⟩
  have old : ∀ b o, s.heap.get? b = some o → h₁.get? b = some o := fun b o e => hsb₁.extBut b o (below b (Heap.lt_size e)).1 (Heap.get?_push_of_some _ (hH2 ▸ Heap.get?_push_of_some _ e))
  have hacc : h₁.get? s.heap.objs.size = some (lstObj [] 0) := hsb₁.extBut _ _ hDC (Heap.get?_push_of_some _ (hH2 ▸ Heap.get?_push_size _ rfl))
  obtain ⟨oC, hoC, nsC⟩ := ns_obj hns₁
  have lD := l.own old (Nat.le_refl _) hacc
  have lC₀ := l.own (h' := h₁) (a := H2.objs.size) old (by rw [hC]; exact Nat.le_succ _) hoC
  have l₁ : Lay h₀ L h₁ m ext ((H2.objs.size, oC) :: (s.heap.objs.size, lstObj [] 0) :: mu) im := by
    refine ⟨lD.F, fun p hp => ?_, fun p hp q hq => ?_, lD.a2, fun p hp q hq => ?_⟩
    · rcases List.mem_append.mp hp with hp | hp
      · exact lD.nExt p hp
      · rcases List.mem_cons.mp (by simpa using hp : p ∈ (H2.objs.size, oC) :: ((s.heap.objs.size, lstObj [] 0) :: (mu ++ im))) with rfl | hp
        · exact lC₀.nMu _ (.head _)
        · exact lD.nVis p (by simpa using hp)
    · rcases List.mem_cons.mp hq with rfl | hq
      · exact lC₀.a1 p hp _ (.head _)
      · exact lD.a1 p hp q hq
    · rcases List.mem_cons.mp hp with rfl | hp
      · exact lC₀.a3 _ (.head _) q hq
      · exact lD.a3 p hp q hq
  have offmu : ∀ p ∈ mu, p.1 ≠ H2.objs.size ∧ p.1 ≠ s.heap.objs.size := fun p hp => below _ (Heap.lt_size (l.nMu p hp).1)
  have hIlt : I < s.heap.objs.size := by obtain ⟨o, e⟩ := S.there _ _ hst; exact Heap.lt_size e
  have hst₁ : St 0 h₁ := S.walk.frame _ _ _ hst fun b hb o e => old b o e
  have loop : ∀ s₃ : Shared, s₃ = { s with heap := h₁, toks := s.toks + ([] : List (PySem.Str × Value)).length } →
      codeAny (model W.prog W.w) A (.compLoop (.ListComp elt [⟨target, iter, ifs, 0⟩] scope pos) 0 (.ref I) (.ref s.heap.objs.size) (compEnvC scope cl H2.objs.size env)) (RR (.ref s.heap.objs.size) H2.objs.size) s₃ := by
    rintro s₃ rfl
    refine codeAny_comp (fun k s' => ∃ h' tk i im' oC' m' ys n, s' = { s with heap := h', toks := tk } ∧ i ≤ ds.length ∧ k = ds.length + 1 - i ∧ St i h' ∧ Lay h₀ L h' m ext ((H2.objs.size, oC') :: (s.heap.objs.size, lstObj ys n) :: mu) im' ∧ (∀ p ∈ im, p ∈ im') ∧ (∀ p ∈ im', p.1 ≠ I) ∧ NsObj oC' m' ∧ DAll W.prog W.w im' ys (((ds.take i).filter keep).map f)) ?_ (ds.length + 1)
      ⟨h₁, _, 0, im, oC, _, [], 0, rfl, Nat.zero_le _, rfl, hst₁, l₁, sub_refl, (fun p hp => S.new p (List.mem_append.mpr (.inr (List.mem_append.mpr (.inr hp))))), nsC, by simpa using DAll.nil⟩
    rintro k s' ⟨h', tk, i, im', oC', m', ys, n, rfl, hi, rfl, hst', l', hs', offI, ns', hys⟩
    have allOff : ∀ p ∈ ext ++ (((H2.objs.size, oC') :: (s.heap.objs.size, lstObj ys n) :: mu) ++ im'), p.1 ≠ I := by
      intro p hp
      rcases List.mem_append.mp hp with hp | hp
      · exact S.new p (List.mem_append.mpr (.inl hp))
      · rcases List.mem_append.mp hp with hp | hp
        · rcases List.mem_cons.mp hp with rfl | hp
          · exact Ne.symm (below I hIlt).1
          · rcases List.mem_cons.mp hp with rfl | hp
            · exact Ne.symm (below I hIlt).2
            · exact S.new p (List.mem_append.mpr (.inr (List.mem_append.mpr (.inl hp))))
        · exact offI p hp
    by_cases hlt : i < ds.length
    · refine S.walk.item i _ _ _ hlt hst' fun v h₂ tk₂ hP st₂ hk₂ => ?_
      obtain ⟨oI, hoI⟩ := S.there _ _ st₂
      have l₂ := l'.iter (h' := h₂) (fun b o hb e => hk₂ b o (by simpa using hb) e) hoI S.notL S.none0 allOff
      refine S.go i v _ _ _ hP st₂ ?_
      obtain ⟨d, hd, hD⟩ := S.item i v hP
      have l₂' : Lay h₀ L h₂ m ((I, oI) :: ext) ((H2.objs.size, oC') :: ((s.heap.objs.size, lstObj ys n) :: mu)) im' := l₂
      refine bind H2.objs.size i d hd oC' m' _ _ im' { s with heap := h₂, toks := tk₂ } v _ _ ns' hs' (fun p hp => .tail _ hp) (fun p hp => (offmu p hp).1) l₂' (hD.mono hs') fun h₃ tk₃ oC₃ m₃ ns₃ hs₃ ho₃ H₃ => ?_
      have l₃ : Lay h₀ L h₃ m ((I, oI) :: ext) ((H2.objs.size, oC₃) :: (s.heap.objs.size, lstObj ys n) :: mu) im' := by
        have q := l₂'.updK (.head _) hs₃ ho₃
        have e : Mine.upd H2.objs.size oC₃ ((H2.objs.size, oC') :: (s.heap.objs.size, lstObj ys n) :: mu) = (H2.objs.size, oC₃) :: (s.heap.objs.size, lstObj ys n) :: mu := by
          unfold Mine.upd
          rw [List.map_cons, List.map_cons, if_pos rfl, if_neg hDC]
          congr 2
          exact upd_off fun p hp => (offmu p hp).1
        rw [e] at q
        exact q
      have nextSt : ∀ (h₅ : Heap) (ext₅ : Led) (mu₅ im₅ : Led), Lay h₀ L h₅ m ((I, oI) :: ext) mu₅ im₅ → (∀ p ∈ im', p ∈ im₅) → St (i + 1) h₅ := fun h₅ ext₅ mu₅ im₅ l₅ hs₅ => by
        refine S.walk.frame _ _ _ st₂ fun b hb o e => ?_
        rcases S.kept b hb with rfl | ⟨o', ho'⟩
        · rw [hoI] at e; cases e
          exact (l₅.nExt _ (.head _)).1
        · have e1 := (l₂.nIm _ (hs' _ ho')).1
          rw [e] at e1; cases e1
          exact (l₅.nIm _ (hs₅ _ (hs' _ ho'))).1
      have etake : ds.take (i + 1) = ds.take i ++ [d] := by rw [List.take_add_one, hd]; rfl
      refine tests H2.objs.size i d hd A fe h₀ L m ((I, oI) :: ext) _ im' _ _ _ M l₃ H₃ fun h₄ tk₄ im₄ l₄ s₄ => ?_
      cases hkeep : keep d with
      | false =>
        refine ⟨ds.length + 1 - (i + 1), by omega, h₄, tk₄, i + 1, im₄, oC₃, m₃, ys, n, rfl, hlt, rfl, nextSt h₄ ext _ im₄ l₄ s₄, l₄.drop, sub_trans hs' s₄, (fun p hp => Ne.symm (l₄.a2 (I, oI) (.head _) p hp)), ns₃, ?_⟩
        rw [etake, List.filter_append]
        simpa [hkeep] using hys.mono s₄
      | true =>
        refine elts H2.objs.size i d hd hkeep A fe h₀ L m ((I, oI) :: ext) _ im₄ _ _ _ M l₄ (H₃.mono s₄) fun y h₅ tk₅ im₅ l₅ s₅ hy => ?_
        have hlen : ys.length ≤ ds.length := by
          rw [hys.length, List.length_map]
          exact Nat.le_trans (List.length_filter_le _ _) (by rw [List.length_take]; exact Nat.min_le_right _ _)
        refine append_at (l₅.nMu (s.heap.objs.size, lstObj ys n) (.tail _ (.head _))).1 (fun h₆ hs₆ ho₆ => ?_) (by rw [List.size_toArray]; exact Nat.le_trans hlen hsz)
        have e1 : ys.toArray.push y = (ys ++ [y]).toArray := by simp
        rw [e1] at ho₆
        have l₆ : Lay h₀ L h₆ m ((I, oI) :: ext) ((H2.objs.size, oC₃) :: (s.heap.objs.size, lstObj (ys ++ [y]) (n + 1)) :: mu) im₅ := by
          have q := l₅.upd (.tail _ (.head _)) hs₆ ho₆
          have e : Mine.upd s.heap.objs.size (lstObj (ys ++ [y]) (n + 1)) ((H2.objs.size, oC₃) :: (s.heap.objs.size, lstObj ys n) :: mu) = (H2.objs.size, oC₃) :: (s.heap.objs.size, lstObj (ys ++ [y]) (n + 1)) :: mu := by
            unfold Mine.upd
            rw [List.map_cons, List.map_cons, if_pos rfl, if_neg (Ne.symm hDC)]
            congr 2
            exact upd_off fun p hp => (offmu p hp).2
          rw [e] at q
          exact q
        refine ⟨ds.length + 1 - (i + 1), by omega, h₆, tk₅, i + 1, im₅, oC₃, m₃, ys ++ [y], n + 1, rfl, hlt, rfl, nextSt h₆ ext _ im₅ l₆ (sub_trans s₄ s₅), l₆.drop, sub_trans hs' (sub_trans s₄ s₅), (fun p hp => Ne.symm (l₆.a2 (I, oI) (.head _) p hp)), ns₃, ?_⟩
        rw [etake, List.filter_append, List.map_append]
        simp only [List.filter_cons, hkeep, if_true, List.filter_nil, List.map_cons, List.map_nil]
        exact (hys.mono (sub_trans s₄ s₅)).append (.cons hy .nil)
    · have hin : i = ds.length := by omega
      subst hin
      refine S.walk.done _ _ _ hst' fun h₂ tk₂ hk₂ => ?_
      have l₂ : Lay h₀ L h₂ m ext ((H2.objs.size, oC') :: (s.heap.objs.size, lstObj ys n) :: mu) im' := by
        refine ⟨⟨l'.F.ns.at' fun o e => hk₂ _ o (by simpa using Ne.symm S.notL) e, fun b o e => hk₂ b o (by intro q; rw [List.mem_singleton.mp q, S.none0] at e; cases e) (l'.F.keep b o e), l'.F.above⟩, fun p hp => ⟨hk₂ _ _ (by simpa using allOff p hp) (l'.N p hp).1, (l'.N p hp).2⟩, l'.a1, l'.a2, l'.a3⟩
      rw [List.take_length] at hys
      exact hRR _ _ h₂ tk₂ im' oC' m' ys n l₂ hs' ns' (Ne.symm hDC) offmu hys
  exact codeAny_compStart_list (loop _ rfl) (S.walk.self 0 _ _ _ hst₁ (loop _ rfl))
end
end Mine

namespace Mine
open PySem PySem.W PyProof.Rows PySem.Spec PySem.Calls PyProof.Rows.LCg

section
variable {Pc : PySem.Ctx → Prop} {W : Wd} {b : Bool} {lvl : Nat} {env : Env} {V : Vs} {Q : Out → Prop}

theorem Var.more {env : Env} {L : Addr} {m : PySem.Str → Option Value} {mu mu' : Led} {x : PySem.Str} {v : Value} (h : Var env L m mu x v) (hs : ∀ p ∈ mu, p ∈ mu') : Var env L m mu' x v := by
  cases h with
  | loc a b c => exact .loc a b c
  | comp a b c d => exact .comp (hs _ a) b c d
  | cell a b c d => exact .cell a b (hs _ c) d
theorem Own.more {prog : Program} {w : World} {mu mu' im : Led} {v : Value} {d : D} (hs : ∀ p ∈ mu, p ∈ mu') (h : Own prog w mu im v d) : Own prog w mu' im v d := by
  cases d with
  | list ds => obtain ⟨a, vs, n, e, hm, hd⟩ := h; exact ⟨a, vs, n, e, hs _ hm, hd⟩
  | dict kvs => obtain ⟨a, o, e, hm, hd⟩ := h; exact ⟨a, o, e, hs _ hm, hd⟩
  | _ => exact h.elim
theorem Holds.more {prog : Program} {w : World} {env : Env} {L : Addr} {m : PySem.Str → Option Value} {mu mu' im : Led} {V : Vs} (h : Holds prog w env L m mu im V) (hs : ∀ p ∈ mu, p ∈ mu') : Holds prog w env L m mu' im V :=
  ⟨fun x d e => let ⟨v, hv, hd⟩ := h.s x d e; ⟨v, hv.more hs, hd⟩, fun x d e => let ⟨v, hv, hd⟩ := h.u x d e; ⟨v, hv.more hs, hd.more hs⟩⟩
theorem Holds.compVar {prog : Program} {w : World} {env : Env} {L : Addr} {m m₂ : PySem.Str → Option Value} {mu im : Led} {V : Vs} {x : PySem.Str} {v : Value} {d : D} {o : Obj} (H : Holds prog w env L m mu im V) (hm : (env.locals, o) ∈ mu) (hn : NsObj o m₂) (hk : env.kindOf x = some .local) (hx : m₂ x = some v) (hd : DIn prog w im v d) :
    Holds prog w env L m mu im { V with s := (x, d) :: V.s } := by
  refine ⟨fun y e hy => ?_, H.u⟩
  by_cases hyx : y = x
  · subst hyx
    have : e = d := by
      have h' : List.lookup y ((y, d) :: V.s) = some e := hy
      rw [List.lookup_cons_self] at h'
      exact (Option.some.inj h').symm
    subst this
    exact ⟨v, .comp hm hn hk hx, hd⟩
  · refine H.s y e ?_
    have h' : List.lookup y ((x, d) :: V.s) = some e := hy
    rw [List.lookup_cons] at h'
    simpa [show (y == x) = false from beq_eq_false_iff_ne.mpr hyx] using h'

/-- what a comprehension sees of its def -/
def Sees (W : Wd) (env : Env) (scope : Scope) (cl : List (PySem.Str × Addr)) (V Vo : Vs) : Prop :=
  ∀ C L m mu im, Holds W.prog W.w env L m mu im V → Holds W.prog W.w (compEnvC scope cl C env) L m mu im Vo
theorem Sees.none {scope : Scope} {cl : List (PySem.Str × Addr)} : Sees W env scope cl V { s := [] } := fun C L m mu im _ => ⟨fun x d e => (by cases e), fun x d e => (by cases e)⟩

theorem compEnv_ok {scope : Scope} {cl : List (PySem.Str × Addr)} {C : Addr} (he : EnvOk env) (hk : scope.kind = .function) : EnvOk (compEnvC scope cl C env) := ⟨he.g, he.b, hk⟩

/-- how a comprehension's target is bound -/
def Bnd (W : Wd) (env : Env) (scope : Scope) (cl : List (PySem.Str × Addr)) (Vo : Vs) (target : PySem.Expr) (d : D) (Vd : Vs) : Prop :=
  ∀ (C : Addr) (A : Around) (h₀ : Heap) (L : Addr) (m m₂ : PySem.Str → Option Value) (oC : Obj) (ext mu im : Led) (s : Shared) (v : Value) (R : Unit → Shared → Prop) (E : Value → Shared → Prop), A.handled = none → NsObj oC m₂ → Lay h₀ L s.heap m ext ((C, oC) :: mu) im → (∀ oC', Holds W.prog W.w (compEnvC scope cl C env) L m ((C, oC') :: mu) im Vo) → DIn W.prog W.w im v d →
    (∀ h' tk' oC' m₃, NsObj oC' m₃ → (∀ c o, c ≠ C → s.heap.get? c = some o → h'.get? c = some o) → h'.get? C = some oC' → Holds W.prog W.w (compEnvC scope cl C env) L m ((C, oC') :: mu) im Vd → R () { s with heap := h', toks := tk' }) →
    wpAny (model W.prog W.w) A (assign target (compEnvC scope cl C env) v) R E s
theorem Bnd.name {scope : Scope} {cl : List (PySem.Str × Addr)} {Vo : Vs} {x : PySem.Str} {p : Pos} {d : D} (hk : scope.kind = .function) (hx : scope.names.lookup x = some .local) : Bnd W env scope cl Vo (.Name x p) d { Vo with s := (x, d) :: Vo.s } := by
  intro C A h₀ L m m₂ oC ext mu im s v R E hh hn l Ho hd k
  refine wpAny_assign_Name (wpAny_storeName_local (env := compEnvC scope cl C env) (lookup_relabel_local hx) (hn.ns (l.nMu _ (.head _)).1) (fun h' hn' hs' => ?_) (by simp [compEnvC, relabel, hk]))
  obtain ⟨oC', ho', hno'⟩ := ns_obj hn'
  exact k h' _ oC' _ hno' (fun c o hc e => (hs'.2 c hc).trans e) ho' ((Ho oC').compVar (.head _) hno' (lookup_relabel_local hx) (if_pos rfl) hd)
theorem Bnd.pair {scope : Scope} {cl : List (PySem.Str × Addr)} {Vo : Vs} {x y : PySem.Str} {p q tp : Pos} {kd : Nat} {d e : D} (hk : scope.kind = .function) (hx : scope.names.lookup x = some .local) (hy : scope.names.lookup y = some .local) (hne : x ≠ y) : Bnd W env scope cl Vo (.Tuple [.Name x p, .Name y q] kd tp) (.tuple [d, e]) { Vo with s := (y, e) :: (x, d) :: Vo.s } := by
  intro C A h₀ L m m₂ oC ext mu im s v R E hh hn l Ho hd k
  cases hd with
  | tuple hm r =>
  cases r with
  | @cons u us _ _ hu r =>
  cases r with
  | @cons w ws _ _ hw r =>
  cases r
  refine kcp_assign (env := compEnvC scope cl C env) hh (DIn.isTuple l.nIm hm) (lookup_relabel_local hx) (lookup_relabel_local hy) (by simp [compEnvC, relabel, hk]) (hn.ns (l.nMu _ (.head _)).1) fun h' tk' hn' hk' => ?_
  obtain ⟨oC', ho', hno'⟩ := ns_obj hn'
  refine k h' tk' oC' _ hno' hk' ho' ?_
  have h1 := (Ho oC').compVar (.head _) hno' (lookup_relabel_local hx) (show (if x = y then some w else if x = x then some u else m₂ x) = some u by rw [if_neg hne, if_pos rfl]) hu
  exact h1.compVar (.head _) hno' (lookup_relabel_local hy) (if_pos rfl) hw

theorem tests_nil {env : Env} : Tv W lvl env V (forIn ([] : List PySem.Expr) true fun c r => if r = true then do let ok ← isTrue c env (eval c env); pure (ForInStep.yield ok) else pure (ForInStep.yield r)) true := by
  intro A fe h₀ L m ext mu im s Q E M l H k
  exact wpAny_tests_nil (k s.heap s.toks im l sub_refl)
theorem tests_one {env : Env} {c : PySem.Expr} {b : Bool} (h : Tr W lvl env V c b) : Tv W lvl env V (forIn [c] true fun c r => if r = true then do let ok ← isTrue c env (eval c env); pure (ForInStep.yield ok) else pure (ForInStep.yield r)) b := by
  intro A fe h₀ L m ext mu im s Q E M l H k
  exact wpAny_tests_one (h A fe h₀ L m ext mu im s _ E M l H k)

theorem Lay.shift {h₀ h : Heap} {L : Addr} {m : PySem.Str → Option Value} {ext mu im : Led} {c d : Addr × Obj} (l : Lay h₀ L h m ext (c :: d :: mu) im) (hcd : c.1 ≠ d.1) (hd : ∀ p ∈ mu, p.1 ≠ d.1) : Lay h₀ L h m ext (c :: mu) (d :: im) := by
  refine ⟨l.F, fun p hp => l.N p ?_, fun p hp q hq => ?_, fun p hp q hq => ?_, fun p hp q hq => ?_⟩
  · simp only [List.mem_append, List.mem_cons, List.cons_append] at hp ⊢
    rcases hp with h | (h | (h | (h | h)))
    · exact .inl h
    · exact .inr (.inl h)
    · exact .inr (.inr (.inr (.inl h)))
    · exact .inr (.inr (.inl h))
    · exact .inr (.inr (.inr (.inr h)))
  · rcases List.mem_cons.mp hq with rfl | hq
    · exact l.a1 p hp _ (.head _)
    · exact l.a1 p hp q (.tail _ (.tail _ hq))
  · rcases List.mem_cons.mp hq with rfl | hq
    · exact l.a1 p hp _ (.tail _ (.head _))
    · exact l.a2 p hp q hq
  · rcases List.mem_cons.mp hq with rfl | hq
    · rcases List.mem_cons.mp hp with rfl | hp
      · exact hcd
      · exact hd p hp
    · rcases List.mem_cons.mp hp with rfl | hp
      · exact l.a3 _ (.head _) q hq
      · exact l.a3 p (.tail _ (.tail _ hp)) q hq
theorem Lay.dropMu {h₀ h h' : Heap} {L : Addr} {m : PySem.Str → Option Value} {ext mu im : Led} {c : Addr × Obj} (l : Lay h₀ L h m ext (c :: mu) im) (hs : Heap.SameBut c.1 h h') (hc : ∀ p ∈ mu, p.1 ≠ c.1) : Lay h₀ L h' m ext mu im := by
  have n := l.nMu c (.head _)
  refine ⟨l.F.change hs n.2.1 n.2.2, fun p hp => ?_, fun p hp q hq => l.a1 p hp q (.tail _ hq), l.a2, fun p hp q hq => l.a3 p (.tail _ hp) q hq⟩
  have off : p.1 ≠ c.1 := by
    rcases List.mem_append.mp hp with hp | hp
    · exact l.a1 p hp c (.head _)
    · rcases List.mem_append.mp hp with hp | hp
      · exact hc p hp
      · exact Ne.symm (l.a3 c (.head _) p hp)
  have hp' : p ∈ ext ++ ((c :: mu) ++ im) := (List.mem_append.mp hp).elim (fun h => List.mem_append.mpr (.inl h)) fun h => List.mem_append.mpr (.inr (.tail _ h))
  exact ⟨(hs.2 _ off).trans (l.N p hp').1, (l.N p hp').2⟩

structure CompOk (scope : Scope) (env : Env) (cl : List (PySem.Str × Addr)) : Prop where
  clos : closureFor scope env = pure cl
  cell : ∀ y ∈ scope.names, y.2 ≠ .cell
  kind : scope.kind = .function
  names : ∀ y ∈ scope.names, y.2 = .local → scope.names.lookup y.1 = some .local

theorem Ev.comp {elt target iter : PySem.Expr} {ifs : List PySem.Expr} {scope : Scope} {cl : List (PySem.Str × Addr)} {pos : Pos} {ds : List D} {Vo : Vs} (src : Src W lvl env V target iter ds) (ok : CompOk scope env cl) (see : Sees W env scope cl V Vo) (keep : D → Bool) (f : D → D) (Vd : D → Vs) (hsz : ds.length ≤ sizeLine)
    (bind : ∀ d ∈ ds, Bnd W env scope cl Vo target d (Vd d))
    (tests : ∀ C, ∀ d ∈ ds, Tv W lvl (compEnvC scope cl C env) (Vd d) (forIn ifs true fun c r => if r = true then do let ok ← isTrue c (compEnvC scope cl C env) (eval c (compEnvC scope cl C env)); pure (ForInStep.yield ok) else pure (ForInStep.yield r)) (keep d))
    (elts : ∀ C, ∀ d ∈ ds, keep d = true → Ev W true lvl (compEnvC scope cl C env) (Vd d) elt (f d)) (hs : ∀ x, foldedSetIterable iter env x = pure x := by intro _; rfl) :
    Ev W b lvl env V (.ListComp elt [⟨target, iter, ifs, 0⟩] scope pos) (.list ((ds.filter keep).map f)) := by
  intro A fe h₀ L m ext mu im s Q E M l H kk
  show wpAny _ _ (eval (.ListComp elt [⟨target, iter, ifs, 0⟩] scope pos) env) _ _ _
  rw [eval_ListComp]
  refine wpAny_comprehension_free (use := none) rfl hs ok.clos ok.kind ok.names (src A fe h₀ L m ext mu im s _ E M l H fun I fp P St h₁ tk₁ im₁ l₁ s₁ S hst => ?_)
  refine comp_core M l₁ S hst hsz ok.cell ok.kind keep f Vd (fun C i d hd oC m₂ ext' mu' im' s' v R E hn him hmu hC l' hD k => ?_) (fun C i d hd => tests C d (List.mem_of_getElem? hd)) (fun C i d hd hk => elts C d (List.mem_of_getElem? hd) hk) fun D C h tk im' oC m' ys n l' hs' hn hCD hoff hys => ?_
  · exact bind d (List.mem_of_getElem? hd) C A h₀ L m m₂ oC ext' mu' im' s' v R E M.hh hn l' (fun oC' => (see C L m mu im' ((H.mono s₁).mono him)).more fun p hp => .tail _ (hmu p hp)) hD k
  · refine ⟨m', hn.ns (l'.nMu _ (.head _)).1, fun h'' hs'' => ?_⟩
    have l₂ := (l'.shift hCD fun p hp => (hoff p hp).2).dropMu hs'' fun p hp => (hoff p hp).1
    exact kk _ h'' tk _ l₂ (sub_trans s₁ (sub_trans hs' sub_cons)) (.list (vis_im _ (.head _)) (hys.mono fun p hp => vis_im p (.tail _ hp)))
theorem Ex.asgComp {y : PySem.Str} {yp spos : Pos} {elt target iter : PySem.Expr} {ifs : List PySem.Expr} {scope : Scope} {cl : List (PySem.Str × Addr)} {pos : Pos} {ds : List D} {Vo : Vs} (he : EnvOk env) (hy : env.kindOf y = some .local) (src : Src W lvl env V target iter ds) (ok : CompOk scope env cl) (see : Sees W env scope cl V Vo) (keep : D → Bool) (f : D → D) (Vd : D → Vs) (hsz : ds.length ≤ sizeLine)
    (bind : ∀ d ∈ ds, Bnd W env scope cl Vo target d (Vd d))
    (tests : ∀ C, ∀ d ∈ ds, Tv W lvl (compEnvC scope cl C env) (Vd d) (forIn ifs true fun c r => if r = true then do let ok ← isTrue c (compEnvC scope cl C env) (eval c (compEnvC scope cl C env)); pure (ForInStep.yield ok) else pure (ForInStep.yield r)) (keep d))
    (elts : ∀ C, ∀ d ∈ ds, keep d = true → Ev W true lvl (compEnvC scope cl C env) (Vd d) elt (f d)) (hu : ∀ z e, V.u = some (z, e) → z ≠ y) (hq : Q (.next { V with s := (y, .list ((ds.filter keep).map f)) :: V.s }))
    (hsw : swapsWith (.ListComp elt [⟨target, iter, ifs, 0⟩] scope pos) (some (.Name y yp)) spos.line env = pure true) (hs : ∀ x, foldedSetIterable iter env x = pure x := by intro _; rfl) :
    Ex W lvl env V (exec (.Assign [.Name y yp] (.ListComp elt [⟨target, iter, ifs, 0⟩] scope pos) spos) env) Q := by
  intro A fe h₀ m ext mu im s R E M l H kk
  rw [exec_Assign_Name_used _ _ _ _ hsw]
  refine wpAny_bind (wpAny_standAt (wpAny_bind ?_))
  show wpAny _ A (do let _ ← comprehension (.ListComp elt [⟨target, iter, ifs, 0⟩] scope pos) scope env _ (newList []) false (eval iter env) (some (assign (.Name y yp) env))) _ _ s
  refine wpAny_bind (wpAny_mono (wpAny_comprehension_free (use := some (assign (.Name y yp) env)) (Q := fun _ s' => R .next s') rfl hs ok.clos ok.kind ok.names (src A fe h₀ env.locals m ext mu im s _ E M l H fun I fp P St h₁ tk₁ im₁ l₁ s₁ S hst => ?_)) (fun _ s' hq => wpAny_pure (wpAny_pure hq)) fun _ _ e => e)
  refine comp_core M l₁ S hst hsz ok.cell ok.kind keep f Vd (fun C i d hd oC m₂ ext' mu' im' s' v R E hn him hmu hC l' hD k => ?_) (fun C i d hd => tests C d (List.mem_of_getElem? hd)) (fun C i d hd hk => elts C d (List.mem_of_getElem? hd) hk) fun D C h tk im' oC m' ys n l' hs' hn hCD hoff hys => ?_
  · exact bind d (List.mem_of_getElem? hd) C A h₀ _ m m₂ oC ext' mu' im' s' v R E M.hh hn l' (fun oC' => (see C _ m mu im' ((H.mono s₁).mono him)).more fun p hp => .tail _ (hmu p hp)) hD k
  · have l₂ := l'.shift hCD fun p hp => (hoff p hp).2
    show wpAny _ A (assign (.Name y yp) env (.ref D)) _ E _
    refine wpAny_assign_Name (wpAny_storeName_local hy l₂.F.ns (fun h₃ hn₃ hs₃ => ?_) (by rw [he.k]; rfl))
    have l₃ := l₂.set hn₃ hs₃
    refine ⟨m', hn.ns (l₃.nMu _ (.head _)).1, fun h₄ hs₄ => ?_⟩
    have l₄ := l₃.dropMu hs₄ fun p hp => (hoff p hp).1
    exact kk _ _ _ hq ⟨h₄, _, _, mu, _, rfl, l₄, sub_trans s₁ (sub_trans hs' sub_cons), (H.mono (sub_trans s₁ (sub_trans hs' sub_cons))).store rfl hy (.list (.head _) (hys.mono sub_cons)) hu⟩
end
end Mine

namespace Mine
open PySem PySem.W PyProof.Rows PySem.Spec PySem.Calls PyProof.Rows.LCg

section
variable {α β : Type} {Pc : PySem.Ctx → Prop} {M : Model} {A : Around} {E : Value → Shared → Prop} {s : Shared}
/-- the first action by the library's rules -/
theorem wpP_bindA {m : Sem α} {f : α → Sem β} {Q : β → Shared → Prop} (h : wpAny M A m (fun a s' => wpP Pc M A (f a) Q E s') E s) : wpP Pc M A (m >>= f) Q E s := wpP_bind (.of h)
end

section
variable {Pc : PySem.Ctx → Prop} {prog : Program} {w : World} {A : Around} {E : Value → Shared → Prop} {s : Shared} {R : Result → Shared → Prop}
theorem codeP_builtin (C : Clo Pc) {id : String} {args : Args} {b : Builtin} (hb : entryFor table id = some b)
    (h : wpP Pc (model prog w) (A.under (.builtin id args)) (b args)
      (fun fin s' => match fin with | .done f => R (.ok f) s' | .again c' => c'.quiet = true ∧ codeP Pc (model prog w) A c' R s') (fun e s' => R (.error e) s') s) :
    codeP Pc (model prog w) A (.builtin id args) R s := by
  refine codeP_of_tree C ?_
  show wpP Pc _ _ (match entryFor table id with | some b => b args | none => unsupported ((withoutEnding? id "#data").getD id)) _ _ s
  rw [hb]; exact h
theorem codeP_call_builtin (C : Clo Pc) {id : String} {args : Args} {b : Builtin} (hq : plainId id = true) (hb : entryFor table id = some b)
    (h : wpAny (model prog w) A.in1 (checkBuiltinCall id args) (fun _ s₁ => wpP Pc (model prog w) A.in1 (b args)
      (fun fin s' => match fin with | .done f => R (.ok f) s' | .again c' => c'.quiet = true ∧ codeP Pc (model prog w) A c' R s') (fun e s' => R (.error e) s') s₁)
      (fun e s' => R (.error e) s') s) : codeP Pc (model prog w) A (.call (.builtin id) args) R s := by
  refine codeP_of_tree C ?_
  show wpP Pc _ A.in1 (do checkBuiltinCall id args; again (.builtin id args)) _ _ s
  refine wpP_bindA (wpAny_mono h (fun _ s₁ h₁ => wpP_pure (And.intro (plainId_quiet hq args) (codeP_builtin C hb ?_))) fun _ _ h' => h')
  rw [Around.under_plainId hq args]; exact h₁

theorem callSpecialP {self : Value} {T : String} {name : PySem.Str} {id : String} {args : List Value}
    {Q : Option Value → Shared → Prop} (hT : s.TypeIs self T) (h : Slot T name id)
    (hc : wpP Pc (model prog w) A (call (.builtin id) (self :: args)) (fun v => Q (some v)) E s) : wpP Pc (model prog w) A (callSpecial? self name args []) Q E s := by
  simp only [callSpecial?]
  refine wpP_bindA (wpAny_specialOf hT h.lookup ?_)
  simp only [h.bind]
  exact wpP_holding (wpP_bind (wpP_pure (wpP_bind (wpP_mono hc (fun v s' h' => wpP_pure h') fun _ _ h' => h'))))

theorem callType_codesP (C : Clo Pc) {T newId initId : String} {Bi : Builtin} {args : List Value} {Q Q₁ : Value → Shared → Prop} (ft : TypeCalled T newId initId)
    (hct : checkTypeCall T ⟨args, []⟩ = pure ()) (entryI : entryFor table initId = some Bi)
    (hnew : codeP Pc (model prog w) A.in1 (.call (.builtin newId) ⟨.type T :: args, []⟩) (wants Q₁ E) s)
    (hnext : ∀ obj s₁, Q₁ obj s₁ → s₁.TypeIs obj T ∧ argsOk initId ⟨obj :: args, []⟩ ∧
      wpP Pc (model prog w) A.in1.in1 (Bi ⟨obj :: args, []⟩)
        (fun fin s' => match fin with | .done f => wants (fun r s₂ => r = .none ∧ Q obj s₂) E (.ok f) s' | .again c' => c'.quiet = true ∧ codeP Pc (model prog w) A.in1 c' (wants (fun r s₂ => r = .none ∧ Q obj s₂) E) s')
        (fun e s' => wants (fun r s₂ => r = .none ∧ Q obj s₂) E (.error e) s') s₁) :
    wpP Pc (model prog w) A (call (.type T) args) Q E s := by
  obtain ⟨c, tl, hmro⟩ := ft.mro
  have hmade := ft.made
  have hsub := ft.sub
  refine wpP_call C (codeP_of_tree C ?_)
  show wpP Pc _ _ (callAny (.type T) _) _ _ _
  refine wpP_pure ⟨Code.quiet_builtin _ (by decide +kernel), codeP_builtin C F.entry_type_call ?_⟩
  rw [Around.under_plain (weight_type_call_type T args []) rfl]
  have h1 := ft.notType
  have h2 := ft.canCreate
  simp only [Builtin.«type.__call__», h1, h2, hct, hmro, hmade, pure_bind, Bool.false_eq_true, if_false, List.isEmpty_cons]
  refine wpP_bind (wpP_holding (wpP_call C (codeP_mono hnew fun r s₁ hr => ?_)))
  cases r with
  | error e => exact hr
  | ok fl =>
    cases fl with
    | ret obj =>
      obtain ⟨hT, hok, hsi⟩ := hnext _ _ hr
      refine wpP_bindA (wpAny_isInstance hT hsub ?_)
      simp only [Bool.not_true, Bool.false_eq_true, if_false]
      refine wpP_bind (wpP_holding (callSpecialP hT ft.init (wpP_call C (codeP_mono (codeP_call_builtin C ft.init.plain entryI (ft.init.check _ _ _ _ _ _ _ _ hT hok hsi)) fun r₂ s₂ hr₂ => ?_))))
      cases r₂ with
      | error e => exact hr₂
      | ok fl₂ =>
        cases fl₂ with
        | ret r =>
          obtain ⟨rfl, hq⟩ := hr₂
          exact wpP_pure hq
        | _ => exact hr₂.elim
    | _ => exact hr.elim
end
end Mine

namespace Mine
open PySem PySem.W PyProof.Rows PySem.Spec PySem.Calls PyProof.Rows.LCg PySem.NumText

section
variable {prog : Program} {w : World} {A : Around} {E : Value → Shared → Prop} {s : Shared}

theorem cl_call (own : List String) (c : Code) (p : Pos) {Γ : PySem.Ctx} (h : Cl Γ) : pythonCodeMadeTheCall own (((c, p) :: Γ.below).map (·.1)) = false := by
  obtain ⟨q, hq, hc⟩ := h
  unfold pythonCodeMadeTheCall
  rw [Bool.and_eq_false_iff]; left
  rw [Bool.and_eq_false_iff]; left
  rw [Bool.not_eq_false', List.any_eq_true]
  exact ⟨q.1, List.mem_map.mpr ⟨q, List.mem_cons_of_mem _ hq, rfl⟩, hc⟩

theorem noMark {M : Model} {own : List String} {e : Value} {Q : Unit → Shared → Prop} (h : Q () s) : wpP Cl M A (markTheRefusal own e) Q E s := fun Γ p hΓ hc => by
  unfold markTheRefusal
  show Sem.wp M Γ (Sem.bind stack _) _ _ p s
  unfold stack
  rw [Sem.wp_bind, Sem.wp_stack]
  show Sem.wp M Γ (ite (pythonCodeMadeTheCall own (((Γ.code, p) :: Γ.below).map (·.1)) = true) _ _) _ _ p s
  rw [cl_call own Γ.code p hc]
  exact h

theorem text_refused {x : PySem.Str} {u : Tok} {Q : Value → Shared → Prop} (hh : A.handled = none) (hl : x.length ≤ 640) (hrl : (reprText x).length ≤ sizeLine) (hn : PySem.intText? x = none)
    (h : ∀ h' tk' e args, Heap.MadeExc s.heap h' e "ValueError" args → E (.ref e) { s with heap := h', toks := tk' }) :
    wpP Cl (model prog w) A ((int_private% "intFromText") (.str x u) (numTextOf x) 10) Q E s := by
  have hs : (numSeenOf x).length ≤ 640 := Nat.le_trans (seen_length x) hl
  have hr : (int_private% "readNumeral") 0 10 (numSeenOf x) = int_private% "Numeral.invalid" ∨ ∃ i, (int_private% "readNumeral") 0 10 (numSeenOf x) = (int_private% "Numeral.value") i ∧ ¬ ((numSeenOf x).length == (numTextOf x).length) = true := by
    rcases read0 x hs with ⟨m, h1, h2, h3⟩ | ⟨_, h2⟩
    · rw [hn] at h1; cases h1
    · exact h2
  have tail : ∀ B : Sem Value, wpP Cl (model prog w) A (pyRepr (.str x u) >>= fun shown => mkStr (PySem.Str.ofString (toString "invalid literal for int() with base " ++ toString 10 ++ toString ": ") ++ { cps := shown.cps.extract 0 200 }) >>= fun l => newExc (.type "ValueError") [l] >>= fun r => markTheRefusal ["int.__new__"] r >>= fun _ => raiseNew r) Q E s := by
    intro _
    refine wpP_bindA (wpAny_pyRepr_str ?_ hrl)
    refine wpP_bindA (wpAny_mkStr ?_ ?_)
    · refine wpP_bindA (wpAny_newExc_plain plainExc_ValueError fun h' e hm => ?_)
      exact wpP_bind (noMark (.of (wpAny_raiseNew_none hh (h _ _ _ _ hm))))
    · refine fits1000 ?_
      show ((PySem.Str.ofString (toString "invalid literal for int() with base " ++ toString 10 ++ toString ": ")).cps ++ (reprText x).cps.extract 0 200).size ≤ 1000
      rw [Array.size_append, Array.size_extract]
      have e : (PySem.Str.ofString (toString "invalid literal for int() with base " ++ toString 10 ++ toString ": ")).cps.size ≤ 100 := by decide +kernel
      omega
  show wpP Cl _ _ (ite ((numSeenOf x).length ≤ 640) _ _) _ _ s
  rw [if_pos hs]
  rcases hr with hr | ⟨i, hr, hne⟩
  · refine wpP_bind (wpP_pure ?_)
    simp only [hr]
    refine wpP_bindA (wpAny_pure (a := none) ?_)
    simp only [Option.isSome_none, Bool.false_and, Bool.false_eq_true, if_false]
    refine wpP_bindA (wpAny_rule ?_)
    refine wpP_bindA (wpAny_pure (a := none) ?_)
    exact tail (pure .none)
  · refine wpP_bind (wpP_pure ?_)
    simp only [hr, hne]
    refine wpP_bindA (wpAny_rule ?_)
    refine wpP_bindA (wpAny_pure (a := none) ?_)
    exact tail (pure .none)

theorem new_refused {x : PySem.Str} {u : Tok} {Q : Fin → Shared → Prop} (hh : A.handled = none) (hl : x.length ≤ 640) (hrl : (reprText x).length ≤ sizeLine) (hn : PySem.intText? x = none)
    (h : ∀ h' tk' e args, Heap.MadeExc s.heap h' e "ValueError" args → E (.ref e) { s with heap := h', toks := tk' }) :
    wpP Cl (model prog w) A (Builtin.«int.__new__» ⟨[.type "int", .str x u], []⟩) Q E s := by
  have f6 : s.TypeIs (.str x u) "str" := rfl
  show wpP Cl _ _ (isType (.type "int") >>= _) _ _ s
  refine wpP_bindA (wpAny_pure (a := true) ?_)
  show wpP Cl _ _ (isSubtype (.type "int") (.type "int") >>= _) _ _ s
  refine wpP_bindA (wpAny_of_eq F.conv_sub_int ?_)
  show wpP Cl _ _ (Bind.madeHere "int.__new__" (.type "int") >>= _) _ _ s
  refine wpP_bindA (wpAny_of_eq F.madeHere_int ?_)
  refine wpP_bindA (wpAny_pure (a := PUnit.unit) ?_)
  show wpP Cl _ _ ((int_private% "intFromObject") (.str x u) >>= _) _ _ s
  refine wpP_bind ?_
  show wpP Cl _ _ (callSpecial? (.str x u) (PySem.Str.ofString "__int__") >>= _) _ _ s
  refine wpP_bindA (wpAny_callSpecial?_none f6 KIN.str_int ?_)
  show wpP Cl _ _ (specialOf (.str x u) (PySem.Str.ofString "__index__") >>= _) _ _ s
  refine wpP_bindA (wpAny_specialOf f6 KIN.str_idx ?_)
  show wpP Cl _ _ (specialOf (.str x u) (PySem.Str.ofString "__trunc__") >>= _) _ _ s
  refine wpP_bindA (wpAny_specialOf f6 KIN.str_trunc ?_)
  show wpP Cl _ _ ((int_private% "numeralText?") (.str x u) >>= _) _ _ s
  refine wpP_bindA (wpAny_pure (a := some (numTextOf x)) ?_)
  exact text_refused hh hl hrl hn h

theorem int_refused {x : PySem.Str} {u : Tok} {Q : Value → Shared → Prop} (hh : A.handled = none) (hl : x.length ≤ 640) (hrl : (reprText x).length ≤ sizeLine) (hn : PySem.intText? x = none)
    (h : ∀ h' tk' e args, Heap.MadeExc s.heap h' e "ValueError" args → E (.ref e) { s with heap := h', toks := tk' }) :
    wpP Cl (model prog w) A (call (.type "int") [.str x u]) Q E s := by
  refine callType_codesP cl_clo (Q₁ := fun _ _ => False) F.called_int (F.typeCall_int_1 _) F.entry_object_init ?_ fun _ _ h => h.elim
  refine codeP_call_builtin cl_clo F.called_int.plain F.entry_int_new (wpAny_of_eq (F.newCall_int_1 _) ?_)
  exact new_refused hh hl hrl hn h
end
end Mine

namespace Mine
open PySem PySem.W PyProof.Rows PySem.Spec PySem.Calls PyProof.Rows.LCg PySem.NumText

theorem map_slot_iter : Slot "map" "__iter__" "map.__iter__" :=
  .of (owner := "map") (n := "__iter__") (by rw [typeLookup_type, builtinLookup_eq_fast]; kernel_rfl) (by decide +kernel) (by decide +kernel) (by decide +kernel)
    (by first | exact .inl (by decide +kernel) | exact .inr (by decide +kernel)) (by rw [isSubtype_type]; kernel_rfl)
theorem map_slot_next : Slot "map" "__next__" "map.__next__" :=
  .of (owner := "map") (n := "__next__") (by rw [typeLookup_type, builtinLookup_eq_fast]; kernel_rfl) (by decide +kernel) (by decide +kernel) (by decide +kernel)
    (by first | exact .inl (by decide +kernel) | exact .inr (by decide +kernel)) (by rw [isSubtype_type]; kernel_rfl)
theorem map_slot_init : Slot "map" "__init__" "object.__init__" :=
  .of (owner := "object") (n := "__init__") (by rw [typeLookup_type, builtinLookup_eq_fast]; kernel_rfl) (by decide +kernel) (by decide +kernel) (by decide +kernel)
    (by first | exact .inl (by decide +kernel) | exact .inr (by decide +kernel)) (by rw [isSubtype_type]; kernel_rfl)
theorem map_entry_iter : entryFor table "map.__iter__" = some Builtin.«dict_keyiterator.__iter__» :=
  entryFor_alias (id' := "dict_keyiterator.__iter__") (by kernel_rfl) (by first | rfl | decide +kernel | (unfold String.splitOn; simp +decide [String.splitOnAux])) (by decide +kernel) (by kernel_rfl)
theorem map_entry_next : entryFor table "map.__next__" = some Builtin.«map.__next__» := entryFor_of_tree (by kernel_rfl)
theorem map_entry_new : entryFor table "map.__new__" = some Builtin.«map.__new__» := entryFor_of_tree (by kernel_rfl)
theorem map_mro : mroOf (.type "map") = pure [.type "map", .type "object"] := by rw [mroOf_type]; kernel_rfl
theorem map_lookup_new : typeLookup (.type "map") "__new__" = pure (some (.builtin "map.__new__")) := by rw [typeLookup_type, builtinLookup_eq_fast]; kernel_rfl
theorem map_called : TypeCalled "map" "map.__new__" "object.__init__" :=
  ⟨by decide +kernel, by decide +kernel, ⟨_, _, map_mro⟩, madeBy_type map_mro map_lookup_new (by decide +kernel), by decide +kernel, by rw [isSubtype_type]; kernel_rfl, map_slot_init⟩
theorem map_typeCall (a b : Value) : checkTypeCall "map" ⟨[a, b], []⟩ = pure () := by kernel_rfl
theorem map_newCall (a b : Value) : checkBuiltinCall "map.__new__" ⟨[.type "map", a, b], []⟩ = pure () := by kernel_rfl
theorem map_sub : isSubtype (.type "map") (.type "map") = pure true := by rw [isSubtype_type]; kernel_rfl
theorem map_args_iter (a : Value) : argsOk "map.__iter__" ⟨[a], []⟩ := by first | kernel_rfl | trivial | (unfold argsOk; kernel_rfl)
theorem map_args_next (a : Value) : argsOk "map.__next__" ⟨[a], []⟩ := by first | kernel_rfl | trivial | (unfold argsOk; kernel_rfl)
theorem map_no_len : typeLookup (.type "map") "__len__" = pure none := by rw [typeLookup_type, builtinLookup_eq_fast]; kernel_rfl
theorem map_no_hint : typeLookup (.type "map") "__length_hint__" = pure none := by rw [typeLookup_type, builtinLookup_eq_fast]; kernel_rfl
theorem stop_no_value : isSubtype (.type "ValueError") (.type "StopIteration") = pure false := by rw [isSubtype_type]; kernel_rfl

abbrev mapObj (T : Addr) (f : Value) : Obj := { cls := .type "map", data := .fields #[.ref T, f] }
abbrev oneObj (it : Addr) : Obj := { cls := .type "tuple", data := .seq #[.ref it] }

section
variable {Pc : PySem.Ctx → Prop} {prog : Program} {w : World} {A : Around} {E : Value → Shared → Prop} {s : Shared}

theorem map_next (C : Clo Pc) {z T it : Addr} {f : Value} {Q : Value → Shared → Prop} (hz : s.heap.get? z = some (mapObj T f)) (hT : s.heap.get? T = some (oneObj it))
    (h : wpP Pc (model prog w) A.in1 (Builtin.SmallTypes.nextOf (.ref it)) (fun x s₁ => s₁.heap.get? z = some (mapObj T f) ∧ wpP Pc (model prog w) A.in1 (call f [x]) Q E s₁) E s) :
    wpP Pc (model prog w) A (call (.builtin "map.__next__") [.ref z]) Q E s := by
  refine wpP_call C (codeP_call_builtin C map_slot_next.plain map_entry_next (map_slot_next.check _ _ _ _ _ _ _ _ ⟨_, hz, rfl⟩ (map_args_next _) ?_))
  show wpP Pc _ _ (field (.ref z) 0 >>= _) _ _ _
  refine wpP_bindA (wpAny_field hz rfl (x := .ref T) rfl ?_)
  refine wpP_bindA (wpAny_seqItems hT rfl ?_)
  simp only [List.forIn_toArray, List.forIn_cons, List.forIn_nil, bind_assoc, pure_bind]
  refine wpP_bind (wpP_holding (wpP_mono h (fun x s₁ h₁ => ?_) fun _ _ h' => h'))
  refine wpP_bindA (wpAny_field h₁.1 rfl (x := f) rfl ?_)
  refine wpP_bind (wpP_holding (wpP_mono h₁.2 (fun r s₂ h₂ => ?_) fun _ _ h' => h'))
  exact wpP_bindA (wpAny_letGo (wpP_pure h₂))

theorem map_nextOf (C : Clo Pc) {z T it : Addr} {f : Value} {Q : Value → Shared → Prop} (hz : s.heap.get? z = some (mapObj T f)) (hT : s.heap.get? T = some (oneObj it))
    (h : wpP Pc (model prog w) A.in1 (Builtin.SmallTypes.nextOf (.ref it)) (fun x s₁ => s₁.heap.get? z = some (mapObj T f) ∧ wpP Pc (model prog w) A.in1 (call f [x]) Q E s₁) E s) :
    wpP Pc (model prog w) A (Builtin.SmallTypes.nextOf (.ref z)) Q E s := by
  unfold Builtin.SmallTypes.nextOf
  refine wpP_bind (callSpecialP (name := PySem.Str.ofString "__next__") (args := []) ⟨_, hz, rfl⟩ map_slot_next ?_)
  exact wpP_mono (map_next C hz hT h) (fun v s' h' => wpP_pure h') fun _ _ h' => h'

theorem map_iter {z T : Addr} {f : Value} {Q : Value → Shared → Prop} (hz : s.heap.get? z = some (mapObj T f)) (h : Q (.ref z) s) : wpAny (model prog w) A (pyIter (.ref z)) Q E s := by
  have hT : s.TypeIs (.ref z) "map" := ⟨_, hz, rfl⟩
  refine wpAny_pyIter_slot hT map_slot_iter (wpAny_call_entry map_slot_iter hT map_entry_iter ?_ (map_args_iter _))
  show wpAny _ _ (ret (.ref z)) _ _ s
  exact wpAny_pure ⟨_, rfl, "map", _, hT, map_slot_next.lookup, h⟩

/-- map(f, x) where the walk over x is `it` -/
theorem map_made {f x : Value} {Q : Value → Shared → Prop}
    (h : wpAny (model prog w) A.in1.in1 (pyIter x) (fun v s₁ => ∃ it, v = .ref it ∧ ∀ h', h' = (s₁.heap.push (oneObj it)).push (mapObj s₁.heap.objs.size f) → Q (.ref (s₁.heap.objs.size + 1)) { s₁ with heap := h' }) E s) :
    wpAny (model prog w) A (call (.type "map") [f, x]) Q E s := by
  refine callType_codes (Q₁ := fun obj s₁ => s₁.TypeIs obj "map" ∧ Q obj s₁) map_called (map_typeCall _ _) F.entry_object_init ?_ fun obj s₁ h₁ => ⟨h₁.1, F.args_object_init_3 _ _ _, ?_⟩
  · refine codeAny_call_builtin map_called.plain map_entry_new (wpAny_of_eq (map_newCall _ _) ?_)
    obtain ⟨hp, g, d, tk, os⟩ := s
    have hsub := map_sub
    repeat (first | ((with_reducible show wpAny _ _ (pyIter _) _ _ _); refine wpAny_mono h (fun v s₁ h₁ => ?_) (fun _ _ q => q)) | wp_step)
    obtain ⟨it, rfl, h₂⟩ := h₁
    obtain ⟨hp, g, d, tk, os⟩ := s₁
    repeat wp_step
    refine ⟨⟨_, Heap.get?_push_size _ rfl, rfl⟩, ?_⟩
    have e : (hp.push (oneObj it)).objs.size = hp.objs.size + 1 := Heap.size_push ..
    have := h₂ _ rfl
    rw [← e] at this
    exact this
  · exact object_init_meets map_called.init.lookup map_called.made (by decide +kernel) prog w A.in1 _ s₁ ⟨h₁.1, rfl, h₁.2⟩
end
end Mine

namespace Mine
open PySem PySem.W PyProof.Rows PySem.Spec PySem.Calls PyProof.Rows.LCg PySem.NumText

def ints? : List PySem.Str → Option (List Int)
  | [] => some []
  | x :: r => match PySem.intText? x with
    | none => none
    | some n => (ints? r).map (n :: ·)

/-- the walks of list(map(str, map(int, l))) -/
structure Maps (h : Heap) (m2 T2 m1 T1 it l : Addr) (items : Array Value) (i : Nat) : Prop where
  a : h.get? m2 = some (mapObj T2 (.type "str"))
  b : h.get? T2 = some (oneObj m1)
  c : h.get? m1 = some (mapObj T1 (.type "int"))
  d : h.get? T1 = some (oneObj it)
  e : h.IsListIter it l i
  f : h.IsList l items
  n1 : m2 ≠ it
  n2 : T2 ≠ it
  n3 : m1 ≠ it
  n4 : T1 ≠ it
  n5 : l ≠ it

section
variable {Pc : PySem.Ctx → Prop} {prog : Program} {w : World} {A : Around} {E : Value → Shared → Prop} {s : Shared} {m2 T2 m1 T1 it l : Addr} {items : Array Value} {i : Nat}

theorem Maps.ext {h h' : Heap} (D : Maps h m2 T2 m1 T1 it l items i) (k : Heap.ExtBut it h h') {j : Nat} (hi : h'.IsListIter it l j) : Maps h' m2 T2 m1 T1 it l items j :=
  ⟨k _ _ D.n1 D.a, k _ _ D.n2 D.b, k _ _ D.n3 D.c, k _ _ D.n4 D.d, hi, D.f.extBut k D.n5, D.n1, D.n2, D.n3, D.n4, D.n5⟩
theorem Maps.frame {h h' : Heap} (D : Maps h m2 T2 m1 T1 it l items i) {S : Addr} (k : ∀ b o, b ≠ S → h.get? b = some o → h'.get? b = some o) (s1 : m2 ≠ S) (s2 : T2 ≠ S) (s3 : m1 ≠ S) (s4 : T1 ≠ S) (s5 : it ≠ S) (s6 : l ≠ S) : Maps h' m2 T2 m1 T1 it l items i :=
  ⟨k _ _ s1 D.a, k _ _ s2 D.b, k _ _ s3 D.c, k _ _ s4 D.d, D.e.at fun o e => k _ o s5 e, D.f.at fun o e => k _ o s6 e, D.n1, D.n2, D.n3, D.n4, D.n5⟩

theorem maps_turn (C : Clo Pc) {x : PySem.Str} {t : Tok} {n : Int} {Q : Option Value → Shared → Prop} (D : Maps s.heap m2 T2 m1 T1 it l items i) (hx : items[i]? = some (.str x t)) (hn : PySem.intText? x = some n) (hl : x.length ≤ 640) (hb : n.natAbs.log2 < 1920)
    (h : ∀ h' tk tk', Maps h' m2 T2 m1 T1 it l items (i + 1) → Heap.SameBut it s.heap h' → Q (some (.str (PySem.Str.ofString (toString n)) tk)) { s with heap := h', toks := tk' }) :
    wpP Pc (model prog w) A (pyNext (.ref m2)) Q E s := by
  unfold pyNext
  refine wpP_bind (wpP_attempt (callSpecialP (name := PySem.Str.ofString "__next__") (args := []) ⟨_, D.a, rfl⟩ map_slot_next ?_))
  refine map_next C D.a D.b (map_nextOf C D.c D.d (.of (wpAny_nextOf_list_item D.e D.f hx fun h₁ hi hs => ?_)))
  have D₁ := D.ext hs.extBut hi
  refine ⟨D₁.c, .of (KIN.call_text hn hl ⟨D₁.a, .of (P.str_of_int hb ?_)⟩)⟩
  exact wpP_pure (h _ _ _ D₁ hs)

theorem maps_refuse {x : PySem.Str} {t : Tok} {Q : Option Value → Shared → Prop} (hh : A.handled = none) (D : Maps s.heap m2 T2 m1 T1 it l items i) (hx : items[i]? = some (.str x t)) (hn : PySem.intText? x = none) (hl : x.length ≤ 640) (hrl : (reprText x).length ≤ sizeLine)
    (h : ∀ h₁ h' e args tk', Heap.SameBut it s.heap h₁ → Heap.MadeExc h₁ h' e "ValueError" args → E (.ref e) { s with heap := h', toks := tk' }) :
    wpP Cl (model prog w) A (pyNext (.ref m2)) Q E s := by
  unfold pyNext
  refine wpP_bind (wpP_attempt (callSpecialP (name := PySem.Str.ofString "__next__") (args := []) ⟨_, D.a, rfl⟩ map_slot_next ?_))
  refine map_next cl_clo D.a D.b (map_nextOf cl_clo D.c D.d (.of (wpAny_nextOf_list_item D.e D.f hx fun h₁ hi hs => ?_)))
  have D₁ := D.ext hs.extBut hi
  refine ⟨D₁.c, int_refused hh hl hrl hn fun h' tk' e args hm => ?_⟩
  obtain ⟨t', ht, _⟩ := hm.there
  refine wpP_bindA (wpAny_isInstance (T := "ValueError") (b := false) ⟨_, ht, rfl⟩ stop_no_value ?_)
  exact .of (wpAny_throw (h h₁ h' e args _ hs hm))

theorem maps_end (C : Clo Pc) {Q : Option Value → Shared → Prop} (hh : A.handled = none) (D : Maps s.heap m2 T2 m1 T1 it l items i) (hx : items[i]? = none)
    (h : ∀ h', Heap.ExtBut it s.heap h' → Q none { s with heap := h' }) :
    wpP Pc (model prog w) A (pyNext (.ref m2)) Q E s := by
  unfold pyNext
  refine wpP_bind (wpP_attempt (callSpecialP (name := PySem.Str.ofString "__next__") (args := []) ⟨_, D.a, rfl⟩ map_slot_next ?_))
  refine map_next C D.a D.b (map_nextOf C D.c D.d (.of (wpAny_nextOf_list_end hh D.e D.f hx fun h' e hk he => ?_)))
  obtain ⟨o, ho, hc⟩ := he
  refine wpP_bindA (wpAny_isInstance (T := "StopIteration") (b := true) ⟨o, ho, hc⟩ isSubtype_stop ?_)
  exact wpP_pure (h _ hk)

/-- texts that int may be asked of -/
def textOk (x : PySem.Str) : Prop := x.length ≤ 640 ∧ (reprText x).length ≤ sizeLine ∧ ∀ n, PySem.intText? x = some n → n.natAbs.log2 < 1920

theorem maps_loop (hh : A.handled = none) {S : Addr} (s1 : m2 ≠ S) (s2 : T2 ≠ S) (s3 : m1 ≠ S) (s4 : T1 ≠ S) (s5 : it ≠ S) (s6 : l ≠ S) (res : Value) (hsz : items.size ≤ 1000) {R : Result → Shared → Prop} :
    ∀ (rest : List PySem.Str) (i : Nat) (acc : List Value) (c : Nat) (s : Shared), Maps s.heap m2 T2 m1 T1 it l items i → (∀ k x, rest[k]? = some x → ∃ t, items[i + k]? = some (.str x t)) → items.size = i + rest.length → acc.length = i → (∀ x ∈ rest, textOk x) →
    s.heap.get? S = some (lstObj acc c) →
    (∀ h' tk' vs c' ns, ints? rest = some ns → (∀ b o, b ≠ it → b ≠ S → s.heap.get? b = some o → h'.get? b = some o) → h'.get? S = some (lstObj (acc ++ vs) c') → DAll prog w [] vs (ns.map fun n => .str (PySem.Str.ofString (toString n))) → R (.ok (.ret res)) { s with heap := h', toks := tk' }) →
    (∀ h₁ h' tk' e args, ints? rest = none → (∀ b o, b ≠ it → b ≠ S → s.heap.get? b = some o → h₁.get? b = some o) → Heap.MadeExc h₁ h' e "ValueError" args → R (.error (.ref e)) { s with heap := h', toks := tk' }) →
    codeP Cl (model prog w) A (.builtin "list.extend.loop" ⟨[.ref S, .ref m2, res], []⟩) R s := by
  intro rest
  induction rest with
  | nil =>
    intro i acc c s D hr hi ha hok hS hR hE
    refine codeP_builtin cl_clo F.entry_extend_loop ?_
    rw [Around.under_plainId F.plain_extend_loop _]
    show wpP Cl _ A.in1 (pyNext (.ref m2) >>= _) _ _ s
    refine wpP_bind (maps_end cl_clo hh D (Array.getElem?_eq_none (by simp at hi; omega)) fun h' hk => wpP_pure ?_)
    exact hR h' _ [] c [] rfl (fun b o hb _ e => hk b o hb e) (by rw [List.append_nil]; exact hk _ _ (Ne.symm s5) hS) .nil
  | cons x rest ih =>
    intro i acc c s D hr hi ha hok hS hR hE
    obtain ⟨t, ht⟩ := hr 0 x rfl
    have ox := hok x (.head _)
    refine codeP_builtin cl_clo F.entry_extend_loop ?_
    rw [Around.under_plainId F.plain_extend_loop _]
    show wpP Cl _ A.in1 (pyNext (.ref m2) >>= _) _ _ s
    cases hn : PySem.intText? x with
    | none =>
      refine wpP_bind (maps_refuse hh D ht hn ox.1 ox.2.1 fun h₁ h' e args tk' hs hm => ?_)
      exact hE h₁ h' _ e args (by simp [ints?, hn]) (fun b o hb _ q => hs.extBut b o hb q) hm
    | some n =>
      refine wpP_bind (maps_turn cl_clo D ht hn ox.1 (ox.2.2 n hn) fun h' tk tk' D' hs => ?_)
      have hS' : h'.get? S = some (lstObj acc c) := hs.extBut _ _ (Ne.symm s5) hS
      show wpP Cl _ A.in1 (updateSeq S (·.push (.str (PySem.Str.ofString (toString n)) tk)) >>= _) _ _ _
      have hlen : acc.length + 1 ≤ 1000 := by simp at hi; omega
      have up := Heap.get?_update_self (Obj.mapSeq (·.push (Value.str (PySem.Str.ofString (toString n)) tk))) hS' rfl
      have oth : ∀ b o, b ≠ S → h'.get? b = some o → (h'.update S (Obj.mapSeq (·.push (Value.str (PySem.Str.ofString (toString n)) tk)))).get? b = some o := fun b o hb e => (Heap.get?_update_other _ _ (Ne.symm hb)).trans e
      have e1 : acc.toArray.push (Value.str (PySem.Str.ofString (toString n)) tk) = (acc ++ [Value.str (PySem.Str.ofString (toString n)) tk]).toArray := by simp
      refine wpP_bindA (wpAny_updateSeq hS' rfl (wpP_pure ⟨plainId_quiet F.plain_extend_loop _, ?_⟩) (by rw [List.size_toArray]; exact fits1000 (by omega)) (by rw [Array.size_push, List.size_toArray]; exact Nat.le_succ_of_le (fits1000 hlen)))
      refine ih (i + 1) (acc ++ [Value.str (PySem.Str.ofString (toString n)) tk]) _ _ (D'.frame oth s1 s2 s3 s4 s5 s6) (fun k y hk => by obtain ⟨t', h'⟩ := hr (k + 1) y hk; exact ⟨t', by rw [← h']; congr 1; omega⟩) (by simp at hi; omega) (by simp [ha]) (fun y hy => hok y (.tail _ hy)) (by rw [up]; show some ({ cls := _, data := .seq (acc.toArray.push _) _ } : Obj) = some _; rw [e1]) (fun h₂ tk₂ vs c' ns e2 k2 S2 d2 => ?_) fun h₁ h₂ tk₂ e args e2 k2 hm => ?_
      · refine hR h₂ tk₂ (.str (PySem.Str.ofString (toString n)) tk :: vs) c' (n :: ns) (by simp [ints?, hn, e2]) (fun b o hb hS0 q => k2 b o hb hS0 (oth b o hS0 (hs.extBut b o hb q))) (by rw [S2, List.append_assoc]; rfl) (.cons (.str _ _) d2)
      · exact hE h₁ h₂ tk₂ e args (by simp [ints?, hn, e2]) (fun b o hb hS0 q => k2 b o hb hS0 (oth b o hS0 (hs.extBut b o hb q))) hm
end
end Mine

namespace Mine
open PySem PySem.W PyProof.Rows PySem.Spec PySem.Calls PyProof.Rows.LCg PySem.NumText

section
variable {Pc : PySem.Ctx → Prop} {M : Model} {A : Around} {E : Value → Shared → Prop} {s : Shared} {env : Env}

theorem wpP_keep {α : Type} {vs : List Value} {m : Sem α} {Q : α → Shared → Prop} (h : wpP Pc M A m Q E s) : wpP Pc M A (m.keep vs) Q E s :=
  fun Γ p hΓ hc => by rw [Sem.wp_keep]; exact h Γ p hΓ hc
theorem wpP_point {Q : Unit → Shared → Prop} (h : Q () s) : wpP Pc M A point Q E s := .of (wpAny_point h)

theorem callWith_ofP {pos : Pos} {f : Value} {first : List Value} {Q : Value → Shared → Prop} {P : Heap → Prop} {args : List (Bool × Sem Value)} (hplain : args.any (·.1) = false)
    (hk : ∀ h, P h → ∃ k, (k = Keeper.frame ∨ k = Keeper.machine ∨ k = Keeper.boundFrame) ∧ Looks M h (keeperOf f) k)
    (h : wpP Pc M A (evalArgs f true args []) (fun a s₁ => P s₁.heap ∧ wpP Pc M A (call f (first ++ a.pos) a.kw) Q E s₁) E s) : wpP Pc M A (callWith pos f first args []) Q E s := by
  unfold callWith
  refine wpP_bind (wpP_holding (wpP_mono h (fun a s₁ h₁ => wpP_bind (wpP_standAt ?_)) fun _ _ x => x))
  obtain ⟨k, hk', L⟩ := hk _ h₁.1
  simp only [hplain, List.any_nil, Bool.or_false]
  refine wpP_bindA (L.here ?_)
  have tail : ∀ {t : Sem Value}, wpP Pc M A t Q E s₁ → wpP Pc M A (t >>= fun r => holding [r] point >>= fun _ => pure r) Q E s₁ :=
    fun ht => wpP_bind (wpP_mono ht (fun r s₂ hr => wpP_bind (wpP_holding (wpP_point (wpP_pure hr)))) fun _ _ x => x)
  have marked (mk : Value) : wpP Pc M A (callMarked mk f (first ++ a.pos) a.kw) Q E s₁ := by unfold callMarked; exact wpP_keep h₁.2
  rcases hk' with rfl | rfl | rfl <;> dsimp only <;> first | exact tail h₁.2 | (split <;> first | exact tail h₁.2 | exact tail (marked _))
theorem callWith_typeP {pos : Pos} {T : String} {Q : Value → Shared → Prop} {args : List (Bool × Sem Value)} (hplain : args.any (·.1) = false)
    (h : wpP Pc M A (evalArgs (.type T) true args []) (fun a s₁ => wpP Pc M A (call (.type T) a.pos a.kw) Q E s₁) E s) : wpP Pc M A (callWith pos (.type T) [] args []) Q E s := by
  unfold callWith
  refine wpP_bind (wpP_holding (wpP_mono h (fun a s₁ h₁ => wpP_bind (wpP_standAt ?_)) fun _ _ x => x))
  simp only [hplain, List.any_nil, Bool.or_false]
  refine wpP_bind (wpP_pure ?_)
  exact wpP_bind (wpP_mono h₁ (fun r s₂ hr => wpP_bind (wpP_holding (wpP_point (wpP_pure hr)))) fun _ _ x => x)
theorem callWith_builtinP {pos : Pos} {id : String} {first : List Value} {Q : Value → Shared → Prop} {args : List (Bool × Sem Value)} (hplain : args.any (·.1) = false)
    (h : wpP Pc M A (evalArgs (.builtin id) true args []) (fun a s₁ => wpP Pc M A (call (.builtin id) (first ++ a.pos) a.kw) Q E s₁) E s) : wpP Pc M A (callWith pos (.builtin id) first args []) Q E s := by
  unfold callWith
  refine wpP_bind (wpP_holding (wpP_mono h (fun a s₁ h₁ => wpP_bind (wpP_standAt ?_)) fun _ _ x => x))
  simp only [hplain, List.any_nil, Bool.or_false]
  refine wpP_bind (wpP_pure ?_)
  exact wpP_bind (wpP_mono h₁ (fun r s₂ hr => wpP_bind (wpP_holding (wpP_point (wpP_pure hr)))) fun _ _ x => x)
theorem evalArgs_plainP {f : Value} {x : Sem Value} {rest : List (Bool × Sem Value)} {Q : Args → Shared → Prop}
    (h : wpP Pc M A (spliced ((false, x) :: rest)) (fun vs s' => Q ⟨vs, []⟩ s') E s) : wpP Pc M A (evalArgs f true ((false, x) :: rest) []) Q E s := by
  unfold evalArgs
  show wpP Pc M A (spliced ((false, x) :: rest) >>= _) Q E s
  refine wpP_bind (wpP_mono h (fun vs s' h' => ?_) fun _ _ x => x)
  refine wpP_holding ?_
  exact wpP_bind (wpP_pure (wpP_bind (wpP_pure (wpP_pure h'))))
theorem spliced_oneP {x : Sem Value} {Q : List Value → Shared → Prop} (h : wpP Pc M A x (fun v s₁ => Q [v] s₁) E s) : wpP Pc M A (spliced [(false, x)]) Q E s := by
  rw [spliced]
  refine wpP_bind (wpP_mono h (fun v s₁ h₁ => ?_) fun _ _ x => x)
  simp only [Bool.false_eq_true, if_false]
  exact wpP_bind (wpP_pure (wpP_bind (wpP_holding (wpP_pure (wpP_pure h₁)))))
theorem wpP_Call_NameR {id : PySem.Str} {p pos : Pos} {args : List PySem.Expr} {Q : Value → Shared → Prop}
    (h : wpAny M A (eval (.Name id p) env) (fun f s₁ => wpP Pc M A (callWith pos f [] (backTo pos (starEach args env)) []) Q E s₁) E s) :
    wpP Pc M A (eval (.Call (.Name id p) args [] pos) env) Q E s := by
  show wpP Pc M A (do callWith pos (← eval (.Name id p) env) [] (backTo pos (starEach args env)) (backToKw pos (keywordEach [] env))) Q E s
  exact wpP_bindA h
theorem wpP_Assign_Name {x pos' value pos} {Q : Flow → Shared → Prop}
    (h : wpP Pc M A (eval value env) (fun v s₁ => wpAny M A (storeName env x v) (fun _ => Q .next) E s₁) E s)
    (hs : swapsWith value (some (.Name x pos')) pos.line env = pure false := by rfl) :
    wpP Pc M A (exec (.Assign [.Name x pos'] value pos) env) Q E s := fun Γ p hΓ hc => by
  simp only [exec_Assign_Name env x pos' value pos hs, Sem.wp_bind', Sem.wp_cmd_standAt, Sem.wp_bindName, Sem.wp_pure']
  exact Sem.wp_mono M Γ _ (fun v _ s₁ h₁ => h₁ Γ _ hΓ) (fun _ _ _ h' => h') _ _ (h Γ _ hΓ hc)
theorem wpP_Assign_stores {targets : List PySem.Expr} {value : PySem.Expr} {pos : Pos} {Q : Flow → Shared → Prop}
    (h : wpP Pc M A (eval value env) (fun v s₁ => wpAny M A (assignAll v ((assignEach targets env).map (·.2))) (fun _ => Q .next) E s₁) E s)
    (hs : swapsWithSole targets value pos.line env = pure false) (hw : swappedStores targets value env = pure none) :
    wpP Pc M A (exec (.Assign targets value pos) env) Q E s := by
  rw [exec_Assign_arm]
  refine wpP_bind (wpP_standAt ?_)
  rw [hs]
  refine wpP_bind (wpP_pure ?_)
  rw [if_neg (by decide)]
  refine wpP_bind (wpP_mono h (fun v s₁ h₁ => ?_) fun _ _ x => x)
  rw [hw]
  refine wpP_bind (wpP_pure ?_)
  show wpP Pc M A (do assignAll v ((assignEach targets env).map (·.2)); pure .next) Q E s₁
  exact wpP_bindA (wpAny_mono h₁ (fun _ _ x => wpP_pure x) fun _ _ x => x)
theorem wpP_tryStmt {body orelse : Sem Flow} {h₀ : ExceptHandler} {hs : List ExceptHandler} {Q : Flow → Shared → Prop}
    (h : wpP Pc M A body (fun f s₁ => match f with | .next => wpP Pc M A orelse Q E s₁ | f => Q f s₁)
      (fun e s₁ => wpAny M A (noteFrame e env) (fun _ s₂ => wpAny M A (setFlight e none) (fun _ s₃ => wpAny M A (handleBy e env (h₀ :: hs)) Q E s₃) E s₂) E s₁) s) :
    wpP Pc M A (tryStmt false body (h₀ :: hs) orelse [] env) Q E s := by
  unfold tryStmt
  simp only [List.isEmpty_nil, if_true, List.isEmpty_cons, Bool.false_and, Bool.false_eq_true, if_false]
  refine wpP_bind (wpP_attempt (wpP_mono h (fun f s₁ h₁ => ?_) fun e s₁ h₁ => ?_))
  · cases f <;> first | exact h₁ | exact wpP_pure h₁
  · exact .of (wpAny_bind (wpAny_mono h₁ (fun _ _ h₂ => wpAny_bind h₂) fun _ _ x => x))
theorem wpP_Try {body orelse : List Stmt} {h₀ : ExceptHandler} {hs : List ExceptHandler} {pos : Pos} {Q : Flow → Shared → Prop}
    (h : wpP Pc M A (execs body env) (fun f s₁ => match f with | .next => wpP Pc M A (execs orelse env) Q E s₁ | f => Q f s₁)
      (fun e s₁ => wpAny M A (noteFrame e env) (fun _ s₂ => wpAny M A (setFlight e none) (fun _ s₃ => wpAny M A (handleBy e env (h₀ :: hs)) Q E s₃) E s₂) E s₁) s) :
    wpP Pc M A (exec (.Try body (h₀ :: hs) orelse [] pos) env) Q E s := by
  rw [arm_exec_Try]
  exact wpP_bind (wpP_standAt (wpP_tryStmt h))
end

section
variable {Pc : PySem.Ctx → Prop} {prog : Program} {w : World} {A : Around} {E : Value → Shared → Prop} {s : Shared} {env : Env} {R : Result → Shared → Prop}
theorem wpP_method1 {o e : PySem.Expr} {name : PySem.Str} {apos pos : Pos} {Q : Value → Shared → Prop}
    (hbase : attributeBase o name env (eval o env) = eval o env) (hline : (apos.endLine == pos.line) = true)
    (htrees : backTo pos (starEach [e] env) = [(false, eval e env)])
    (h : wpAny (model prog w) A (eval o env) (fun ov s₁ => ∃ T id, PlainAttrs T ∧ Slot T name id ∧ typeOf (.builtin id) = pure (.type "method_descriptor") ∧ s₁.TypeIs ov T ∧ (∀ a, ov = .ref a → ∃ ob, s₁.heap.get? a = some ob ∧ ob.dict = none) ∧
      wpP Pc (model prog w) A (callWith pos (.builtin id) [ov] [(false, eval e env)] []) Q E s₁) E s) :
    wpP Pc (model prog w) A (eval (.Call (.Attribute o name apos) [e] [] pos) env) Q E s := by
  rw [arm_eval_Call, hbase]
  refine wpP_bindA (wpAny_mono h (fun ov s₁ h₁ => ?_) fun _ _ e => e)
  obtain ⟨T, id, pa, slot, hty, hT, hd, hc⟩ := h₁
  refine wpP_bind (wpP_standAt ?_)
  have hform : methodCallForm ([e].length + ([] : List Keyword).length) (backTo pos (starEach [e] env)) (backToKw pos (keywordEach [] env)) = true := by rw [htrees]; rfl
  have hpos : methodCallPos true o env apos pos = pure pos := by unfold methodCallPos; simp [hline]
  unfold methodCall
  rw [hform]
  refine wpP_bindA (wpAny_holding (getMethod_builtin hT pa slot hty hd ?_))
  rw [htrees]
  exact wpP_bindA (wpAny_of_eq hpos hc)

theorem codeP_call_def (C : Clo Pc) {a : Addr} {o : Obj} {fd : FuncData} {body : List Stmt} {args : Args} {binds : List (PySem.Str × Value)}
    (hroom : A.depth < recursionLimit) (ho : s.heap.get? a = some o) (hdata : o.data = .func fd) (hlim : s.heap.NoLimit) (hcd : s.heap.CodeRec fd.code fd.qualname)
    (hbody : fd.body = .stmts body) (hbind : BindsTo s fd args binds)
    (hcell : ∀ x ∈ fd.scope.names, x.2 ≠ .cell) (hloc : ∀ x ∈ binds, fd.scope.names.lookup x.1 = some .local)
    (h : ∀ h₀, h₀.Ns s.heap.objs.size (fun x => binds.reverse.lookup x) → (∀ b o, s.heap.get? b = some o → h₀.get? b = some o) →
      wpP Pc (model prog w) (A.deeper (callEnv fd s.heap.objs.size a)) (execs body (callEnv fd s.heap.objs.size a)) (fun f s' => R (.ok (.ret (match f with | .ret v => v | _ => .none))) s')
        (fun e s' => False) { s with heap := h₀, toks := s.toks + binds.length })
    (hco : fd.scope.isCoroutine = false := by rfl) (hgen : fd.scope.isGenerator = false := by rfl) (hk : fd.scope.kind = .function := by rfl) :
    codeP Pc (model prog w) A (.call (.ref a) args) R s := by
  refine codeP_of_tree C ?_
  show wpP Pc _ A.in1 (callAny (.ref a) args) _ _ s
  simp only [callAny]
  refine wpP_bindA (wpAny_load ho ?_)
  obtain ⟨c, oc, vs, tq, hc, hoc, hdc, hq⟩ := hcd
  simp only [hdata, callFunction, hco, hgen, hbody, hc]
  refine wpP_bindA (m := field (.ref c) 1) (wpAny_field hoc hdc hq (wpP_bind (wpP_pure ?_)))
  refine wpP_bindA (hbind _ _ _ _ (wpP_bindA ?_))
  rw [← hc]
  refine wpAny_newFunctionEnv hcell hloc (fun h₁ hns hsb => ?_) hk
  refine wpP_bindA (wpAny_enterFrame (hlim.fresh _ hsb) hroom (wpP_pure ⟨rfl, ?_⟩))
  refine codeP_of_tree C ?_
  show wpP Pc _ (A.deeper (callEnv fd s.heap.objs.size a)) (do point; match ← (execs body (callEnv fd s.heap.objs.size a)).onRaise (leaving (callEnv fd s.heap.objs.size a)) with | .ret v => ret v | _ => ret .none) _ _ _
  refine wpP_bind (wpP_point (wpP_bind (wpP_onRaise (wpP_mono (h h₁ hns fun b o e => hsb.extBut b o (Nat.ne_of_lt (Heap.lt_size e)) (Heap.get?_push_of_some _ e)) (fun f s' h' => ?_) fun _ _ h' => h'.elim))))
  cases f <;> exact wpP_pure h'
end
end Mine

namespace Mine
open PySem PySem.W PyProof.Rows PySem.Spec PySem.Calls PyProof.Rows.LCg PySem.NumText

theorem Lay.perm {h₀ h : Heap} {L : Addr} {m : PySem.Str → Option Value} {ext ext' mu im : Led} (l : Lay h₀ L h m ext mu im) (hs : ∀ p ∈ ext', p ∈ ext) : Lay h₀ L h m ext' mu im :=
  ⟨l.F, fun p hp => (List.mem_append.mp hp).elim (fun q => l.N p (List.mem_append.mpr (.inl (hs p q)))) fun q => l.N p (List.mem_append.mpr (.inr q)), fun p hp => l.a1 p (hs p hp), fun p hp => l.a2 p (hs p hp), l.a3⟩
theorem same_addr {a b : Led} (h : TI.SameUp a b) : ∀ q ∈ b, ∃ p ∈ a, q.1 = p.1 := h.fwd
theorem Apart.same {a b c : Led} (h : Apart a c) (s : TI.SameUp a b) : Apart b c := fun p hp q hq e => by
  obtain ⟨p', hp', e'⟩ := same_addr s p hp
  exact h p' hp' q hq (e' ▸ e)
theorem apart_app {a b c : Led} : Apart (a ++ b) c ↔ Apart a c ∧ Apart b c :=
  ⟨fun h => ⟨fun p hp => h p (List.mem_append.mpr (.inl hp)), fun p hp => h p (List.mem_append.mpr (.inr hp))⟩, fun h p hp => (List.mem_append.mp hp).elim (h.1 p) (h.2 p)⟩
theorem NsObj.slots {o : Obj} {m : PySem.Str → Option Value} (h : NsObj o m) (sl : Array (Option Value)) : NsObj { o with slots := sl } m := h

def GvC (W : Wd) (lvl : Nat) (env : Env) (V : Vs) (t : Sem Value) (d : D) : Prop :=
  ∀ (A₀ : Around) (fe : Env) (h₀ : Heap) (outer : List Env) (m : PySem.Str → Option Value) (frs ext mu im : Led) (s : Shared) (Q : Value → Shared → Prop) (E : Value → Shared → Prop),
    Mach W (A₀.deeper env) fe h₀ env.locals lvl → A₀.frames = some outer → TI.Frs outer frs → Apart frs ext → Lay h₀ env.locals s.heap m (ext ++ frs) mu im → Holds W.prog W.w env env.locals m mu im V →
    (∀ v h' tk' frs' im', TI.SameUp frs frs' → Lay h₀ env.locals h' m (ext ++ frs') mu im' → (∀ p ∈ im, p ∈ im') → DIn W.prog W.w im' v d → Q v { s with heap := h', toks := tk' }) →
    wpP Cl (model W.prog W.w) (A₀.deeper env) t Q E s
def ExC (W : Wd) (lvl : Nat) (env : Env) (V : Vs) (t : Sem Flow) (Q : Out → Prop) : Prop :=
  ∀ (A₀ : Around) (fe : Env) (h₀ : Heap) (outer : List Env) (m : PySem.Str → Option Value) (frs ext mu im : Led) (s : Shared) (R : Flow → Shared → Prop) (E : Value → Shared → Prop),
    Mach W (A₀.deeper env) fe h₀ env.locals lvl → A₀.frames = some outer → TI.Frs outer frs → Apart frs ext → Lay h₀ env.locals s.heap m (ext ++ frs) mu im → Holds W.prog W.w env env.locals m mu im V →
    (∀ o f s' frs', Q o → TI.SameUp frs frs' → Ends W env h₀ env.locals (ext ++ frs') im s o f s' → R f s') → wpP Cl (model W.prog W.w) (A₀.deeper env) t R E s
def FnC (W : Wd) (lvl : Nat) (f : Addr) (ds : List D) (d : D) : Prop :=
  ∀ (env : Env) (A₀ : Around) (fe : Env) (h₀ : Heap) (outer : List Env) (m : PySem.Str → Option Value) (frs ext mu im : Led) (s : Shared) (Q : Value → Shared → Prop) (E : Value → Shared → Prop) (vs : List Value),
    env.scope.kind = .function → env.frame = some env.locals → Mach W (A₀.deeper env) fe h₀ env.locals lvl → A₀.frames = some outer → TI.Frs outer frs → Apart frs ext → Lay h₀ env.locals s.heap m (ext ++ frs) mu im → DAll W.prog W.w im vs ds →
    (∀ v h' tk' frs' im', TI.SameUp frs frs' → Lay h₀ env.locals h' m (ext ++ frs') mu im' → (∀ p ∈ im, p ∈ im') → DIn W.prog W.w im' v d → Q v { s with heap := h', toks := tk' }) →
    wpP Cl (model W.prog W.w) (A₀.deeper env) (call (.ref f) vs) Q E s

section
variable {W : Wd} {b : Bool} {lvl : Nat} {env : Env} {V : Vs} {Q : Out → Prop}

theorem Gv.toC {t : Sem Value} {d : D} (h : Gv W true lvl env V t d) : GvC W lvl env V t d := by
  intro A₀ fe h₀ outer m frs ext mu im s Q E M hA hF ap l H k
  exact .of (h (A₀.deeper env) fe h₀ env.locals m (ext ++ frs) mu im s Q E M l H fun v h' tk' im' l' hs hd => k v h' tk' frs im' (TI.SameUp.refl _) l' hs hd)
theorem Ex.toC {t : Sem Flow} (h : Ex W lvl env V t Q) : ExC W lvl env V t Q := by
  intro A₀ fe h₀ outer m frs ext mu im s R E M hA hF ap l H k
  exact .of (h (A₀.deeper env) fe h₀ m (ext ++ frs) mu im s R E M l H fun o f s' hq he => k o f s' frs hq (TI.SameUp.refl _) he)
theorem ExC.mono {t : Sem Flow} {Q' : Out → Prop} (h : ExC W lvl env V t Q) (hq : ∀ o, Q o → Q' o) : ExC W lvl env V t Q' := by
  intro A₀ fe h₀ outer m frs ext mu im s R E M hA hF ap l H k
  exact h A₀ fe h₀ outer m frs ext mu im s R E M hA hF ap l H fun o f s' frs' q su e => k o f s' frs' (hq o q) su e
theorem ExC.weaken {t : Sem Flow} {V' : Vs} (h : ExC W lvl env V' t Q) (hs : ∀ x d, V'.s.lookup x = some d → V.s.lookup x = some d) (hu : ∀ x d, V'.u = some (x, d) → V.u = some (x, d)) : ExC W lvl env V t Q := by
  intro A₀ fe h₀ outer m frs ext mu im s R E M hA hF ap l H k
  exact h A₀ fe h₀ outer m frs ext mu im s R E M hA hF ap l (H.weaken hs hu) k
theorem ExC.nil (h : Q (.next V)) : ExC W lvl env V (execs [] env) Q := (Ex.nil h).toC
theorem ExC.cons {st : Stmt} {rest : List Stmt} (h : ExC W lvl env V (exec st env) fun o => match o with | .next V' => ExC W lvl env V' (execs rest env) Q | .ret d => Q (.ret d)) : ExC W lvl env V (execs (st :: rest) env) Q := by
  intro A₀ fe h₀ outer m frs ext mu im s R E M hA hF ap l H k
  refine wpP_execs_cons (h A₀ fe h₀ outer m frs ext mu im s _ E M hA hF ap l H fun o f s' frs' hq su he => ?_)
  obtain ⟨h', tk', m', mu', im', rfl, l', hs, r⟩ := he
  cases o with
  | next V' =>
    cases f with
    | next => exact hq A₀ fe h₀ outer m' frs' ext mu' im' _ R E M hA (hF.up su) (ap.same su) l' r fun o f s' frs₂ hq' su' he => k o f s' frs₂ hq' (su.trans su') (he.trans hs)
    | _ => exact r.elim
  | ret d =>
    cases f with
    | ret v => exact k _ _ _ frs' hq su ⟨h', tk', m', mu', im', rfl, l', hs, r⟩
    | _ => exact r.elim
theorem ExC.ifs {e : PySem.Expr} {c : Bool} {body orelse : List Stmt} {pos : Pos} (h : Tr W lvl env V e c) (h1 : c = true → ExC W lvl env V (execs body env) Q) (h2 : c = false → ExC W lvl env V (execs orelse env) Q) : ExC W lvl env V (exec (.If e body orelse pos) env) Q := by
  intro A₀ fe h₀ outer m frs ext mu im s R E M hA hF ap l H k
  refine wpP_If (.of (h (A₀.deeper env) fe h₀ _ m (ext ++ frs) mu im s _ E M l H fun h₁ t₁ im₁ l₁ s₁ => ?_))
  cases c with
  | true => exact h1 rfl A₀ fe h₀ outer m frs ext mu im₁ _ R E M hA hF ap l₁ (H.mono s₁) fun o f s' frs' hq su he => k o f s' frs' hq su (he.trans s₁)
  | false => exact h2 rfl A₀ fe h₀ outer m frs ext mu im₁ _ R E M hA hF ap l₁ (H.mono s₁) fun o f s' frs' hq su he => k o f s' frs' hq su (he.trans s₁)
theorem ExC.asg {x : PySem.Str} {xp pos : Pos} {e : PySem.Expr} {d : D} (he : EnvOk env) (hx : env.kindOf x = some .local) (h : GvC W lvl env V (eval e env) d) (hu : ∀ y e, V.u = some (y, e) → y ≠ x) (hq : Q (.next { V with s := (x, d) :: V.s }))
    (hs : swapsWith e (some (.Name x xp)) pos.line env = pure false := by rfl) : ExC W lvl env V (exec (.Assign [.Name x xp] e pos) env) Q := by
  intro A₀ fe h₀ outer m frs ext mu im s R E M hA hF ap l H k
  refine wpP_Assign_Name (h A₀ fe h₀ outer m frs ext mu im s _ E M hA hF ap l H fun v h₁ t₁ frs₁ im₁ su l₁ s₁ hd => ?_) hs
  exact storeL he l₁ (H.mono s₁) hx hd hu fun h' tk' m' l' H' => k _ _ _ frs₁ hq su ⟨h', tk', m', mu, im₁, rfl, l', s₁, H'⟩
theorem ExC.asgT {xs : List (PySem.Str × Pos)} {kd : Nat} {tp pos : Pos} {e : PySem.Expr} {ds : List D} (he : EnvOk env) (h : GvC W lvl env V (eval e env) (.tuple ds)) (hx : ∀ p ∈ xs, env.kindOf p.1 = some .local) (hu : ∀ p ∈ xs, ∀ y e, V.u = some (y, e) → y ≠ p.1) (hl : xs.length = ds.length)
    (hq : Q (.next { V with s := putAll V.s (xs.map (·.1)) ds })) (hs : swapsWithSole [.Tuple (xs.map fun p => PySem.Expr.Name p.1 p.2) kd tp] e pos.line env = pure false) (hw : swappedStores [.Tuple (xs.map fun p => PySem.Expr.Name p.1 p.2) kd tp] e env = pure none) :
    ExC W lvl env V (exec (.Assign [.Tuple (xs.map fun p => PySem.Expr.Name p.1 p.2) kd tp] e pos) env) Q := by
  intro A₀ fe h₀ outer m frs ext mu im s R E M hA hF ap l H k
  refine wpP_Assign_stores (h A₀ fe h₀ outer m frs ext mu im s _ E M hA hF ap l H fun v h₁ t₁ frs₁ im₁ su l₁ s₁ hd => ?_) hs hw
  cases hd with
  | tuple hm r =>
  have hea : ((assignEach [PySem.Expr.Tuple (xs.map fun p => PySem.Expr.Name p.1 p.2) kd tp] env).map (·.2)) = [assign (.Tuple (xs.map fun p => PySem.Expr.Name p.1 p.2) kd tp) env] := by
    rw [assignEach, assignEach]; rfl
    intro a b h; cases h
  rw [hea]
  exact unpackT (W := W) he M.hh l₁ (H.mono s₁) (DIn.isTuple l₁.nIm hm) r hx hu hl fun h' tk' m' l' H' => k _ _ _ frs₁ hq su ⟨h', tk', m', mu, im₁, rfl, l', s₁, H'⟩

/-- a call of a def whose contract knows the caller -/
theorem EvC.callG {x : PySem.Str} {f : Addr} {e : PySem.Expr} {es : List PySem.Expr} {ds : List D} {d : D} {np pos : Pos} (he : EnvOk env) (hfr : env.frame = some env.locals) (hg : nsIn W.K mainGlobals x = some (some (.ref f))) (hk : keepIn W.K (.ref f) = true) (h : Evs W true lvl env V (e :: es) ds) (hf : FnC W lvl f ds d)
    (hx : env.kindOf x = some .globalImplicit) (hd : (x == ("__debug__" : PySem.Str)) = false := by decide) : GvC W lvl env V (eval (.Call (.Name x np) (e :: es) [] pos) env) d := by
  intro A₀ fe h₀ outer m frs ext mu im s Q E M hA hF ap l H k
  refine wpP_Call_NameR (nameG_K l.F M.X (topRead_of M.T) hg ?_ he.g he.k hx hd)
  have hp : (backTo pos (starEach es env)).any (·.1) = false := by
    cases h with
    | cons h r hs => exact r.plain pos
  have hse := starEach_ne h rfl
  have key := h.run pos (A₀.deeper env) fe h₀ env.locals m (ext ++ frs) mu im s (fun vs s₁ => W.K.In s₁.heap ∧ wpP Cl (model W.prog W.w) (A₀.deeper env) (call (.ref f) ([] ++ vs)) Q E s₁) E M l H fun vs h₁ t₁ im₁ l₁ s₁ hds => ⟨M.X.keeps l₁.F.keep, ?_⟩
  · rw [hse] at key ⊢
    exact callWith_ofP (by show (false || (backTo pos (starEach es env)).any (·.1)) = false; rw [hp]; rfl) (keeps_K hk) (evalArgs_plainP (.of key))
  · exact hf env A₀ fe h₀ outer m frs ext mu im₁ _ Q E vs he.k hfr M hA hF ap l₁ hds fun v h' tk' frs' im' su l' hs hd => k v h' tk' frs' im' su l' (sub_trans s₁ hs) hd
theorem EvC.joinB {sep : PySem.Str} {e : PySem.Expr} {kd : Nat} {cp apos pos : Pos} {xs : List PySem.Str} (h : GvC W lvl env V (eval e env) (.tuple (xs.map D.str))) (hok : (xs.map (·.length)).sum + xs.length * sep.length ≤ 16777216)
    (hline : (apos.endLine == pos.line) = true) (hs : ∀ rest, starEach (e :: rest) env = (false, eval e env) :: starEach rest env := by intro _; rfl) :
    GvC W lvl env V (eval (.Call (.Attribute (.Constant (.str sep) kd cp) "join" apos) [e] [] pos) env) (.str (Txt.join sep xs)) := by
  intro A₀ fe h₀ outer m frs ext mu im s Q E M hA hF ap l H kk
  refine wpP_method1 (by rfl) hline (by rw [hs]; rfl) (wpAny_Constant_str ?_)
  refine ⟨"str", "str.join", F.plainAttrs_str, F.slot_str_join, F.type_str_join, typeIs_str _ _ _, (fun _ e => nomatch e), ?_⟩
  refine callWith_builtinP rfl (evalArgs_plainP (spliced_oneP (h A₀ fe h₀ outer m frs ext mu im _ _ E M hA hF ap l H fun v h₁ t₁ frs₁ im₁ su l₁ s₁ hd' => ?_)))
  cases hd' with
  | tuple hm r => exact .of (PyProof.Rows.join_tuple (DIn.isTup l₁.nIm hm) (strs_are r) hok fun t' k => kk _ _ k frs₁ _ su l₁ s₁ (.str _ _))

theorem FnC.of {f : Addr} {name qual : PySem.Str} {params : Arguments} {body : List Stmt} {scope : Scope} {dV kV doc pm cdv ct oc : Value} {an od : Option Addr} {osl : Array (Option Value)} {ds : List D} {d : D} (xs : List PySem.Str)
    (ho : W.K.lookup f = some ⟨oc, od, .func (fnOf name qual params body scope dV kV doc pm an cdv ct), osl⟩) (hcd : codeIn W.K cdv qual = true)
    (hbind : ∀ s vs, W.K.In s.heap → vs.length = ds.length → BindsTo s (fnOf name qual params body scope dV kV doc pm an cdv ct) ⟨vs, []⟩ (xs.zip vs))
    (hloc : ∀ x ∈ xs, scope.names.lookup x = some .local) (hn : xs.Nodup)
    (h : ∀ L', ExC W lvl (envOf qual scope L' f cdv) { s := xs.zip ds } (execs body (envOf qual scope L' f cdv)) (retIs d))
    (hco : scope.isCoroutine = false) (hgen : scope.isGenerator = false) (hk : scope.kind = .function) (hcell : ∀ x ∈ scope.names, x.2 ≠ .cell) : FnC W (lvl + 1) f ds d := by
  intro env A₀ fe h₀ outer m frs ext mu im s Q E vs hkE hfE M hA hF ap l hds k
  obtain ⟨oL, hL, hN⟩ := ns_obj l.F.ns
  have X := M.X.keeps l.F.keep
  refine wpP_call cl_clo (codeP_call_def cl_clo (R := fun r s' => match r with | .ok (.ret v) => Q v s' | .ok _ => False | .error e => E e s') (fd := fnOf name qual params body scope dV kV doc pm an cdv ct) (body := body) (binds := xs.zip vs) (by have := M.room; omega) (X _ _ ho) rfl (M.T.nolimit.keeps l.F.keep) (codeRec_of X hcd) rfl (hbind s vs X hds.length) hcell (fun y hy => hloc _ (List.of_mem_zip hy).1) (fun h₁ hns hk₁ => ?_) hco hgen hk)
  have l' : Lay h₀ s.heap.objs.size h₁ (fun x => (xs.zip vs).reverse.lookup x) ((ext ++ mu) ++ ((env.locals, oL) :: frs)) [] im := (l.down hL rfl hns hk₁).perm fun p hp => by
    simp only [List.mem_append, List.mem_cons] at hp ⊢
    rcases hp with (h | h) | h | h
    · exact .inr (.inl (.inl h))
    · exact .inr (.inr h)
    · exact .inl h
    · exact .inr (.inl (.inr h))
  have ap' : Apart ((env.locals, oL) :: frs) (ext ++ mu) := fun p hp q hq => by
    rcases List.mem_cons.mp hp with rfl | hp
    · refine Ne.symm (l.N q ?_).2.1
      rcases List.mem_append.mp hq with h | h <;> simp [h]
    · rcases List.mem_append.mp hq with h | h
      · exact ap p hp q h
      · exact l.a1 p (List.mem_append.mpr (.inr hp)) q h
  have F' : TI.Frs (env :: outer) ((env.locals, oL) :: frs) := ⟨by rw [hkE]; decide, hfE, (by obtain ⟨es, ep, hd, _⟩ := hN; exact ⟨es, ep, hd⟩), hF⟩
  refine h s.heap.objs.size (A₀.deeper env) (envOf qual scope s.heap.objs.size f cdv) h₀ (env :: outer) _ ((env.locals, oL) :: frs) (ext ++ mu) [] im _ _ _ (M.callee hk) (Around.frames_deeper hA) F' ap' l' (args_hold rfl (fun x hx => hloc x hx) hn hds) fun o fl s' frs₂ hq su he => ?_
  obtain ⟨h₂, t₂, m₂, mu₂, im₂, rfl, l₂, hs₂, r⟩ := he
  cases o with
  | next V' => exact hq.elim
  | ret d' =>
    obtain rfl : d' = d := hq
    cases fl with
    | ret v =>
      cases frs₂ with
      | nil => exact su.elim
      | cons q₀ frs₃ =>
        obtain ⟨e1, ⟨sl, e2⟩, su'⟩ := su
        have hq0 : q₀ = (env.locals, { oL with slots := sl }) := by rw [show q₀ = (q₀.1, q₀.2) from rfl, e1, e2]
        subst hq0
        have out : ∀ p ∈ (ext ++ mu) ++ ((env.locals, ({ oL with slots := sl } : Obj)) :: frs₃), ∀ q ∈ mu₂ ++ im₂, p.1 ≠ q.1 := fun p hp q hq => (List.mem_append.mp hq).elim (l₂.a1 p hp q) (l₂.a2 p hp q)
        have hself : (env.locals, ({ oL with slots := sl } : Obj)) ∈ (ext ++ mu) ++ ((env.locals, ({ oL with slots := sl } : Obj)) :: frs₃) := by simp
        refine k v h₂ t₂ frs₃ (mu₂ ++ im₂) su' ⟨⟨(NsObj.slots hN sl).ns (l₂.nExt _ hself).1, l₂.F.keep, l.F.above⟩, fun p hp => ?_, ?_, fun p hp q hq => out p ?_ q hq, fun p hp q hq => out p (by simp [hp]) q hq⟩ (fun p hp => List.mem_append.mpr (.inr (hs₂ p hp))) r
        · have neL : p.1 ≠ env.locals := by
            simp only [List.mem_append] at hp
            rcases hp with (h | h) | h | h
            · exact (l.N p (by simp [h])).2.1
            · obtain ⟨p', hp', e⟩ := same_addr su' p h
              rw [e]; exact (l.N p' (by simp [hp'])).2.1
            · exact (l.N p (by simp [h])).2.1
            · exact fun e => out _ hself p (List.mem_append.mpr h) e.symm
          have q := l₂.N p (by
            simp only [List.mem_append, List.mem_cons] at hp ⊢
            rcases hp with (h | h) | h | h
            · exact .inl (.inl (.inl h))
            · exact .inl (.inr (.inr h))
            · exact .inl (.inl (.inr h))
            · exact .inr h)
          exact ⟨q.1, neL, q.2.2⟩
        · exact apart_app.mpr ⟨(apart_app.mp l.a1).1, (apart_app.mp l.a1).2.same su'⟩
        · simp only [List.mem_append, List.mem_cons] at hp ⊢
          rcases hp with h | h
          · exact .inl (.inl h)
          · exact .inr (.inr h)
    | _ => exact r.elim
end
end Mine

namespace Mine
open PySem PySem.W PyProof.Rows PySem.Spec PySem.Calls PyProof.Rows.LCg PySem.NumText

/-- a value, or a refusal -/
def GvR (W : Wd) (lvl : Nat) (env : Env) (V : Vs) (t : Sem Value) (o : Option D) : Prop :=
  ∀ (A : Around) (fe : Env) (h₀ : Heap) (m : PySem.Str → Option Value) (ext mu im : Led) (s : Shared) (Q : Value → Shared → Prop) (E : Value → Shared → Prop),
    Mach W A fe h₀ env.locals lvl → Lay h₀ env.locals s.heap m ext mu im → Holds W.prog W.w env env.locals m mu im V →
    (∀ d v h' tk' im', o = some d → Lay h₀ env.locals h' m ext mu im' → (∀ p ∈ im, p ∈ im') → DIn W.prog W.w im' v d → Q v { s with heap := h', toks := tk' }) →
    (∀ h₁ h' tk' im' e args, o = none → Lay h₀ env.locals h₁ m ext mu im' → (∀ p ∈ im, p ∈ im') → Heap.MadeExc h₁ h' e "ValueError" args → E (.ref e) { s with heap := h', toks := tk' }) →
    wpP Cl (model W.prog W.w) A t Q E s
/-- statements of a handler -/
def ExH (W : Wd) (env : Env) (V : Vs) (t : Sem Flow) (Q : Out → Prop) : Prop :=
  ∀ (A : Around) (h₀ : Heap) (m : PySem.Str → Option Value) (ext mu im : Led) (s : Shared) (R : Flow → Shared → Prop) (E : Value → Shared → Prop),
    Lay h₀ env.locals s.heap m ext mu im → Holds W.prog W.w env env.locals m mu im V →
    (∀ o f s', Q o → Ends W env h₀ env.locals ext im s o f s' → R f s') → wpAny (model W.prog W.w) A t R E s

/-- the text has no ValueError of its own -/
structure VeFree (W : Wd) : Prop where
  a : ("ValueError" : PySem.Str) ∉ W.loose
  b : ("ValueError" : PySem.Str) ∉ (recsOf W.p).map (·.name)
  c : ("ValueError" : PySem.Str) ∉ (litsOf W.p).map (·.1)
  d : ("ValueError" : PySem.Str) ∉ (clssOf W.p W.loose).map (·.name)

section
variable {W : Wd} {b : Bool} {lvl : Nat} {env : Env} {V : Vs} {Q : Out → Prop}

theorem ExH.pass {pos : Pos} (hq : Q (.next V)) : ExH W env V (execs [.Pass pos] env) Q := by
  intro A h₀ m ext mu im s R E l H k
  exact wpAny_execs_cons (wpAny_Pass (wpAny_execs_nil (k _ _ _ hq ⟨s.heap, s.toks, m, mu, im, rfl, l, sub_refl, H⟩)))
theorem ExH.alias {x y : PySem.Str} {xp yp pos : Pos} {d : D} (he : EnvOk env) (hx : env.kindOf x = some .local) (hy : V.s.lookup y = some d) (hu : ∀ y e, V.u = some (y, e) → y ≠ x) (hq : Q (.next { V with s := (x, d) :: V.s })) (hd : (y == ("__debug__" : PySem.Str)) = false := by decide)
    (hs : swapsWith (.Name y yp) (some (.Name x xp)) pos.line env = pure false := by rfl) : ExH W env V (execs [.Assign [.Name x xp] (.Name y yp) pos] env) Q := by
  intro A h₀ m ext mu im s R E l H k
  obtain ⟨v, hv, hd'⟩ := H.s y d hy
  refine wpAny_execs_cons (wpAny_Assign_Name (wpAny_Name (hv.load he.k l ?_) hd) hs)
  exact storeL he l H hx hd' hu fun h' tk' m' l' H' => wpAny_execs_nil (k _ _ _ hq ⟨h', tk', m', mu, im, rfl, l', sub_refl, H'⟩)

/-- the own object becomes a datum -/
theorem Holds.settle {L : Addr} {m : PySem.Str → Option Value} {h₀ h : Heap} {ext mu im : Led} {x : PySem.Str} {d : D} (hL : env.locals = L) (l : Lay h₀ L h m ext mu im) (H : Holds W.prog W.w env L m mu im V) (hu : V.u = some (x, d)) (hx : env.kindOf x = some .local) (hs : ∀ p ∈ V.s, env.kindOf p.1 = some .local) :
    Holds W.prog W.w env L m [] (mu ++ im) { s := (x, d) :: V.s } := by
  have fix : ∀ y v, env.kindOf y = some .local → Var env L m mu y v → Var env L m [] y v := by
    intro y v hy hv
    cases hv with
    | loc a b c => exact .loc a b c
    | comp a b c d => exact absurd hL (l.nMu _ a).2.1
    | cell a b c d => rw [hy] at a; cases a
  have keys : ∀ (s : List (PySem.Str × D)) y e, s.lookup y = some e → (y, e) ∈ s := by
    intro s
    induction s with
    | nil => intro y e h; cases h
    | cons p s ih =>
      intro y e h
      rw [List.lookup_cons] at h
      by_cases hy : y = p.1
      · subst hy; simp at h; subst h; exact .head _
      · simp [show (y == p.1) = false from beq_eq_false_iff_ne.mpr hy] at h
        exact .tail _ (ih y e h)
  refine ⟨fun y e he => ?_, fun _ _ h => nomatch h⟩
  rw [List.lookup_cons] at he
  by_cases hy : y = x
  · subst hy
    simp at he
    subst he
    obtain ⟨v, hv, ho⟩ := H.u y d hu
    exact ⟨v, fix y v hx hv, ho.dIn⟩
  · simp [show (y == x) = false from beq_eq_false_iff_ne.mpr hy] at he
    obtain ⟨v, hv, hd⟩ := H.s y e he
    exact ⟨v, fix y v (hs _ (keys _ _ _ he)) hv, hd.mono fun p hp => List.mem_append.mpr (.inr hp)⟩
theorem ExC.settle {t : Sem Flow} {x : PySem.Str} {d : D} (h : ExC W lvl env { s := (x, d) :: V.s } t Q) (hu : V.u = some (x, d)) (hx : env.kindOf x = some .local) (hs : ∀ p ∈ V.s, env.kindOf p.1 = some .local) : ExC W lvl env V t Q := by
  intro A₀ fe h₀ outer m frs ext mu im s R E M hA hF ap l H k
  exact h A₀ fe h₀ outer m frs ext [] (mu ++ im) s R E M hA hF ap l.settle (H.settle rfl l hu hx hs) fun o f s' frs' hq su he => k o f s' frs' hq su (by
    obtain ⟨h', tk', m', mu', im', e, l', k', r⟩ := he
    exact ⟨h', tk', m', mu', im', e, l', fun p hp => k' p (List.mem_append.mpr (.inr hp)), r⟩)

/-- int of a text -/
theorem EvR.int {x : PySem.Str} {e : PySem.Expr} {np pos : Pos} {b : Bool} (he : EnvOk env) (hg : nsIn W.K mainGlobals "int" = some none) (hv : bootBuiltins "int" = some (.type "int")) (h : Ev W b lvl env V e (.str x)) (ok : textOk x)
    (hx : env.kindOf "int" = some .globalImplicit) (hs : ∀ rest, starEach (e :: rest) env = (false, eval e env) :: starEach rest env := by intro _; rfl) :
    GvR W lvl env V (eval (.Call (.Name "int" np) [e] [] pos) env) ((PySem.intText? x).map D.int) := by
  intro A fe h₀ m ext mu im s Q E M l H k1 k2
  refine wpP_Call_NameR (nameB M l.F he hg hv (by decide) hx (by decide) ?_)
  rw [hs]
  refine callWith_typeP rfl (evalArgs_plainP (spliced_oneP (.of (h A fe h₀ _ m ext mu im s _ E M l H fun v h₁ t₁ im₁ l₁ s₁ hd => ?_))))
  cases hd
  cases hn : PySem.intText? x with
  | none => exact int_refused M.hh ok.1 ok.2.1 hn fun h' tk' e args hm => k2 h₁ h' tk' im₁ e args (by rw [hn]; rfl) l₁ s₁ hm
  | some n => exact .of (KIN.call_text hn ok.1 (k1 (.int n) _ h₁ _ im₁ (by rw [hn]; rfl) l₁ s₁ (.int _ _)))

theorem subst_env {qual : PySem.Str} {scope : Scope} {L f : Addr} {cdv : Value} : (envOf qual scope L f cdv).locals = L := rfl

/-- try: x = e, except ValueError: .., else: .. -/
theorem ExC.tryV {qual : PySem.Str} {scope : Scope} {L f : Addr} {cdv : Value} {x : PySem.Str} {xp ap np hp pos : Pos} {e : PySem.Expr} {b₀ : Stmt} {suite orelse : List Stmt} {o : Option D} (ve : VeFree W) (hk : scope.kind = .function) (hx : scope.names.lookup x = some .local) (hve : (envOf qual scope L f cdv).kindOf "ValueError" = some .globalImplicit)
    (h : GvR W lvl (envOf qual scope L f cdv) V (eval e (envOf qual scope L f cdv)) o) (hu : ∀ y e, V.u = some (y, e) → y ≠ x)
    (h1 : ∀ d, o = some d → ExC W lvl (envOf qual scope L f cdv) { V with s := (x, d) :: V.s } (execs orelse (envOf qual scope L f cdv)) Q)
    (h2 : o = none → ExH W (envOf qual scope L f cdv) V (execs (b₀ :: suite) (envOf qual scope L f cdv)) Q)
    (hs : swapsWith e (some (.Name x xp)) ap.line (envOf qual scope L f cdv) = pure false := by rfl) :
    ExC W lvl (envOf qual scope L f cdv) V (exec (.Try [.Assign [.Name x xp] e ap] [.ExceptHandler (some (.Name "ValueError" np)) none (b₀ :: suite) hp] orelse [] pos) (envOf qual scope L f cdv)) Q := by
  intro A₀ fe h₀ outer m frs ext mu im s R E M hA hF ap' l H k
  refine wpP_mono (E := fun _ _ => False) ?_ (fun _ _ q => q) fun _ _ q => q.elim
  refine wpP_Try (wpP_execs_cons (wpP_Assign_Name (h _ fe h₀ m (ext ++ frs) mu im s _ _ M l H (fun d v h₁ t₁ im₁ ho l₁ s₁ hd => ?_) fun h₁ h' tk' im₁ e₁ args ho l₁ s₁ hm => ?_) hs))
  · refine storeL (W := W) (envOk hk) l₁ (H.mono s₁) hx hd hu fun h₂ tk₂ m₂ l₂ H₂ => .of (wpAny_execs_nil ?_)
    exact h1 d ho A₀ fe h₀ outer m₂ frs ext mu im₁ _ R _ M hA hF ap' l₂ H₂ fun o f s' frs' hq su he => k o f s' frs' hq su (he.trans s₁)
  · have hap : ∀ p ∈ ext ++ (mu ++ im₁), p.1 ∉ L :: frs.map (·.1) := by
      intro p hp hm
      rcases List.mem_cons.mp hm with e | hm
      · exact (l₁.N p (by simp only [List.mem_append] at hp ⊢; rcases hp with h | h | h; exact .inl (.inl h); exact .inr (.inl h); exact .inr (.inr h))).2.1 e
      · obtain ⟨q, hq, e⟩ := List.mem_map.mp hm
        simp only [List.mem_append] at hp
        rcases hp with h | h | h
        · exact ap' q hq p h e
        · exact l₁.a1 q (List.mem_append.mpr (.inr hq)) p h e
        · exact l₁.a2 q (List.mem_append.mpr (.inr hq)) p h e
    have N₁ : News h₀ L h₁ ((ext ++ (mu ++ im₁)) ++ frs) := fun p hp => l₁.N p (by simp only [List.mem_append] at hp ⊢; rcases hp with (h | h | h) | h; exact .inl (.inl h); exact .inr (.inl h); exact .inr (.inr h); exact .inl (.inr h))
    refine TLg.noted_newA (new := ext ++ (mu ++ im₁)) hA hF hm.newExc l₁.F N₁ hap (fun h₂ frs₂ su Fs Hd => ?_) hk
    refine Hd.land fun h₃ Hd₃ => ?_
    refine TT.clause_hitTN (x := "ValueError") Hd₃ M.T (by decide +kernel) ve.a ve.b ve.c ve.d (fun h₄ F₄ N₄ => ?_) (by decide +kernel) (by decide +kernel) (by decide +kernel) (by decide +kernel) (by decide) hk hve (by decide) (fun _ _ q => q.elim)
    have l₄ : Lay h₀ L h₄ m (ext ++ frs₂) mu im₁ := by
      refine ⟨F₄, fun p hp => N₄ p ?_, apart_app.mpr ⟨(apart_app.mp l₁.a1).1, (apart_app.mp l₁.a1).2.same su⟩, apart_app.mpr ⟨(apart_app.mp l₁.a2).1, (apart_app.mp l₁.a2).2.same su⟩, l₁.a3⟩
      simp only [List.mem_append] at hp ⊢
      rcases hp with (h | h) | h | h
      · exact .inl (.inl h)
      · exact .inr h
      · exact .inl (.inr (.inl h))
      · exact .inl (.inr (.inr h))
    exact h2 ho _ h₀ m (ext ++ frs₂) mu im₁ _ R _ l₄ (H.mono s₁) fun o f s' hq he => k o f s' frs₂ hq su (he.trans s₁)
end
end Mine

namespace Mine
open PySem PySem.W PyProof.Rows PySem.Spec PySem.Calls PyProof.Rows.LCg PySem.NumText

section
variable {prog : Program} {w : World} {A : Around} {E : Value → Shared → Prop} {s : Shared}

theorem list_of_maps {m2 T2 m1 T1 it l : Addr} {items : Array Value} {xs : List PySem.Str} {Q : Value → Shared → Prop} (hh : A.handled = none) (D : Maps s.heap m2 T2 m1 T1 it l items 0) (hi : ∀ (k : Nat) (x : PySem.Str), xs[k]? = some x → ∃ t, items[k]? = some (Value.str x t)) (hn : items.size = xs.length) (hsz : xs.length ≤ 1000) (ok : ∀ x ∈ xs, textOk x)
    (h1 : ∀ h' tk' vs c ns, ints? xs = some ns → (∀ b o, b ≠ it → s.heap.get? b = some o → h'.get? b = some o) → h'.get? s.heap.objs.size = some (lstObj vs c) → DAll prog w [] vs (ns.map fun n => Mine.D.str (PySem.Str.ofString (toString n))) → Q (.ref s.heap.objs.size) { s with heap := h', toks := tk' })
    (h2 : ∀ h₁ h' tk' e args, ints? xs = none → (∀ b o, b ≠ it → s.heap.get? b = some o → h₁.get? b = some o) → Heap.MadeExc h₁ h' e "ValueError" args → E (.ref e) { s with heap := h', toks := tk' }) :
    wpP Cl (model prog w) A (call (.type "list") [.ref m2]) Q E s := by
  have lt : ∀ {b o}, s.heap.get? b = some o → b ≠ s.heap.objs.size := fun e => Nat.ne_of_lt (Heap.lt_size e)
  have s1 := lt D.a
  have s2 := lt D.b
  have s3 := lt D.c
  have s4 := lt D.d
  have s5 : it ≠ s.heap.objs.size := by obtain ⟨o, e, _⟩ := D.e; exact lt e
  have s6 : l ≠ s.heap.objs.size := by obtain ⟨o, e, _⟩ := D.f; exact lt e
  refine callType_codesP cl_clo (Q₁ := fun obj s₁ => obj = .ref s.heap.objs.size ∧ s₁ = { s with heap := s.heap.push { cls := .type "list", data := .seq #[] } }) F.called_list (F.typeCall_list_1 _) F.entry_list_init
    (.of (code_list_new _ ⟨rfl, rfl⟩)) fun obj s₁ h₁ => ?_
  obtain ⟨rfl, rfl⟩ := h₁
  have hS : (s.heap.push { cls := .type "list", data := .seq #[] }).get? s.heap.objs.size = some { cls := .type "list", data := .seq #[] } := Heap.get?_push_size _ rfl
  refine ⟨⟨_, hS, rfl⟩, F.args_list_init_2 _ _, ?_⟩
  generalize hSd : s.heap.objs.size = S at *
  have k0 : ∀ b o, b ≠ S → s.heap.get? b = some o → (s.heap.push { cls := .type "list", data := .seq #[] }).get? b = some o := fun b o _ e => Heap.get?_push_of_some _ e
  generalize (s.heap.push { cls := .type "list", data := .seq #[] }) = H at *
  show wpP Cl _ A.in1.in1 (do let old ← Builtin.List.listItems (.ref S); Builtin.List.listUpdate (.ref S) (fun _ => #[]); letGo old.toList.reverse; Builtin.List.listExtendWith (.ref S) (.ref m2) .none) _ _ _
  refine wpP_bindA ?_
  unfold Builtin.List.listItems
  refine wpAny_bind (wpAny_seqItems hS rfl (wpAny_pure ?_))
  show wpP Cl _ A.in1.in1 (updateSeq S (fun _ => #[]) >>= fun _ => letGo (#[] : Array Value).toList.reverse >>= fun _ => Builtin.List.listExtendWith (.ref S) (.ref m2) .none) _ _ _
  refine wpP_bindA (wpAny_updateSeq hS rfl ?_)
  have hS₂ := Heap.get?_update_self (Obj.mapSeq (fun _ => (#[] : Array Value))) hS rfl
  have k1 : ∀ b o, b ≠ S → s.heap.get? b = some o → (H.update S (Obj.mapSeq (fun _ => (#[] : Array Value)))).get? b = some o := fun b o hb e => (Heap.get?_update_other _ _ (Ne.symm hb)).trans (k0 b o hb e)
  generalize (H.update S (Obj.mapSeq (fun _ => (#[] : Array Value)))) = H₁ at *
  refine wpP_bindA (wpAny_letGo ?_)
  unfold Builtin.List.listExtendWith
  have D₁ := D.frame k1 s1 s2 s3 s4 s5 s6
  have hT : ({ s with heap := H₁ } : Shared).TypeIs (.ref m2) "map" := ⟨_, D₁.a, rfl⟩
  refine wpP_bindA (wpAny_typeOf hT ?_)
  have e1 : Builtin.List.listSameRef (.ref S) (.ref m2) = false := by simp [Builtin.List.listSameRef, Ne.symm s1]
  have e2 : (Value.type "map" == Value.type "list") = false := by decide
  have e3 : (Value.type "map" == Value.type "tuple") = false := by decide
  simp only [e1, e2, e3, Bool.or_false, Bool.false_eq_true, if_false]
  refine wpP_bindA (map_iter D₁.a ?_)
  refine wpP_bindA (wpAny_holding ?_)
  unfold Builtin.List.listLengthHint
  refine wpAny_bind (wpAny_specialOf hT map_no_len ?_)
  show wpAny _ _ (specialOf (Value.ref m2) (PySem.Str.ofString "__length_hint__") >>= _) _ _ _
  refine wpAny_bind (wpAny_specialOf hT map_no_hint (wpAny_pure ?_))
  show wpP Cl _ A.in1.in1 (rule "list.extend.makes-room" >>= fun _ => Builtin.List.listTouch (.ref S) >>= fun _ => again (.builtin "list.extend.loop" ⟨[.ref S, .ref m2, .none], []⟩)) _ _ _
  refine wpP_bindA (wpAny_rule (wpP_bindA ?_))
  show wpAny _ _ (updateSeq S (·.push .none) >>= fun _ => updateSeq S (·.pop)) _ _ _
  refine wpAny_bind (wpAny_updateSeq hS₂ rfl ?_)
  have hS₃ := Heap.get?_update_self (Obj.mapSeq (·.push Value.none)) hS₂ rfl
  refine wpAny_updateSeq (hz := by seq_fits) hS₃ rfl ?_
  have hS₄ := Heap.get?_update_self (Obj.mapSeq (·.pop)) hS₃ rfl
  have k2 : ∀ b o, b ≠ S → s.heap.get? b = some o → ((H₁.update S (Obj.mapSeq (·.push Value.none))).update S (Obj.mapSeq (·.pop))).get? b = some o := fun b o hb e => (Heap.get?_update_other _ _ (Ne.symm hb)).trans ((Heap.get?_update_other _ _ (Ne.symm hb)).trans (k1 b o hb e))
  obtain ⟨c, hS₅⟩ : ∃ c, ((H₁.update S (Obj.mapSeq (·.push Value.none))).update S (Obj.mapSeq (·.pop))).get? S = some (lstObj [] c) := ⟨_, hS₄⟩
  clear hS₄ hS₃
  refine wpP_pure ⟨plainId_quiet F.plain_extend_loop _, ?_⟩
  generalize hH : ((H₁.update S (Obj.mapSeq (·.push Value.none))).update S (Obj.mapSeq (·.pop))) = H₂ at *
  show codeP Cl _ A.in1 _ _ { s with heap := H₂ }
  refine maps_loop (prog := prog) (w := w) (A := A.in1) (items := items) hh s1 s2 s3 s4 s5 s6 .none (by omega) xs 0 [] c { s with heap := H₂ } (D.frame k2 s1 s2 s3 s4 s5 s6) (fun k x hk => by rw [Nat.zero_add]; exact hi k x hk) (by omega) rfl ok hS₅ (fun h' tk' vs c' ns e k3 hS' hd => ?_) fun h₁ h' tk' e args e' k3 hm => ?_
  · exact ⟨rfl, h1 h' tk' vs c' ns e (fun b o hb q => k3 b o hb (lt q) (k2 b o (lt q) q)) hS' hd⟩
  · exact h2 h₁ h' tk' e args e' (fun b o hb q => k3 b o hb (lt q) (k2 b o (lt q) q)) hm
end

section
variable {W : Wd} {b : Bool} {lvl : Nat} {env : Env} {V : Vs} {Q : Out → Prop}

theorem strs_at {prog : Program} {w : World} {im : Led} : ∀ {vs : List Value} {xs : List PySem.Str}, DAll prog w im vs (xs.map D.str) → ∀ (k : Nat) (x : PySem.Str), xs[k]? = some x → ∃ t, vs.toArray[k]? = some (Value.str x t) := by
  intro vs xs h k x hx
  obtain ⟨v, hv, hd⟩ := h.get (k := k) (d := .str x) (by rw [List.getElem?_map, hx]; rfl)
  cases hd
  exact ⟨_, by rw [List.getElem?_toArray]; exact hv⟩

theorem EvR.maps {y : PySem.Str} {xs : List PySem.Str} {p1 p2 p3 p4 p5 p6 q1 q2 q3 : Pos} (he : EnvOk env) (hy : V.s.lookup y = some (.list (xs.map D.str))) (hyd : (y == ("__debug__" : PySem.Str)) = false) (ok : ∀ x ∈ xs, textOk x) (hsz : xs.length ≤ 1000)
    (g1 : nsIn W.K mainGlobals "list" = some none) (g2 : nsIn W.K mainGlobals "map" = some none) (g3 : nsIn W.K mainGlobals "str" = some none) (g4 : nsIn W.K mainGlobals "int" = some none)
    (x1 : env.kindOf "list" = some .globalImplicit) (x2 : env.kindOf "map" = some .globalImplicit) (x3 : env.kindOf "str" = some .globalImplicit) (x4 : env.kindOf "int" = some .globalImplicit) :
    GvR W lvl env V (eval (.Call (.Name "list" p1) [.Call (.Name "map" p2) [.Name "str" p3, .Call (.Name "map" p4) [.Name "int" p5, .Name y p6] [] q3] [] q2] [] q1) env) ((ints? xs).map fun ns => .list (ns.map fun n => .str (PySem.Str.ofString (toString n)))) := by
  intro A fe h₀ m ext mu im s Q E M l H k1 k2
  obtain ⟨v, hv, hd⟩ := H.s y _ hy
  cases hd with
  | @list al vs n _ hm r =>
  refine wpP_Call_NameR (nameB M l.F he g1 (show bootBuiltins "list" = some (.type "list") from by decide +kernel) (by decide) x1 (by decide) ?_)
  refine callWith_typeP rfl (evalArgs_plainP (spliced_oneP (.of ?_)))
  refine wpAny_Call_NameR (nameB M l.F he g2 (show bootBuiltins "map" = some (.type "map") from by decide +kernel) (by decide) x2 (by decide) ?_)
  refine PyProof.Rows.callWith_type1 (spliced_cons (nameB M l.F he g3 (show bootBuiltins "str" = some (.type "str") from by decide +kernel) (by decide) x3 (by decide) (spliced_cons ?_))) rfl rfl
  refine wpAny_Call_NameR (nameB M l.F he g2 (show bootBuiltins "map" = some (.type "map") from by decide +kernel) (by decide) x2 (by decide) ?_)
  refine PyProof.Rows.callWith_type1 (spliced_cons (nameB M l.F he g4 (show bootBuiltins "int" = some (.type "int") from by decide +kernel) (by decide) x4 (by decide) (spliced_cons (wpAny_Name (hv.load he.k l (spliced_nil ?_)) hyd)))) rfl rfl
  have hl : s.heap.IsList al vs.toArray := DIn.isList l.nIm hm
  refine map_made (wpAny_pyIter_list hl ⟨_, rfl, fun H₁ e₁ => spliced_nil ?_⟩)
  have z0 : (s.heap.push { cls := .type "list_iterator", data := .fields #[.ref al, .int 0 0] }).objs.size = s.heap.objs.size + 1 := Heap.size_push ..
  have z1 : ((s.heap.push { cls := .type "list_iterator", data := .fields #[.ref al, .int 0 0] }).push (oneObj s.heap.objs.size)).objs.size = s.heap.objs.size + 2 := by rw [Heap.size_push, z0]
  have gm1 : H₁.get? (s.heap.objs.size + 2) = some (mapObj (s.heap.objs.size + 1) (.type "int")) := by rw [e₁, ← z1]; have := Heap.get?_push_size ((s.heap.push { cls := .type "list_iterator", data := .fields #[.ref al, .int 0 0] }).push (oneObj s.heap.objs.size)) (o := mapObj (s.heap.objs.size + 1) (.type "int")) rfl; rw [← z0] at this ⊢; exact this
  have gt1 : H₁.get? (s.heap.objs.size + 1) = some (oneObj s.heap.objs.size) := by rw [e₁, ← z0]; exact Heap.get?_push_of_some _ (Heap.get?_push_size _ rfl)
  have gi : H₁.get? s.heap.objs.size = some { cls := .type "list_iterator", data := .fields #[.ref al, .int 0 0] } := by rw [e₁]; exact Heap.get?_push_of_some _ (Heap.get?_push_of_some _ (Heap.get?_push_size _ rfl))
  have k3 : ∀ b o, s.heap.get? b = some o → H₁.get? b = some o := fun b o e => by rw [e₁]; exact Heap.get?_push_of_some _ (Heap.get?_push_of_some _ (Heap.get?_push_of_some _ e))
  have zH : H₁.objs.size = s.heap.objs.size + 3 := by rw [e₁, Heap.size_push, z1]
  rw [z0]
  clear e₁
  refine map_made (map_iter (s := { s with heap := H₁ }) gm1 ⟨_, rfl, fun H₂ e₂ => ?_⟩)
  have z2 : (H₁.push (oneObj (s.heap.objs.size + 2))).objs.size = s.heap.objs.size + 4 := by rw [Heap.size_push, zH]
  have gm2 : H₂.get? (s.heap.objs.size + 4) = some (mapObj (s.heap.objs.size + 3) (.type "str")) := by rw [e₂, ← z2]; have := Heap.get?_push_size (H₁.push (oneObj (s.heap.objs.size + 2))) (o := mapObj (s.heap.objs.size + 3) (.type "str")) rfl; rw [← zH] at this ⊢; exact this
  have gt2 : H₂.get? (s.heap.objs.size + 3) = some (oneObj (s.heap.objs.size + 2)) := by rw [e₂, ← zH]; exact Heap.get?_push_of_some _ (Heap.get?_push_size _ rfl)
  have k4 : ∀ b o, H₁.get? b = some o → H₂.get? b = some o := fun b o e => by rw [e₂]; exact Heap.get?_push_of_some _ (Heap.get?_push_of_some _ e)
  have zH2 : H₂.objs.size = s.heap.objs.size + 5 := by rw [e₂, Heap.size_push, z2]
  show wpP Cl _ A (call (Value.type "list") [Value.ref (H₁.objs.size + 1)]) Q E { s with heap := H₂ }
  rw [zH]
  clear e₂
  have hlt : al < s.heap.objs.size := Heap.lt_size (l.nIm _ hm).1
  have Dm : Maps H₂ (s.heap.objs.size + 4) (s.heap.objs.size + 3) (s.heap.objs.size + 2) (s.heap.objs.size + 1) s.heap.objs.size al vs.toArray 0 :=
    ⟨gm2, gt2, k4 _ _ gm1, k4 _ _ gt1, ⟨_, k4 _ _ gi, rfl, rfl⟩, hl.at fun o e => k4 _ _ (k3 _ o e), Nat.ne_of_gt (Nat.lt_add_of_pos_right (by decide)), Nat.ne_of_gt (Nat.lt_add_of_pos_right (by decide)), Nat.ne_of_gt (Nat.lt_add_of_pos_right (by decide)), Nat.ne_of_gt (Nat.lt_add_of_pos_right (by decide)), Nat.ne_of_lt hlt⟩
  have old : ∀ b o, s.heap.get? b = some o → b ≠ s.heap.objs.size := fun b o e => Nat.ne_of_lt (Heap.lt_size e)
  refine list_of_maps (s := { s with heap := H₂ }) M.hh Dm (strs_at r) (by rw [List.size_toArray, r.length, List.length_map]) hsz ok (fun h' tk' ws c ns e k5 hS hd => ?_) fun h₁ h' tk' e args e' k5 hm' => ?_
  · have kk : ∀ b o, s.heap.get? b = some o → h'.get? b = some o := fun b o e => k5 b o (old b o e) (k4 _ _ (k3 _ _ e))
    exact k1 _ _ h' tk' _ (by rw [e]; rfl) (l.join kk (by show s.heap.objs.size ≤ H₂.objs.size; omega) hS) sub_cons (.list (.head _) (DAll.mono (im := []) (fun p hp => by cases hp) hd))
  · exact k2 h₁ h' tk' im e args (by rw [e']; rfl) (l.keeps fun b o e => k5 b o (old b o e) (k4 _ _ (k3 _ _ e))) sub_refl hm'
end
end Mine

namespace Mine
open PySem PySem.W PyProof.Rows PySem.Spec PySem.Calls PyProof.Rows.LCg PySem.NumText

section
variable {W : Wd} {b : Bool} {lvl : Nat} {env : Env} {V : Vs} {Q : Out → Prop}

theorem loop_coreC {A₀ : Around} {fe : Env} {h₀ : Heap} {outer : List Env} {m : PySem.Str → Option Value} {frs ext mu im : Led} {s : Shared} {E : Value → Shared → Prop} {R : Flow → Shared → Prop} {target : PySem.Expr} {body : List Stmt} {I : Addr} {fp : List Addr} {n : Nat}
    {P Md : Nat → Value → Heap → Prop} {St : Nat → Heap → Prop} (K : KTurns W.prog W.w (A₀.deeper env) target I fp [I] n P Md St) (M : Mach W (A₀.deeper env) fe h₀ env.locals lvl) (hA : A₀.frames = some outer) (hF : TI.Frs outer frs) (ap : Apart frs ext) (l : Lay h₀ env.locals s.heap m (ext ++ frs) mu im) (H : Holds W.prog W.w env env.locals m mu im V)
    (hst : St 0 s.heap) (hI : ∀ p ∈ (ext ++ frs) ++ (mu ++ im), p.1 ≠ I) (hL : I ≠ env.locals) (h0 : h₀.get? I = none) (hIs : ∀ i h, St i h → ∃ o, h.get? I = some o)
    (hfp : ∀ b ∈ fp, b = I ∨ ∃ o, (b, o) ∈ im)
    (Inv : Nat → Vs → Prop) (start : Inv 0 V)
    (bind : ∀ i v h₁ t₁ m₁ mu₁ im₁ oI frs₁ V₁, i < n → Inv i V₁ → P i v h₁ → (∀ p ∈ im, p ∈ im₁) → Lay h₀ env.locals h₁ m₁ (((I, oI) :: ext) ++ frs₁) mu₁ im₁ → Holds W.prog W.w env env.locals m₁ mu₁ im₁ V₁ →
      ∃ V₂, ExC W lvl env V₂ (execs body env) (nextIs (Inv (i + 1))) ∧ ∀ (R : Unit → Shared → Prop) (E : Value → Shared → Prop),
        (∀ h' tk' m', Lay h₀ env.locals h' m' (((I, oI) :: ext) ++ frs₁) mu₁ im₁ → Holds W.prog W.w env env.locals m' mu₁ im₁ V₂ → R () { s with heap := h', toks := tk' }) → wpAny (model W.prog W.w) (A₀.deeper env) (assign target env v) R E { s with heap := h₁, toks := t₁ })
    (done : ∀ h' tk' m' mu' im' frs' V', TI.SameUp frs frs' → Lay h₀ env.locals h' m' (ext ++ frs') mu' im' → (∀ p ∈ im, p ∈ im') → Holds W.prog W.w env env.locals m' mu' im' V' → Inv n V' → R .next { s with heap := h', toks := tk' }) :
    codeP Cl (model W.prog W.w) (A₀.deeper env) (.forLoop target (.ref I) body [] env) (fun r s' => match r with | .ok f => R f s' | .error e => cameBackBy (model W.prog W.w) (A₀.deeper env) env E e s') s := by
  refine codeP_forLoop cl_clo (fun k s' => ∃ h' tk m' mu' im' frs' V' i, s' = { s with heap := h', toks := tk } ∧ St i h' ∧ TI.SameUp frs frs' ∧ Lay h₀ env.locals h' m' (ext ++ frs') mu' im' ∧ (∀ p ∈ im, p ∈ im') ∧ (∀ p ∈ (ext ++ frs') ++ (mu' ++ im'), p.1 ≠ I) ∧ Holds W.prog W.w env env.locals m' mu' im' V' ∧ Inv i V' ∧ i ≤ n ∧ k = n + 1 - i) ?_ (n + 1)
    ⟨s.heap, s.toks, m, mu, im, frs, V, 0, rfl, hst, TI.SameUp.refl _, l, sub_refl, hI, H, start, Nat.zero_le _, rfl⟩
  rintro k s' ⟨h', tk, m', mu', im', frs', V', i, rfl, hst', su, l', hs', hI', H', hJ, hi, rfl⟩
  by_cases hlt : i < n
  · refine K.item i _ _ _ hlt hst' fun v h₁ tk₁ hMd hk₁ => ?_
    refine K.go i v _ _ _ hMd fun h₂ hP hst₂ hk₂ => ?_
    obtain ⟨oI, hoI⟩ := hIs _ _ hst₂
    have l₂ : Lay h₀ env.locals h₂ m' (((I, oI) :: ext) ++ frs') mu' im' := l'.iter (fun b o hb e => hk₂ b o (by simpa using hb) (hk₁ b o (by simpa using hb) e)) hoI hL h0 hI'
    obtain ⟨V₂, hex, hasg⟩ := bind i v h₂ tk₁ m' mu' im' oI frs' V' hlt hJ hP hs' l₂ H'
    refine hasg _ _ fun h₃ tk₃ m₃ l₃ H₃ => ?_
    have ap' : Apart frs' ((I, oI) :: ext) := fun p hp q hq => by
      rcases List.mem_cons.mp hq with rfl | hq
      · exact hI' p (by simp [hp])
      · exact ap.same su p hp q hq
    refine hex A₀ fe h₀ outer m₃ frs' ((I, oI) :: ext) mu' im' _ _ _ M hA (hF.up su) ap' l₃ H₃ fun o f s₄ frs₄ hq su₄ he => ?_
    obtain ⟨h₄, tk₄, m₄, mu₄, im₄, rfl, l₄, hs₄, r⟩ := he
    cases o with
    | ret d => exact hq.elim
    | next V₄ =>
      cases f with
      | next =>
        have l₅ : Lay h₀ env.locals h₄ m₄ ((I, oI) :: (ext ++ frs₄)) mu₄ im₄ := l₄
        refine ⟨n + 1 - (i + 1), by omega, h₄, tk₄, m₄, mu₄, im₄, frs₄, V₄, i + 1, rfl, K.frame _ _ _ hst₂ fun b hb o e => ?_, su.trans su₄, l₅.drop, sub_trans hs' hs₄, ?_, r, hq, hlt, rfl⟩
        · rcases hfp b hb with rfl | ⟨o', ho'⟩
          · have e1 := (l₅.nExt _ (.head _)).1
            rw [hoI] at e; cases e; exact e1
          · have e1 := (l₂.nIm _ (hs' _ ho')).1
            rw [e] at e1; cases e1
            exact (l₄.nIm _ (hs₄ _ (hs' _ ho'))).1
        · intro p hp
          rcases List.mem_append.mp hp with hp | hp
          · rcases List.mem_append.mp hp with hp | hp
            · exact hI' p (by simp [hp])
            · obtain ⟨p', hp', e⟩ := same_addr su₄ p hp
              rw [e]; exact hI' p' (by simp [hp'])
          · rcases List.mem_append.mp hp with hp | hp
            · exact Ne.symm (l₅.a1 (I, oI) (.head _) p hp)
            · exact Ne.symm (l₅.a2 (I, oI) (.head _) p hp)
      | _ => exact r.elim
  · have hin : i = n := by omega
    subst hin
    refine K.done _ _ _ hst' fun h₁ tk₁ hk₁ => ?_
    have l₁ : Lay h₀ env.locals h₁ m' (ext ++ frs') mu' im' := by
      refine ⟨⟨l'.F.ns.at' fun o e => hk₁ _ o (by simpa using Ne.symm hL) e, fun b o e => hk₁ b o (by intro q; rw [List.mem_singleton.mp q, h0] at e; cases e) (l'.F.keep b o e), l'.F.above⟩, fun p hp => ⟨hk₁ _ _ (by simpa using hI' p hp) (l'.N p hp).1, (l'.N p hp).2⟩, l'.a1, l'.a2, l'.a3⟩
    exact done h₁ tk₁ m' mu' im' frs' V' su l₁ hs' H' hJ

theorem ExC.forTup {xs : List (PySem.Str × Pos)} {kd : Nat} {tp : Pos} {iter : PySem.Expr} {body : List Stmt} {pos : Pos} {ds : List D} (he : EnvOk env) (hx : ∀ p ∈ xs, env.kindOf p.1 = some .local) (h : Ev W true lvl env V iter (.list ds)) (hds : ∀ d ∈ ds, ∃ es, d = .tuple es ∧ xs.length = es.length) (Inv : Nat → Vs → Prop) (start : Inv 0 V)
    (hu : ∀ i V₁ y e, Inv i V₁ → V₁.u = some (y, e) → ∀ p ∈ xs, y ≠ p.1) (turn : ∀ i es V₁, ds[i]? = some (.tuple es) → Inv i V₁ → ExC W lvl env { V₁ with s := putAll V₁.s (xs.map (·.1)) es } (execs body env) (nextIs (Inv (i + 1))))
    (hq : ∀ V', Inv ds.length V' → Q (.next V')) (hs : ∀ x, foldedSetIterable iter env x = pure x := by intro _; rfl) : ExC W lvl env V (exec (.For (.Tuple (xs.map fun p => PySem.Expr.Name p.1 p.2) kd tp) iter body [] pos) env) Q := by
  intro A₀ fe h₀ outer m frs ext mu im s R E M hA hF ap l H k
  refine wpP_For cl_clo (h (A₀.deeper env) fe h₀ _ m (ext ++ frs) mu im s _ E M l H fun xv h₁ t₁ im₁ l₁ s₁ hd => ?_) hs
  cases hd with
  | @list ax vs n _ hm r =>
  have hl := DIn.isList l₁.nIm hm
  refine wpAny_pyIter_list hl ?_
  obtain ⟨n1, n2, n3⟩ := next_new l₁
  have hlt : ax < h₁.objs.size := Heap.lt_size (l₁.nIm _ hm).1
  have Wk := Walks.list (prog := W.prog) (w := W.w) (A := A₀.deeper env) M.hh h₁.objs.size ax (Nat.ne_of_lt hlt) vs.toArray
  have hsz : vs.toArray.size = ds.length := by rw [List.size_toArray, r.length]
  have it : ∀ (i : Nat) (v : Value), vs.toArray[i]? = some v → ∃ d, ds[i]? = some d ∧ DIn W.prog W.w im₁ v d := by
    intro i v hv
    have hv' : vs[i]? = some v := by simpa using hv
    have hi : i < ds.length := by
      rw [← r.length]
      rcases Nat.lt_or_ge i vs.length with h | h
      · exact h
      · rw [List.getElem?_eq_none h] at hv'; cases hv'
    obtain ⟨u, hu, hd⟩ := r.get (List.getElem?_eq_getElem hi)
    rw [hu] at hv'; cases hv'
    exact ⟨_, List.getElem?_eq_getElem hi, hd⟩
  have K : KTurns W.prog W.w (A₀.deeper env) (.Tuple (xs.map fun p => PySem.Expr.Name p.1 p.2) kd tp) h₁.objs.size [h₁.objs.size, ax] [h₁.objs.size] vs.toArray.size (fun i v _ => vs.toArray[i]? = some v) (fun i v h => vs.toArray[i]? = some v ∧ (h.IsListIter h₁.objs.size ax (i + 1) ∧ h.IsList ax vs.toArray)) (fun i h => h.IsListIter h₁.objs.size ax i ∧ h.IsList ax vs.toArray) :=
    { sub := Wk.sub, frame := Wk.frame, item := fun i s Q E hi st hQ => Wk.item i s Q E hi st fun v h' tk hP st' hk => hQ v h' tk ⟨hP, st'⟩ hk,
      go := fun i v s Q E hm hQ => by
        obtain ⟨d, hd, hD⟩ := it i v hm.1
        obtain ⟨es, rfl, _⟩ := hds d (List.mem_of_getElem? hd)
        cases hD with
        | tuple _ _ => exact wpAny_letOwnedTupleGo_listiter hm.2.1 (hQ s.heap hm.1 hm.2 fun _ _ _ e => e),
      done := Wk.done }
  rw [hsz] at K
  have l₂ : Lay h₀ env.locals (h₁.push { cls := .type "list_iterator", data := .fields #[.ref ax, .int 0 0] }) m (ext ++ frs) mu im₁ := l₁.keeps fun _ _ e => Heap.get?_push_of_some _ e
  refine loop_coreC K M hA hF ap l₂ (H.mono s₁) ⟨⟨_, Heap.get?_push_size _ rfl, rfl, rfl⟩, hl.push _⟩ n1 n2 n3 (fun i h st => by obtain ⟨o, e, _⟩ := st.1; exact ⟨o, e⟩) (fun b hb => ?_) Inv start (fun i v h₂ t₂ m₂ mu₂ im₂ oI frs₂ V₂ hi hJ hP hs₂ l₂ H₂ => ?_) fun h' tk' m' mu' im' frs' V' su l' hs' H' hJ => ?_
  · rcases List.mem_cons.mp hb with rfl | hb
    · exact .inl rfl
    · rw [List.mem_singleton.mp hb]; exact .inr ⟨_, hm⟩
  · obtain ⟨d, hd, hD⟩ := it i v hP
    obtain ⟨es, rfl, hl'⟩ := hds d (List.mem_of_getElem? hd)
    refine ⟨_, turn i es V₂ hd hJ, fun R E kk => ?_⟩
    have hD' := hD.mono hs₂
    cases hD' with
    | tuple hm' r' => exact unpackT he M.hh l₂ H₂ (DIn.isTuple l₂.nIm hm') r' hx (fun p hp y e h => hu i V₂ y e hJ h p hp) hl' kk
  · exact k _ _ _ frs' (hq V' hJ) su ⟨h', tk', m', mu', im', rfl, l', sub_trans s₁ hs', H'⟩
end
end Mine

namespace Mine
open PySem PySem.W PyProof.Rows PySem.Spec PySem.Calls PyProof.Rows.LCg PySem.NumText

section
variable {W : Wd} {b : Bool} {lvl : Nat} {env : Env} {V : Vs} {Q : Out → Prop}

theorem Src.range {x : PySem.Str} {xp np pos : Pos} {e : PySem.Expr} {n : Nat} {b : Bool} (he : EnvOk env) (hg : nsIn W.K mainGlobals "range" = some none) (hv : bootBuiltins "range" = some (.type "range")) (h : Ev W b lvl env V e (.int n)) (hn : n ≤ 1000) (hx : env.kindOf "range" = some .globalImplicit)
    (hs : ∀ rest, starEach (e :: rest) env = (false, eval e env) :: starEach rest env := by intro _; rfl) : Src W lvl env V (.Name x xp) (.Call (.Name "range" np) [e] [] pos) ((List.range n).map fun (k : Nat) => D.int (k : Int)) := by
  intro A fe h₀ L m ext mu im s Q E M l H kk
  refine wpAny_Call_NameR (nameB M l.F he hg hv (by decide) hx (by decide) ?_)
  refine PyProof.Rows.callWith_type1 ?_ (hs _) rfl
  rw [hs]
  refine spliced_cons (h A fe h₀ L m ext mu im s _ E M l H fun v h₁ t₁ im₁ l₁ s₁ hd => spliced_nil ?_)
  cases hd with
  | int _ t =>
  refine range1_rows l₁.F l₁.N fun h₂ tk t₁' u₁ v₁ hr F₂ N₂ k₂ => ?_
  have l₂ : Lay h₀ L h₂ m ext mu im₁ := l₁.keeps k₂
  refine wpAny_pyIter_range hr (small_one (by decide) (by decide) (by omega) (by omega)) ?_
  obtain ⟨n1, n2, n3⟩ := next_new l₂
  have hsz : Builtin.Range.rangeSize 0 (n : Int) 1 = (n : Int) := by rw [rangeSize_one]; split <;> omega
  have Wk := range_walks (prog := W.prog) (w := W.w) (A := A) (I := h₂.objs.size) M.hh 0 n
  have hl : ((List.range n).map fun (k : Nat) => D.int (k : Int)).length = n := by rw [List.length_map, List.length_range]
  have Wk' : Walks W.prog W.w A h₂.objs.size [h₂.objs.size] [h₂.objs.size] n (fun i v => i < n ∧ ∃ t, v = .int (0 + (i : Int)) t) (fun i h => IsRangeIter h h₂.objs.size (0 + (i : Nat) * 1) ((n : Int) - (i : Nat)) 1) :=
    { sub := Wk.sub, frame := Wk.frame, item := fun i s Q E hi st hQ => Wk.item i s Q E hi st fun v h' tk hP st' hk => hQ v h' tk ⟨hi, hP⟩ st' hk, done := Wk.done, self := Wk.self }
  refine kk _ _ (fun i v => i < n ∧ ∃ t, v = .int (0 + (i : Int)) t) (fun i h => IsRangeIter h h₂.objs.size (0 + (i : Nat) * 1) ((n : Int) - (i : Nat)) 1) _ _ im₁ (l₂.keeps fun _ _ e => Heap.get?_push_of_some _ e) s₁ ⟨by rw [hl]; exact Wk', n1, n2, n3, fun i h st => ⟨_, st⟩, fun b hb => .inl (List.mem_singleton.mp hb), fun i v hP => ?_, fun i v s Q E hP st hQ => wpAny_pure hQ⟩ ?_
  · obtain ⟨hi, t, rfl⟩ := hP
    refine ⟨.int (i : Int), by rw [List.getElem?_map, List.getElem?_range hi]; rfl, ?_⟩
    rw [Int.zero_add]
    exact .int _ _
  · show IsRangeIter (h₂.push { cls := .type "range_iterator", data := .fields #[rawInt 0, rawInt (Builtin.Range.rangeSize 0 (n : Int) 1), rawInt 1] }) h₂.objs.size (0 + ((0 : Nat) : Int) * 1) ((n : Int) - ((0 : Nat) : Int)) 1
    have e := Heap.get?_push_size h₂ (o := { cls := .type "range_iterator", data := .fields #[rawInt 0, rawInt (Builtin.Range.rangeSize 0 (n : Int) 1), rawInt 1] }) rfl
    rw [hsz] at e ⊢
    have e1 : (0 + ((0 : Nat) : Int) * 1) = 0 := by decide
    have e2 : (n : Int) - ((0 : Nat) : Int) = n := by omega
    rw [e1, e2]
    exact e

/-- a cell is stored, at the machine -/
theorem storeCell {A : Around} {h₀ : Heap} {m : PySem.Str → Option Value} {ext mu im : Led} {s : Shared} {R : Unit → Shared → Prop} {E : Value → Shared → Prop} {x : PySem.Str} {c : Addr} {o : Obj} {v₀ : Option Value} {v : Value} {d : D} (he : EnvOk env) (l : Lay h₀ env.locals s.heap m ext mu im) (H : Holds W.prog W.w env env.locals m mu im V)
    (hx : env.kindOf x = some .cell) (hc : env.cells.lookup x = some c) (ho : (c, o) ∈ mu) (hv : o.data = .cell v₀) (hinj : ∀ y, env.kindOf y = some .cell → env.cells.lookup y = some c → y = x) (hd : DIn W.prog W.w im v d) (hu : ∀ y e, V.u = some (y, e) → y ≠ x)
    (k : ∀ h' o', o'.data = .cell (some v) → Lay h₀ env.locals h' m ext (upd c o' mu) im → Holds W.prog W.w env env.locals m (upd c o' mu) im { V with s := (x, d) :: V.s } → R () { s with heap := h' }) :
    wpAny (model W.prog W.w) A (storeName env x v) R E s := by
  refine wpAny_storeName_cell he.k hx hc ⟨o, (l.nMu _ ho).1, hv⟩ fun h' hc' hs => ?_
  obtain ⟨o', ho', hd'⟩ := hc'
  have l' := l.upd ho hs ho'
  have hL : env.locals ≠ c := Ne.symm (l.nMu _ ho).2.1
  have keep : ∀ y u, y ≠ x → Var env env.locals m mu y u → Var env env.locals m (upd c o' mu) y u := by
    intro y u hy hv
    cases hv with
    | loc a b d => exact .loc a b d
    | comp a b d e => exact .comp (mem_upd_ne a hL) b d e
    | cell a b d e => exact .cell a b (mem_upd_ne d fun q => hy (hinj y a (by rw [b]; exact congrArg some q))) e
  have ownk : ∀ u e, Own W.prog W.w mu im u e → Own W.prog W.w (upd c o' mu) im u e := by
    intro u e hO
    cases e with
    | list ds =>
      obtain ⟨a, vs, n, rfl, hm, hd⟩ := hO
      refine ⟨a, vs, n, rfl, mem_upd_ne hm fun q => ?_, hd⟩
      have e1 := (l.nMu _ hm).1
      have e2 := (l.nMu _ ho).1
      have q' : a = c := q
      subst q'
      rw [e2] at e1; cases e1; cases hv
    | dict kvs =>
      obtain ⟨a, o₂, rfl, hm, hd⟩ := hO
      refine ⟨a, o₂, rfl, mem_upd_ne hm fun q => ?_, hd⟩
      have e1 := (l.nMu _ hm).1
      have e2 := (l.nMu _ ho).1
      have q' : a = c := q
      subst q'
      rw [e2] at e1; cases e1
      obtain ⟨vk, hdo, _⟩ := hd
      obtain ⟨_, es, n, hdd, _⟩ := hdo
      rw [hdd] at hv; cases hv
    | _ => exact hO.elim
  refine k h' o' hd' l' ⟨fun y e he' => ?_, fun y e he' => ?_⟩
  · by_cases hy : y = x
    · subst hy
      have : e = d := by
        have h' : List.lookup y ((y, d) :: V.s) = some e := he'
        rw [List.lookup_cons_self] at h'
        exact (Option.some.inj h').symm
      subst this
      exact ⟨v, .cell hx hc (mem_upd ho) hd', hd⟩
    · have : V.s.lookup y = some e := by
        have h' : List.lookup y ((x, d) :: V.s) = some e := he'
        rw [List.lookup_cons] at h'
        simpa [show (y == x) = false from beq_eq_false_iff_ne.mpr hy] using h'
      obtain ⟨u, a, b⟩ := H.s y e this
      exact ⟨u, keep y u hy a, b⟩
  · obtain ⟨u, a, b⟩ := H.u y e he'
    exact ⟨u, keep y u (hu y e he') a, ownk u e b⟩
/-- a cell that is set already is stored anew -/
theorem Ex.asgCell {x : PySem.Str} {xp pos : Pos} {e : PySem.Expr} {d d₀ : D} (he : EnvOk env) (hx : env.kindOf x = some .cell) (hx0 : V.s.lookup x = some d₀) (hinj : ∀ y c, env.kindOf y = some .cell → env.cells.lookup x = some c → env.cells.lookup y = some c → y = x) (h : Ev W true lvl env V e d) (hu : ∀ y e, V.u = some (y, e) → y ≠ x) (hq : Q (.next { V with s := (x, d) :: V.s }))
    (hs : swapsWith e (some (.Name x xp)) pos.line env = pure false := by rfl) : Ex W lvl env V (exec (.Assign [.Name x xp] e pos) env) Q := by
  intro A fe h₀ m ext mu im s R E M l H k
  refine wpAny_Assign_Name (h A fe h₀ _ m ext mu im s _ E M l H fun v h₁ t₁ im₁ l₁ s₁ hd => ?_) hs
  obtain ⟨v₀, hv₀, _⟩ := H.s x d₀ hx0
  cases hv₀ with
  | loc a b c => rw [hx] at b; cases b
  | comp a b c d => rw [hx] at c; cases c
  | cell a b c d => exact storeCell he l₁ (H.mono s₁) hx b c d (fun y hy hc => hinj y _ hy b hc) hd hu fun h' o' ho' l' H' => k _ _ _ hq ⟨h', t₁, m, _, im₁, rfl, l', s₁, H'⟩
end
end Mine

namespace Mine
open PySem PySem.W PyProof.Rows PySem.Spec PySem.Calls PyProof.Rows.LCg PySem.NumText

section
variable {W : Wd} {b : Bool} {lvl : Nat} {env : Env} {V : Vs} {Q : Out → Prop}

/-- a for over a list of tuples, where what holds may speak of the own objects too -/
theorem for_cells {A : Around} {fe : Env} {h₀ : Heap} {m : PySem.Str → Option Value} {ext mu im : Led} {s : Shared} {E : Value → Shared → Prop} {R : Flow → Shared → Prop} {xs : List (PySem.Str × Pos)} {kd : Nat} {tp : Pos} {iter : PySem.Expr} {body : List Stmt} {pos : Pos} {ds : List D}
    (he : EnvOk env) (hx : ∀ p ∈ xs, env.kindOf p.1 = some .local) (h : Ev W true lvl env V iter (.list ds)) (hds : ∀ d ∈ ds, ∃ es, d = .tuple es ∧ xs.length = es.length)
    (M : Mach W A fe h₀ env.locals lvl) (l : Lay h₀ env.locals s.heap m ext mu im) (H : Holds W.prog W.w env env.locals m mu im V)
    (Inv : Nat → Vs → Led → Prop) (start : Inv 0 V mu) (hu : ∀ i V₁ mu₁ y e, Inv i V₁ mu₁ → V₁.u = some (y, e) → ∀ p ∈ xs, y ≠ p.1)
    (turn : ∀ i es V₁ (m₁ : PySem.Str → Option Value) (ext₁ mu₁ im₁ : Led) (s₁ : Shared) (R₁ : Flow → Shared → Prop) (E₁ : Value → Shared → Prop), ds[i]? = some (.tuple es) → Inv i V₁ mu₁ → Lay h₀ env.locals s₁.heap m₁ ext₁ mu₁ im₁ → Holds W.prog W.w env env.locals m₁ mu₁ im₁ { V₁ with s := putAll V₁.s (xs.map (·.1)) es } →
      (∀ h' tk' m' mu' im' V', Lay h₀ env.locals h' m' ext₁ mu' im' → (∀ p ∈ im₁, p ∈ im') → Holds W.prog W.w env env.locals m' mu' im' V' → Inv (i + 1) V' mu' → R₁ .next { s₁ with heap := h', toks := tk' }) → wpAny (model W.prog W.w) A (execs body env) R₁ E₁ s₁)
    (done : ∀ h' tk' m' mu' im' V', Lay h₀ env.locals h' m' ext mu' im' → (∀ p ∈ im, p ∈ im') → Holds W.prog W.w env env.locals m' mu' im' V' → Inv ds.length V' mu' → R .next { s with heap := h', toks := tk' })
    (hs : ∀ x, foldedSetIterable iter env x = pure x := by intro _; rfl) : wpAny (model W.prog W.w) A (exec (.For (.Tuple (xs.map fun p => PySem.Expr.Name p.1 p.2) kd tp) iter body [] pos) env) R E s := by
  refine (wpP_For true_clo (h A fe h₀ _ m ext mu im s _ E M l H fun xv h₁ t₁ im₁ l₁ s₁ hd => ?_) hs).any
  cases hd with
  | @list ax vs n _ hm r =>
  have hl := DIn.isList l₁.nIm hm
  refine wpAny_pyIter_list hl ?_
  obtain ⟨n1, n2, n3⟩ := next_new l₁
  have hlt : ax < h₁.objs.size := Heap.lt_size (l₁.nIm _ hm).1
  have Wk := Walks.list (prog := W.prog) (w := W.w) (A := A) M.hh h₁.objs.size ax (Nat.ne_of_lt hlt) vs.toArray
  have hsz : vs.toArray.size = ds.length := by rw [List.size_toArray, r.length]
  have it : ∀ (i : Nat) (v : Value), vs.toArray[i]? = some v → ∃ d, ds[i]? = some d ∧ DIn W.prog W.w im₁ v d := by
    intro i v hv
    have hv' : vs[i]? = some v := by simpa using hv
    have hi : i < ds.length := by
      rw [← r.length]
      rcases Nat.lt_or_ge i vs.length with h | h
      · exact h
      · rw [List.getElem?_eq_none h] at hv'; cases hv'
    obtain ⟨u, hu, hd⟩ := r.get (List.getElem?_eq_getElem hi)
    rw [hu] at hv'; cases hv'
    exact ⟨_, List.getElem?_eq_getElem hi, hd⟩
  rw [hsz] at Wk
  have l₂ : Lay h₀ env.locals (h₁.push { cls := .type "list_iterator", data := .fields #[.ref ax, .int 0 0] }) m ext mu im₁ := l₁.keeps fun _ _ e => Heap.get?_push_of_some _ e
  generalize hI : h₁.objs.size = I at *
  refine codeP_forLoop true_clo (fun k s' => ∃ h' tk m' mu' im' V' i, s' = { s with heap := h', toks := tk } ∧ (h'.IsListIter I ax i ∧ h'.IsList ax vs.toArray) ∧ Lay h₀ env.locals h' m' ext mu' im' ∧ (∀ p ∈ im₁, p ∈ im') ∧ (∀ p ∈ ext ++ (mu' ++ im'), p.1 ≠ I) ∧ Holds W.prog W.w env env.locals m' mu' im' V' ∧ Inv i V' mu' ∧ i ≤ ds.length ∧ k = ds.length + 1 - i) ?_ (ds.length + 1)
    ⟨_, _, m, mu, im₁, V, 0, rfl, ⟨⟨_, by rw [← hI]; exact Heap.get?_push_size _ rfl, rfl, rfl⟩, hl.push _⟩, l₂, sub_refl, n1, H.mono s₁, start, Nat.zero_le _, rfl⟩
  rintro k s' ⟨h', tk, m', mu', im', V', i, rfl, hst', l', hs', hI', H', hJ, hi, rfl⟩
  by_cases hlt' : i < ds.length
  · refine Wk.item i _ _ _ hlt' hst' fun v h₂ tk₁ hP hst₂ hk₂ => ?_
    obtain ⟨d, hd, hD⟩ := it i v hP
    obtain ⟨es, rfl, hes⟩ := hds d (List.mem_of_getElem? hd)
    have hD' := hD.mono hs'
    cases hD' with
    | tuple hm' r' =>
    refine wpAny_letOwnedTupleGo_listiter hst₂.1 ?_
    obtain ⟨oI, hoI, _⟩ := id hst₂.1
    have l₃ : Lay h₀ env.locals h₂ m' ((I, oI) :: ext) mu' im' := l'.iter (fun b o hb e => hk₂ b o (by simpa using hb) e) hoI n2 n3 hI'
    refine unpackT he M.hh l₃ H' (DIn.isTuple l₃.nIm hm') r' hx (fun p hp y e h => hu i V' mu' y e hJ h p hp) hes fun h₃ tk₃ m₃ l₄ H₄ => ?_
    refine .of (turn i es V' m₃ ((I, oI) :: ext) mu' im' _ _ _ hd hJ l₄ H₄ fun h₅ tk₅ m₅ mu₅ im₅ V₅ l₅ s₅ H₅ hJ₅ => ?_)
    refine ⟨ds.length + 1 - (i + 1), by omega, h₅, tk₅, m₅, mu₅, im₅, V₅, i + 1, rfl, ⟨?_, ?_⟩, l₅.drop, sub_trans hs' s₅, ?_, H₅, hJ₅, hlt', rfl⟩
    · have e1 := (l₅.nExt _ (.head _)).1
      exact hst₂.1.at fun o e => by rw [hoI] at e; cases e; exact e1
    · exact DIn.isList l₅.nIm (s₅ _ (hs' _ hm))
    · intro p hp
      rcases List.mem_append.mp hp with hp | hp
      · exact n1 p (List.mem_append.mpr (.inl hp))
      · rcases List.mem_append.mp hp with hp | hp
        · exact Ne.symm (l₅.a1 (I, oI) (.head _) p hp)
        · exact Ne.symm (l₅.a2 (I, oI) (.head _) p hp)
  · have hin : i = ds.length := by omega
    subst hin
    refine Wk.done _ _ _ hst' fun h₂ tk₁ hk₁ => ?_
    have l₃ : Lay h₀ env.locals h₂ m' ext mu' im' := by
      refine ⟨⟨l'.F.ns.at' fun o e => hk₁ _ o (by simpa using Ne.symm n2) e, fun b o e => hk₁ b o (by intro q; rw [List.mem_singleton.mp q, n3] at e; cases e) (l'.F.keep b o e), l'.F.above⟩, fun p hp => ⟨hk₁ _ _ (by simpa using hI' p hp) (l'.N p hp).1, (l'.N p hp).2⟩, l'.a1, l'.a2, l'.a3⟩
    exact done h₂ tk₁ m' mu' im' V' l₃ (sub_trans s₁ hs') H' hJ
end
end Mine

namespace Mine
open PySem PySem.W PyProof.Rows PySem.Spec PySem.Calls PyProof.Rows.LCg PySem.NumText

theorem cells_from {cm : PySem.Str → Option Value} : ∀ {cs : List (PySem.Str × Addr)} {cells : Led}, CellsAre cm cs cells → ∀ p ∈ cells, ∃ n, (n, p.1) ∈ cs
  | _, _, .nil, p, hp => nomatch hp
  | _, _, .cons _ r, p, hp => by
    rcases List.mem_cons.mp hp with rfl | hp
    · exact ⟨_, .head _⟩
    · obtain ⟨n, hn⟩ := cells_from r p hp
      exact ⟨n, .tail _ hn⟩

section
variable {W : Wd} {b : Bool} {lvl : Nat} {env : Env} {V : Vs} {Q : Out → Prop}

theorem Fn.ofC {f : Addr} {name qual : PySem.Str} {params : Arguments} {body : List Stmt} {scope : Scope} {dV kV doc pm cdv ct oc : Value} {an od : Option Addr} {osl : Array (Option Value)} {dx d : D} (x : PySem.Str)
    (ho : W.K.lookup f = some ⟨oc, od, .func (fnOf name qual params body scope dV kV doc pm an cdv ct), osl⟩) (hcd : codeIn W.K cdv qual = true)
    (hbind : ∀ s v, BindsTo s (fnOf name qual params body scope dV kV doc pm an cdv ct) ⟨[v], []⟩ [(x, v)])
    (hloc : scope.names.lookup x = some .local) (hnd : ((cellsFrom 0 scope.names []).map (·.1)).Nodup)
    (h : ∀ (L' : Addr) (A : Around) (h₀ : Heap) (m : PySem.Str → Option Value) (ext cells im : Led) (s : Shared) (R : Flow → Shared → Prop) (E : Value → Shared → Prop), Mach W A (envOfC qual scope L' f cdv) h₀ L' lvl → Lay h₀ L' s.heap m ext cells im → CellsAre (fun _ => none) (cellsFrom (L' + 1) scope.names []) cells →
      Holds W.prog W.w (envOfC qual scope L' f cdv) L' m cells im { s := [(x, dx)] } →
      (∀ v h' tk' m' mu' im', Lay h₀ L' h' m' ext mu' im' → (∀ p ∈ im, p ∈ im') → DIn W.prog W.w (mu' ++ im') v d → R (.ret v) { s with heap := h', toks := tk' }) → wpAny (model W.prog W.w) A (execs body (envOfC qual scope L' f cdv)) R E s)
    (hco : scope.isCoroutine = false) (hgen : scope.isGenerator = false) (hk : scope.kind = .function) : Fn W (lvl + 1) f [dx] d := by
  intro A fe h₀ L m ext mu im s Q E vs M l hds k
  cases hds with
  | @cons v _ _ _ hv hr =>
  cases hr
  obtain ⟨oL, hL, hN⟩ := ns_obj l.F.ns
  have X := M.X.keeps l.F.keep
  refine wpAny_call (codeAny_call_function (by have := M.room; omega) (X _ _ ho) rfl hco hgen rfl (codeRec_of X hcd) (hbind s v _ _ _ _ ?_))
  refine wpAny_newFunctionEnv_cells hk (fun y hy => by rw [List.mem_singleton.mp hy]; exact .inl hloc) fun env' he s' xc => ?_
  subst he
  refine ⟨(M.T.nolimit.keeps l.F.keep).keeps xc.toInCall.keep, codeAny_func ?_⟩
  obtain ⟨h₁, tk, rfl⟩ := xc.toInCall.same
  have hk₁ : ∀ b o, s.heap.get? b = some o → h₁.get? b = some o := xc.toInCall.keep
  have hkx : (envOfC qual scope s.heap.objs.size f cdv).kindOf x = some .local := hloc
  have hcm : bindC (envOfC qual scope s.heap.objs.size f cdv).kindOf [(x, v)] (fun _ => none) = fun _ => none := by
    simp only [bindC, hkx, if_true]
  have hlm : bindL (envOfC qual scope s.heap.objs.size f cdv).kindOf [(x, v)] (fun _ => none) = fun y => if y = x then some v else none := by
    simp only [bindL, hkx, if_true]
  have hcell := xc.cell
  have habove := xc.above
  have hns : h₁.Ns s.heap.objs.size (bindL (envOfC qual scope s.heap.objs.size f cdv).kindOf [(x, v)] (fun _ => none)) := xc.toInCall.ns
  obtain ⟨cells, NC, Y⟩ := Cl.news (h₀ := s.heap) (h := h₁) (L := s.heap.objs.size) (cm := bindC (envOfC qual scope s.heap.objs.size f cdv).kindOf [(x, v)] (fun _ => none)) (cs := cellsFrom (s.heap.objs.size + 1) scope.names []) (Nat.le_refl _) fun n c hm => ⟨xc.cell n c (lookup_of_mem_nodup (cellsFrom_names scope.names 0 (s.heap.objs.size + 1) [] [] rfl ▸ hnd) hm), xc.above n c hm⟩
  rw [hcm] at Y
  rw [hlm] at hns
  have ld := l.down hL rfl hns hk₁
  have hab : ∀ p ∈ cells, s.heap.objs.size < p.1 := fun p hp => by
    obtain ⟨n, hn⟩ := cells_from Y p hp
    exact habove n p.1 hn
  have lt : ∀ p ∈ (L, oL) :: (ext ++ mu) ++ ([] ++ im), p.1 < s.heap.objs.size := by
    intro p hp
    have hp' : p = (L, oL) ∨ p ∈ ext ++ (mu ++ im) := by simpa [List.append_assoc] using hp
    rcases hp' with rfl | hp'
    · exact Heap.lt_size hL
    · exact Heap.lt_size (l.N p hp').1
  have l' : Lay h₀ s.heap.objs.size h₁ (fun y => if y = x then some v else none) ((L, oL) :: (ext ++ mu)) cells im := by
    refine ⟨ld.F, fun p hp => ?_, fun p hp q hq e => ?_, ld.a2, fun p hp q hq e => ?_⟩
    · rcases List.mem_append.mp hp with hp | hp
      · exact ld.nExt p hp
      · rcases List.mem_append.mp hp with hp | hp
        · refine ⟨(NC p hp).1, (NC p hp).2.1, ?_⟩
          cases q : h₀.get? p.1 with
          | none => rfl
          | some o => have := l.F.keep _ _ q; rw [(NC p hp).2.2] at this; cases this
        · exact ld.nIm p hp
    · have h1 := lt p (List.mem_append.mpr (.inl hp))
      have h2 := hab q hq
      rw [e] at h1
      exact absurd h1 (Nat.not_lt.mpr (Nat.le_of_lt h2))
    · have h1 := lt q (List.mem_append.mpr (.inr hq))
      have h2 := hab p hp
      rw [← e] at h1
      exact absurd h1 (Nat.not_lt.mpr (Nat.le_of_lt h2))
  have M' : Mach W (A.deeper (envOfC qual scope s.heap.objs.size f cdv)) (envOfC qual scope s.heap.objs.size f cdv) h₀ s.heap.objs.size lvl :=
    ⟨M.hh, rfl, hk, M.X, M.T, by have := M.room; show A.depth + 1 + lvl < _; omega, by have := M.un; show A.units + 3 + 100 * lvl < _; omega, M.sc, M.sm⟩
  refine h s.heap.objs.size _ h₀ _ _ cells im _ _ _ M' l' Y ⟨fun y e he => ?_, fun y e he => nomatch he⟩ fun v' h' tk' m' mu' im' l₂ hs₂ r => ?_
  · rw [List.lookup_cons] at he
    by_cases hy : y = x
    · subst hy
      simp at he
      subst he
      exact ⟨v, .loc rfl hkx (if_pos rfl), hv⟩
    · simp [show (y == x) = false from beq_eq_false_iff_ne.mpr hy] at he
  · exact k v' h' tk' _ (l.up hN l₂) (fun p hp => List.mem_append.mpr (.inr (hs₂ p hp))) r
end
end Mine

namespace Mine
open PySem PySem.W PyProof.Rows PySem.Spec PySem.Calls PyProof.Rows.LCg

/-- the context is the claim's caller itself -/
def AtCl (Γ : PySem.Ctx) : Prop := isCl Γ.code = true

theorem wp_of_at {M : Model} {A : Around} {Γ : PySem.Ctx} {t : Sem Fin} {R : Result → Shared → Prop} {s : Shared} (hin : Γ.In A) (hat : AtCl Γ)
    (h : wpP AtCl M A t (fun fin s' => ∃ f, fin = .done f ∧ R (.ok f) s') (fun e s' => R (.error e) s') s) (p : Pos) :
    Sem.wp M Γ t (Sem.finPost M Γ R) (fun e _ s' => R (.error e) s') p s := by
  refine Sem.wp_mono M Γ t (fun fin p' s' h' => ?_) (fun _ _ _ h' => h') p s (h Γ p hin hat)
  obtain ⟨f, rfl, hf⟩ := h'
  exact hf
theorem thread_ends_at {prog : Program} {w : World} {t : Sem Fin} {s : Shared} {R : Result → Shared → Prop} (hreg : s.asleep)
    (h : wpP AtCl (model prog w) callerA t (fun fin s' => ∃ f, fin = .done f ∧ (R (.ok f) s' ∧ leftWithCleanup s'.gens = false)) (fun e s' => R (.error e) s' ∧ leftWithCleanup s'.gens = false) s) :
    ∃ n r s' s'', runN (denote table) prog w n s ⟨t, .builtin "claim.caller" {}, default, []⟩ = .halted (outcomeOf r) s' ∧
      schedN (denote table) prog w n (.single s ⟨t, .builtin "claim.caller" {}, default, []⟩) = .halted (outcomeOf r) s' ∧ s'.forget = s''.forget ∧ R r s'' := by
  obtain ⟨n, r, s₁, s₂, hs, hn, hfo, hR⟩ := wp_halts_full (M := model prog w) (R := R) hreg (wp_of_at (R := fun r s' => R r s' ∧ leftWithCleanup s'.gens = false) caller_in rfl h default)
  exact ⟨n, r, s₂, s₁, hn, hs, hfo, hR⟩

theorem callFrom_at {c : ClaimW} {tree : List Value → Sem Fin} {w : World} {s : Shared} {free : Addr → Prop} {gens : Prop} {kept : Heap → Prop} (hz : s.asleep) (hgens : s.gens = #[])
    (hspec : ∀ args, c.pre args = true → WData.layableAll args = true →
      ∀ ord : List DictEntry → List DictEntry, (∀ l, (ord l).Perm l) →
      ∃ vs s₁, layAllW c.records (classAt s.heap) w.params ord args s = some (vs, s₁) ∧
        wpP AtCl (model c.prog w) callerA (tree vs) (fun fin s' => ∃ f, fin = .done f ∧ (c.Ends s args vs s₁ (.ok f) s' ∧ s'.os = s.os ∧ AllBare s'.gens ∧ kept s'.heap))
          (fun e s' => c.Ends s args vs s₁ (.error e) s' ∧ s'.os = s.os ∧ AllBare s'.gens ∧ kept s'.heap) s₁) :
    c.CallFrom (fun vs => ⟨tree vs, .builtin "claim.caller" {}, default, []⟩) w free gens kept s := by
  intro args hpre hlay ord hord
  obtain ⟨vs, s₁, hlaid, hcode⟩ := hspec args hpre hlay ord hord
  have hal := layAllW_rest _ _ _ hlaid
  obtain ⟨k, r, s', s'', hrun, hsched, hfo, hcase, hos, hkp⟩ := thread_ends_at (prog := c.prog) (w := w) (t := tree vs) (s := s₁)
    (R := fun r s' => c.Ends s args vs s₁ r s' ∧ s'.os = s.os ∧ kept s'.heap)
    (Shared.asleep_of_life hal.2.2.2 hz)
    (wpP_mono hcode (by
      rintro fin s' ⟨f, e, h1, h2, h3, h4⟩
      exact ⟨f, e, ⟨h1, h2, h4⟩, leftWithCleanup_false_of_bare h3⟩) (by
      rintro e s' ⟨h1, h2, h3, h4⟩
      exact ⟨⟨h1, h2, h4⟩, leftWithCleanup_false_of_bare h3⟩))
  obtain ⟨eh, _, _, eo, _⟩ := Shared.forget_eq hfo
  have hcase := hcase.congr eh
  have hkp : kept s'.heap := by first | exact eh ▸ hkp | (rw [eh] at hkp; exact hkp) | (rw [← eh] at hkp; exact hkp)
  rw [← eo] at hos
  have hlife : s'.heap.life = s.heap.life := (runN_life _ _ _ hrun).trans hal.2.2.2
  refine ⟨vs, s₁, hlaid, k, _, s', hsched, ?_, (fun _ i x hx => by rw [hgens] at hx; simp at hx), hkp, by rw [hlife], Shared.rest_eq hos⟩
  rcases hcase with ⟨v, rfl, d1, d2, d3, d4, d5⟩ | ⟨e, ob, cls, rfl, d1, d2, d3, d4, d5⟩
  · exact .inl ⟨v, rfl, d1, d2, d3, fun b o y _ => d4 b o y, d5⟩
  · exact .inr ⟨e, ob, cls, rfl, d1, d2, d3, d4, fun b o y _ => d5 b o y⟩

theorem open_at {r : RowW} {run : Value → List Value → Sem Value} {tree : List Value → Sem Fin} {q : Program} {loose defs kps : List PySem.Str} {writes : Bool} {Xt : Shared → Bool} {XP : (PySem.Str → Option Value) → Heap → Prop} {α : Type} {Yf : Shared → α} {Ya : World → α} {YP : World → Heap → Prop} {N : Nat}
    (left : LeftO r.prog q loose Xt Yf Ya N) (hY : ∀ w s, Yf s = Ya w → YP w s.heap) (hYk : ∀ w h h', YP w h → (∀ b o, h.get? b = some o → h'.get? b = some o) → YP w h') (hX : ∀ s, Xt s = true → XP (s.heap.nsMap mainGlobals) s.heap) (hXk : ∀ mg h h', XP mg h → (∀ b o, h.get? b = some o → h'.get? b = some o) → XP mg h')
    (hRf : ∀ s, Xt s = true → RecFacts r.records s.heap) (hwr : (!writes || r.records.isEmpty) = true) (ok : (chainsOk q && opensWell r.prog && (frees r && r.within.isEmpty)) = true) (hb : r.prog.bare) (hw : r.promised)
    (ht : ∀ vs (w : World) (s : Shared) mg f (Q : Fin → Shared → Prop) (E : Value → Shared → Prop), s.heap.Ns mainGlobals mg → mg r.name = some f → wpP AtCl (model r.prog w) callerA (run f vs) (fun v s' => Q (.done (.ret v)) s') E s → wpP AtCl (model r.prog w) callerA (tree vs) Q E s)
    (pin : ∀ w s, s.heap.isNs mainGlobals = true → Ground q loose [] XP w s (s.heap.nsMap mainGlobals) (s.heap.nsMap builtinsNs) s.heap → ∀ n ∈ defs, isTheDefsW r.prog s.heap n)
    (call : ∀ (w : World) (s₀ s₁ : Shared) (mg mb : PySem.Str → Option Value), Ground q loose r.records XP w s₀ mg mb s₁.heap → YP w s₁.heap → ∀ (args : List WData) (vs : List Value) (as : List Addr),
      r.claim.pre args = true → WData.layableAll args = true → Laid r.records w s₀ s₁ args vs as → sysModules < s₀.heap.objs.size → ∃ f, mg r.name = some f ∧
        wpP AtCl (model r.prog w) callerA (run f vs) (fun v s' => GoodWG r.claim (classAt s₀.heap) (ExcName.means s₀.heap) args s₁ (.ok (.ret v)) s')
          (fun e s' => GoodWG r.claim (classAt s₀.heap) (ExcName.means s₀.heap) args s₁ (.error e) s') s₁) : r.claim.HoldsOpenBy (fun vs => ⟨tree vs, .builtin "claim.caller" {}, default, []⟩) defs kps writes := by
  obtain ⟨ok, k5⟩ := Bool.and_eq_true_iff.mp ok
  obtain ⟨hch, o1⟩ := Bool.and_eq_true_iff.mp ok
  obtain ⟨k5, k6⟩ := Bool.and_eq_true_iff.mp k5
  obtain ⟨hsame, hu, ha, hap, hm⟩ := frees_parts k5
  refine ⟨⟨hb, o1, by show r.makers.map _ = []; rw [hm]; rfl⟩, hw.witness, fun w => ⟨(left.behind hX hch w).1, fun s' hs' => ?_⟩⟩
  obtain ⟨s₀, hf, hg0, s, hT, hz, hgens, hg, G00, y⟩ := (left.behind (XP := fun mg h => XP mg h ∧ RecFacts r.records h) (fun s hs => ⟨hX s hs, hRf s hs⟩) hch w).2 s' hs'
  have G0 : Ground q loose [] XP w s (s.heap.nsMap mainGlobals) (s.heap.nsMap builtinsNs) s.heap := ⟨G00.T, G00.B, G00.D, G00.TE, G00.TD, G00.W, G00.X.1, G00.cls, G00.has, G00.apart, G00.once, G00.K⟩
  have RF := G00.X.2
  have hT' := hT
  refine ⟨s₀, hf, hg0, s, hT, pin w s hg G0, RF.1, RF.2.1, ?_⟩
  have hgens : s.gens = #[] := Array.eq_empty_of_size_eq_zero (beq_iff_eq.mp hgens)
  have G : Ground q loose r.records XP w s _ _ s.heap := RF.ground G0
  refine callFrom_at (c := r.claim) hz hgens fun args hpre hlay ord hord => ?_
  obtain ⟨⟨vs, s₁⟩, hlaid⟩ := Option.isSome_iff_exists.mp (layAllW_isSome (P := w.params) (ord := ord) G.has args r.args s (pre_splitW hpre).1)
  have keeps := layAllW_keeps _ _ _ hlaid
  have hal := layAllW_rest _ _ _ hlaid
  obtain ⟨as, hrd, hin, hold⟩ := reads_layAllW hord _ _ _ hlaid hlay s₁.heap (fun _ _ e => e)
  have L : Laid r.records w s s₁ args vs as := ⟨⟨ord, hord, hlaid⟩, hrd, hin, hold, keeps, hal.1.trans hgens, hal.2.2.1⟩
  have G₁ := G.keeps hXk keeps
  obtain ⟨f, hf, h⟩ := call w s s₁ _ _ G₁ (hYk _ _ _ (hY w s y) keeps) args vs as hpre hlay L G.low
  have hi := ident_freeW hu ha hap
  have hwi : r.claim.within = [] := List.isEmpty_iff.mp k6
  exact ⟨vs, s₁, hlaid, ht vs w s₁ _ f _ _ G₁.T.g hf (wpP_mono h (fun v s' g => ⟨_, rfl, have z := g.laid (c := r.claim) hsame hwi hi L; ⟨z.1, z.2.1, z.2.2, fun q => ⟨namesKept_of hT' hg kps keeps g.2.1.old, noTable hwr q⟩⟩⟩) fun e s' g => have z := g.laid (c := r.claim) hsame hwi hi L; ⟨z.1, z.2.1, z.2.2, fun q => ⟨namesKept_of hT' hg kps keeps g.2.1.old, noTable hwr q⟩⟩)⟩

abbrev WalkAt (q : Program) (loose : List PySem.Str) (XP : (PySem.Str → Option Value) → Heap → Prop) (YP : World → Heap → Prop) (r : RowW) (d : DefRec) (kwd : List (PySem.Str × PySem.Expr)) (run : Value → List Value → Sem Value) : Prop :=
  ∀ (w : World) (s₀ s₁ : Shared) (mg mb : PySem.Str → Option Value), Ground q loose r.records XP w s₀ mg mb s₁.heap → YP w s₁.heap → ∀ (a : Addr) (o : Obj) (pm cd doc dV kV : Value), s₁.heap.get? a = some o →
    o.data = .func { docDef d.name d.params d.body d.scope pm cd doc with defaults := dV, kwdefaults := kV } → s₁.heap.CodeRec cd d.name → Dflts mg s₁.heap d.params kwd dV kV → mg d.name = some (.ref a) → s₁.gens = #[] →
    ∀ (args : List WData) (vals : List Value) (as : List Addr), r.claim.pre args = true → WData.layableAll args = true → ReadsAllW r.records (classAt s₀.heap) s₁.heap vals args as → WellAll w.params s₁.heap vals args → (∀ a ∈ as, (a == sysModules) = false) →
      wpP AtCl (model r.prog w) callerA (run (.ref a) vals) (fun v s' => GoodWG r.claim (classAt s₀.heap) (ExcName.means s₀.heap) args s₁ (.ok (.ret v)) s')
        (fun e s' => GoodWG r.claim (classAt s₀.heap) (ExcName.means s₀.heap) args s₁ (.error e) s') s₁

end Mine
namespace MineTop
open Mine
theorem PySem.W.holds_open {r : OpenRow} {q : Program} {loose : List PySem.Str} {Xt : Shared → Bool} {XP : (PySem.Str → Option Value) → Heap → Prop} {α : Type} {Yf : Shared → α} {Ya : World → α} {YP : World → Heap → Prop} {d : DefRec} {kwd : List (PySem.Str × PySem.Expr)} {N : Nat}
    (left : LeftO r.prog q loose Xt Yf Ya N) (hY : ∀ w s, Yf s = Ya w → YP w s.heap) (hYk : ∀ w h h', YP w h → (∀ b o, h.get? b = some o → h'.get? b = some o) → YP w h')
    (hX : ∀ s, Xt s = true → XP (s.heap.nsMap mainGlobals) s.heap) (hXk : ∀ mg h h', XP mg h → (∀ b o, h.get? b = some o → h'.get? b = some o) → XP mg h')
    (hdef : defOf q r.name = some (d, kwd)) (hp : r.prog.theDef r.name = some (d.params, d.body, d.scope)) (hk : kwWritten? d.params.kwonlyargs d.params.kw_defaults = some kwd) (hRf : ∀ s, Xt s = true → RecFacts r.records s.heap) (hwr : (!r.writes || r.records.isEmpty) = true)
    (k1 : r.wellSaid = true) (ok : (chainsOk q && opensWell r.prog && (frees r.toRowW && r.within.isEmpty)) = true) (hb : r.prog.bare) (hw : r.toRowW.promised)
    (call : WalkAt q loose XP YP r.toRowW d kwd fun f vs => PySem.call f vs) : r.Holds := by
  refine ⟨k1, hw, open_at (r := r.toRowW) (run := fun f vs => PySem.call f vs) (tree := fun vs => do match ← nsGet mainNs r.name with
      | some f => do ret (← PySem.call f vs)
      | none => unsupported "claim.caller:no-such-global") left hY hYk hX hXk hRf hwr ok hb hw
    (fun vs w s mg f Q E hg hf h => wpP_bind (.of (wpAny_nsGet hg (by rw [hf]; exact wpP_bind (wpP_mono h (fun _ _ x => wpP_pure x) fun _ _ x => x)))))
    (fun w s hg G n hn => ?_) fun w s₀ s₁ mg mb G Y args vs as hpre hlay L low => ?_⟩
  · obtain rfl : n = r.name := by split at hn <;> simp_all
    exact pinned_of_view hg G hdef hp hk
  · obtain ⟨a, o, pm, cd, doc, dV, kV, h1, h2, h3, h4, h5⟩ := G.fn hdef
    exact ⟨.ref a, h1, call w s₀ s₁ mg mb G Y a o pm cd doc dV kV h2 h3 h4 h5 (defOf_name hdef ▸ h1) L.gens args vs as hpre hlay L.reads L.well (L.low low)⟩
end MineTop

namespace MineTop
set_option maxHeartbeats 8000000 in
open_top hd for PySem.Challenge.rw_mj0103_01
end MineTop

namespace Mine
open PySem PySem.W PyProof.Rows PySem.Spec PySem.Calls PyProof.Rows.LCg

theorem boot_str : bootBuiltins "str" = some (.type "str") := by decide +kernel
theorem boot_int : bootBuiltins "int" = some (.type "int") := by decide +kernel
theorem boot_len : bootBuiltins "len" = some (.builtin "len") := by decide +kernel
theorem boot_sum : bootBuiltins "sum" = some (.builtin "sum") := by decide +kernel
theorem boot_range : bootBuiltins "range" = some (.type "range") := by decide +kernel
theorem boot_isinstance : bootBuiltins "isinstance" = some (.builtin "isinstance") := by decide +kernel
theorem boot_tuple : bootBuiltins "tuple" = some (.type "tuple") := by decide +kernel
theorem boot_map : bootBuiltins "map" = some (.type "map") := by decide +kernel

theorem lk0 {α : Type} {x : PySem.Str} {d : α} {r : List (PySem.Str × α)} : List.lookup x ((x, d) :: r) = some d := List.lookup_cons_self
theorem lk1 {α : Type} {x y : PySem.Str} {d e : α} {r : List (PySem.Str × α)} (h : (x == y) = false) (k : List.lookup x r = some d) : List.lookup x ((y, e) :: r) = some d := by rw [List.lookup_cons, h]; exact k

section
variable {W : Wd} (hK : W.K = MineTop.hd.heap_39 W.w.params) {lvl : Nat}
include hK

/-- a part: its writing, its number -/
abbrev prt (p : PySem.Str × D) : D := .tuple [.str p.1, p.2]
abbrev dot (xs : List PySem.Str) : PySem.Str := Txt.join "." xs

theorem k_dotted : nsIn W.K mainGlobals "_law_dotted" = some (some (.ref 69)) := by rw [hK]; rfl
theorem k_str : nsIn W.K mainGlobals "str" = some none := by rw [hK]; rfl

omit hK in
theorem sum_le : ∀ (xs : List PySem.Str), (∀ x ∈ xs, x.length ≤ 20) → (xs.map (·.length)).sum ≤ 20 * xs.length
  | [], _ => by simp
  | x :: xs, h => by
    have := sum_le xs fun y hy => h y (.tail _ hy)
    have := h x (.head _)
    simp only [List.map_cons, List.sum_cons, List.length_cons]
    omega
omit hK in
theorem join_fits {xs : List PySem.Str} {sep : PySem.Str} (h : ∀ x ∈ xs, x.length ≤ 20) (hl : xs.length ≤ 100) (hs : sep.length ≤ 1) : (xs.map (·.length)).sum + xs.length * sep.length ≤ 16777216 := by
  have := sum_le xs h
  have h2 : xs.length * sep.length ≤ xs.length * 1 := Nat.mul_le_mul_left _ hs
  omega

theorem dotted_fn (ps : List (PySem.Str × D)) (hsz : ps.length ≤ 100) (hw : ∀ p ∈ ps, p.1.length ≤ 20) : Fn W (lvl + 1) 69 [.list (ps.map prt)] (.str (dot (ps.map (·.1)))) := by
  refine Fn.of [PySem.Str.ofString "parts"] (by rw [hK]; rfl) (by rw [hK]; rfl) (fun s vs hl => ?_) (by decide +kernel) (by decide +kernel) (fun L' => ?_) rfl rfl rfl (by decide +kernel)
  · match vs, hl with
    | [v], _ => exact BindsTo.of_eq rfl
  refine Ex.cons (Ex.ret (Ev.joinB (xs := ps.map (·.1)) (d := .list ((ps.map (·.1)).map D.str)) (.inl rfl) ?_ (join_fits (by intro x hx; obtain ⟨p, hp, rfl⟩ := List.mem_map.mp hx; exact hw p hp) (by simpa using hsz) (by decide)) (by rfl)) (by rfl))
  have e : (ps.map (·.1)).map D.str = ((ps.map prt).filter fun _ => true).map fun d => (match d with | .tuple (d :: _) => d | d => d) := by
    rw [List.filter_eq_self.mpr (fun _ _ => rfl), List.map_map, List.map_map]; rfl
  rw [e]
  refine Ev.comp (cl := []) (Vo := { s := [] }) (Src.list (Ev.name (envOk rfl) rfl) (.inr ⟨⟨_, _, _, rfl⟩, fun d hd => ?_⟩)) ⟨rfl, by decide +kernel, rfl, by decide +kernel⟩ Sees.none (fun _ => true) (fun d => (match d with | .tuple (d :: _) => d | d => d))
    (fun d => match d with | .tuple [x, y] => { s := [("number", y), ("writing", x)] } | _ => { s := [] }) (by rw [List.length_map]; exact Nat.le_trans hsz (by decide)) (fun d hd => ?_) (fun C d hd => tests_nil) fun C d hd _ => ?_
  · obtain ⟨p, _, rfl⟩ := List.mem_map.mp hd
    exact ⟨_, rfl⟩
  · obtain ⟨p, _, rfl⟩ := List.mem_map.mp hd
    exact Bnd.pair rfl rfl rfl (by decide)
  · obtain ⟨p, _, rfl⟩ := List.mem_map.mp hd
    exact Ev.name (compEnv_ok (envOk rfl) rfl) rfl
end
end Mine

namespace Mine
open PySem PySem.W PyProof.Rows PySem.Spec PySem.Calls PyProof.Rows.LCg

abbrev Tn (i : Int) : PySem.Str := PySem.Str.ofString (toString i)
def num5 (n : Int) : Int := if n < 10 then 50 + n else 500 + n
def parts8 (n : Int) : List (PySem.Str × D) := [(Tn n, .int n), ("0" ++ Tn n, .int n), (Tn n ++ " ", .int n), (" " ++ Tn n, .int n), ("5_" ++ Tn n, .int (num5 n)), ("-" ++ Tn n, .int (-n)), (Tn n ++ "a", .none), ("", .none)]
def part (r : Int) : PySem.Str × D := (parts8 ((r.fdiv 8).fmod 60)).getD (r.fmod 8).toNat ("", .none)

theorem num5_text : ∀ n : Nat, n < 60 → PySem.intText? ("5" ++ Tn n) = some (num5 n) ∧ (Tn n).length ≤ 2 := by decide +kernel
theorem mod60 (r : Int) : ∃ n : Nat, (r.fdiv 8).fmod 60 = n ∧ n < 60 := by
  have h1 : 0 ≤ (r.fdiv 8).fmod 60 := Int.fmod_nonneg_of_pos _ (by decide)
  have h2 : (r.fdiv 8).fmod 60 < 60 := Int.fmod_lt_of_pos _ (by decide)
  exact ⟨((r.fdiv 8).fmod 60).toNat, by omega, by omega⟩

section
variable {W : Wd} (hK : W.K = MineTop.hd.heap_39 W.w.params) {lvl : Nat}
include hK

theorem k_part : nsIn W.K mainGlobals "_law_part" = some (some (.ref 57)) := by rw [hK]; rfl
theorem k_int : nsIn W.K mainGlobals "int" = some none := by rw [hK]; rfl

local macro_rules | `(tactic| tb_start) => `(tactic| repeat' (first
  | (with_reducible refine Ev.cInt) | (with_reducible refine Ev.cStr) | (with_reducible refine Ev.cNone) | (with_reducible refine Ev.cBool)
  | ((with_reducible apply Ev.name); (case he => first | exact envOk rfl | exact compEnv_ok (envOk rfl) rfl); (case hx => exact rfl); (case hd => decide +kernel))
  | (with_reducible apply Ev.bin)
  | (with_reducible apply Ev.unary)
  | ((with_reducible apply Ev.tuple); (case hsz => decide +kernel))
  | ((with_reducible apply Ev.list); (case hsz => decide +kernel))
  | (with_reducible refine Evs.nil)
  | ((with_reducible apply Evs.cons); (case hs => (intro _; rfl)))
  | (with_reducible refine op_add) | (with_reducible refine op_sub) | (with_reducible refine op_neg)
  | ((with_reducible refine op_mod ?a9); (case a9 => decide +kernel))
  | ((with_reducible refine op_div ?a9 ?b9); (case a9 => decide +kernel); (case b9 => decide +kernel))))
theorem part_fn (r : Int) : Fn W (lvl + 1) 57 [.int r] (prt (part r)) := by
  refine Fn.of [PySem.Str.ofString "rest"] (by rw [hK]; rfl) (by rw [hK]; rfl) (fun s vs hl => ?_) (by decide +kernel) (by decide +kernel) (fun L' => ?_) rfl rfl rfl (by decide +kernel)
  · match vs, hl with
    | [v], _ => exact BindsTo.of_eq rfl
  obtain ⟨n, hn, hlt⟩ := mod60 r
  obtain ⟨t1, t2⟩ := num5_text n hlt
  refine Ex.cons (Ex.asg (d := .int n) (envOk rfl) rfl ?_ (by intro y e h; cases h) ?_)
  · rw [← hn]; tb_start
  refine Ex.cons (Ex.asg (d := .str (Tn n)) (envOk rfl) rfl ?_ (by intro y e h; cases h) ?_)
  · refine Ev.callT1 (d₁ := .int n) (envOk rfl) (k_str hK) boot_str ?_ (op_strInt ?_) rfl
    · tb_start
    · have : (n : Int).natAbs.log2 ≤ (n : Int).natAbs := Nat.log2_le_self _
      omega
  refine Ex.cons (Ex.ret (d := prt (part r)) ?_ (by rfl))
  have hr0 : 0 ≤ r.fmod 8 := Int.fmod_nonneg_of_pos _ (by decide)
  have hr8 : r.fmod 8 < 8 := Int.fmod_lt_of_pos _ (by decide)
  have hitem : ((parts8 n).map prt)[(r.fmod 8).toNat]? = some (prt (part r)) := by
    unfold part
    rw [hn]
    have h8 : (r.fmod 8).toNat < 8 := by omega
    rw [List.getElem?_map, List.getD_eq_getElem?_getD]
    have : (parts8 n)[(r.fmod 8).toNat]? = some ((parts8 n)[(r.fmod 8).toNat]'h8) := List.getElem?_eq_getElem h8
    rw [this]; rfl
  have sl : ∀ k, k ≤ 10 → k ≤ sizeLine := fun k hk => Nat.le_trans hk (by decide)
  have h5 : (PySem.Str.ofString "5").length = 1 := by decide +kernel
  have q1 : ∀ y : PySem.Str, y.length ≤ 2 → Op2 W false lvl (binaryOp .Add) (.str y) (.str (Tn n)) (.str (y ++ Tn n)) := fun y hy => op_cat (sl _ (by omega))
  have q2 : ∀ y : PySem.Str, y.length ≤ 2 → Op2 W false lvl (binaryOp .Add) (.str (Tn n)) (.str y) (.str (Tn n ++ y)) := fun y hy => op_cat (sl _ (by omega))
  have q3 : Op1 W false lvl (fun v => call (.type "int") [v]) (.str ("5" ++ Tn n)) (.int (num5 n)) := op_intText t1 (by rw [Str.length_append]; omega)
  refine Ev.sub (d₁ := .list ((parts8 n).map prt)) (d₂ := .int (r.fmod 8)) ?_ (by tb_start) (op_itemList hr0 hitem (by omega))
  refine Ev.list (ds := (parts8 n).map prt) ?_
  simp only [parts8, List.map_cons, List.map_nil]
  tb_start
  all_goals first
    | (with_reducible refine q1 _ ?_; decide +kernel)
    | (with_reducible refine q2 _ ?_; decide +kernel)
    | ((with_reducible refine Ev.callT1 (d₁ := .str ("5" ++ Tn n)) ?a9 (k_int hK) boot_int ?b9 q3 ?c9 ?d9 ?e9 ?f9); (case a9 => exact envOk rfl); (case c9 => exact rfl); (case d9 => (intro _; rfl)); (case e9 => decide +kernel); (case f9 => decide +kernel); tb_start; exact q1 _ (by decide +kernel))
end
end Mine

namespace Mine
open PySem PySem.W PyProof.Rows PySem.Spec PySem.Calls PyProof.Rows.LCg

section
variable {W : Wd} (hK : W.K = MineTop.hd.heap_39 W.w.params) {lvl : Nat}
include hK
local macro_rules | `(tactic| tb_rel) => `(tactic| (first | exact rfl | ((try dsimp only); repeat (first | with_reducible exact lk0 | assumption | (with_reducible refine lk1 (by decide +kernel) ?_)))))
local macro_rules | `(tactic| tb_start) => `(tactic| repeat' (first
  | (with_reducible refine Ev.cInt) | (with_reducible refine Ev.cStr) | (with_reducible refine Ev.cNone) | (with_reducible refine Ev.cBool)
  | ((with_reducible apply Ev.name); (case he => first | exact envOk rfl | exact compEnv_ok (envOk rfl) rfl); (case hx => tb_rel); (case hd => decide +kernel))
  | (with_reducible apply Ev.bin)
  | (with_reducible apply Ev.unary)
  | ((with_reducible apply Ev.tuple); (case hsz => decide +kernel))
  | ((with_reducible apply Ev.list); (case hsz => decide +kernel))
  | (with_reducible refine Evs.nil)
  | ((with_reducible apply Evs.cons); (case hs => (intro _; rfl)))
  | (with_reducible refine op_add) | (with_reducible refine op_sub) | (with_reducible refine op_neg)
  | ((with_reducible refine op_mod ?a9); (case a9 => decide +kernel))
  | ((with_reducible refine op_div ?a9 ?b9); (case a9 => decide +kernel); (case b9 => decide +kernel))))
theorem count_fn (kvs : List (PySem.Str × Int)) : Fn W (lvl + 1) 50 [.dict kvs] (.int (kvs.map (·.2)).sum) := by
  refine Fn.of [PySem.Str.ofString "callers"] (by rw [hK]; rfl) (by rw [hK]; rfl) (fun s vs hl => ?_) (by decide +kernel) (by decide +kernel) (fun L' => ?_) rfl rfl rfl (by decide +kernel)
  · match vs, hl with
    | [v], _ => exact BindsTo.of_eq rfl
  refine Ex.cons (Ex.asg (d := .int 0) (envOk rfl) rfl (by tb_start) (by intro y e h; cases h) ?_)
  refine Ex.cons (ExP.any (ExP.forValues true_clo (envOk rfl) rfl (kvs := kvs) rfl rfl (fun i V => V.u = none ∧ V.s.lookup (PySem.Str.ofString "nc") = some (D.int ((kvs.map (·.2)).take i).sum)) ⟨rfl, rfl⟩ (fun i V₁ y e h1 h2 => by rw [h1.1] at h2; cases h2) (fun i key n V₁ hn h1 => Ex.toP ?_) fun V' hV => ?_))
  · obtain ⟨hu, hv⟩ := h1
    refine Ex.cons (Ex.augName (i := ((kvs.map (·.2)).take i).sum) (j := n) (envOk rfl) rfl (by tb_rel) (by tb_start) (fun y e h => by rw [hu] at h; cases h) (Ex.nil ⟨hu, ?_⟩))
    have e : ((kvs.map (·.2)).take (i + 1)).sum = ((kvs.map (·.2)).take i).sum + n := by
      rw [List.take_add_one, List.getElem?_map, hn]
      simp
    rw [e]
    tb_rel
  · obtain ⟨hu, hv⟩ := hV
    have e : (kvs.map (·.2)).take kvs.length = kvs.map (·.2) := by rw [← List.length_map (f := (·.2)), List.take_length]
    rw [e] at hv
    exact Ex.cons (Ex.ret (by tb_start) rfl)
end
end Mine

namespace Mine
open PySem PySem.W PyProof.Rows PySem.Spec PySem.Calls PyProof.Rows.LCg

section
variable {W : Wd} (hK : W.K = MineTop.hd.heap_39 W.w.params) {lvl : Nat}
include hK
local macro_rules | `(tactic| tb_rel) => `(tactic| (first | exact rfl | ((try dsimp only); repeat (first | with_reducible exact lk0 | assumption | (with_reducible refine lk1 (by decide +kernel) ?_)))))
local macro_rules | `(tactic| tb_start) => `(tactic| repeat' (first
  | (with_reducible refine Ev.cInt) | (with_reducible refine Ev.cStr) | (with_reducible refine Ev.cNone) | (with_reducible refine Ev.cBool)
  | ((with_reducible apply Ev.name); (case he => first | exact envOk rfl | exact compEnv_ok (envOk rfl) rfl); (case hx => tb_rel); (case hd => decide +kernel))
  | (with_reducible apply Ev.bin)
  | (with_reducible apply Ev.unary)
  | ((with_reducible apply Ev.tuple); (case hsz => decide +kernel))
  | ((with_reducible apply Ev.list); (case hsz => decide +kernel))
  | (with_reducible refine Evs.nil)
  | ((with_reducible apply Evs.cons); (case hs => (intro _; rfl)))
  | (with_reducible refine op_add) | (with_reducible refine op_sub) | (with_reducible refine op_neg)
  | ((with_reducible refine op_mod ?a9); (case a9 => decide +kernel))
  | ((with_reducible refine op_div ?a9 ?b9); (case a9 => decide +kernel); (case b9 => decide +kernel))))
omit hK in
theorem put_length (kvs : List (PySem.Str × Int)) (k : PySem.Str) (n : Int) : (put kvs k n).length ≤ kvs.length + 1 := by
  unfold put
  split
  · rw [List.length_map]; omega
  · rw [List.length_append]; exact Nat.le_refl _
omit hK in
theorem puts_length (ts : List (PySem.Str × Int)) : ∀ a : List (PySem.Str × Int), (ts.foldl (fun a kv => put a kv.1 kv.2) a).length ≤ a.length + ts.length := by
  induction ts with
  | nil => intro a; simp
  | cons t ts ih =>
    intro a
    rw [List.foldl_cons]
    have h1 := ih (put a t.1 t.2)
    have h2 := put_length a t.1 t.2
    rw [List.length_cons]; omega
def merge1 (t : List (PySem.Str × Int)) : List (PySem.Str × Int) := t.foldl (fun a kv => put a kv.1 kv.2) []
def addOne (a : List (PySem.Str × Int)) (k : PySem.Str) (n : Int) : List (PySem.Str × Int) := match at? a k with
  | some i => put a k (i + n)
  | none => put a k n
omit hK in
theorem addOne_some {a : List (PySem.Str × Int)} {k : PySem.Str} {i n : Int} (h : at? a k = some i) : addOne a k n = put a k (i + n) := by unfold addOne; rw [h]
omit hK in
theorem addOne_none {a : List (PySem.Str × Int)} {k : PySem.Str} {n : Int} (h : at? a k = none) : addOne a k n = put a k n := by unfold addOne; rw [h]
def addCallers (t s : List (PySem.Str × Int)) : List (PySem.Str × Int) := s.foldl (fun a kv => addOne a kv.1 kv.2) (merge1 t)
omit hK in
theorem adds_length (ts : List (PySem.Str × Int)) : ∀ a : List (PySem.Str × Int), (ts.foldl (fun a kv => addOne a kv.1 kv.2) a).length ≤ a.length + ts.length := by
  induction ts with
  | nil => intro a; simp
  | cons t ts ih =>
    intro a
    rw [List.foldl_cons]
    have h1 := ih (addOne a t.1 t.2)
    have h2 : (addOne a t.1 t.2).length ≤ a.length + 1 := by
      unfold addOne
      split <;> exact put_length _ _ _
    rw [List.length_cons]; omega

theorem k_isinstance : nsIn W.K mainGlobals "isinstance" = some none := by rw [hK]; rfl
theorem k_tuple : nsIn W.K mainGlobals "tuple" = some none := by rw [hK]; rfl

/-- isinstance of an int against tuple -/
theorem isi_tuple {env : Env} {V : Vs} {x : PySem.Str} {xp np tp pos : Pos} {n : Int} (he : EnvOk env) (hx : V.s.lookup x = some (.int n)) (h1 : env.kindOf "isinstance" = some .globalImplicit) (h2 : env.kindOf "tuple" = some .globalImplicit) (hd : (x == ("__debug__" : PySem.Str)) = false := by decide +kernel) :
    Tr W lvl env V (.Call (.Name "isinstance" np) [.Name x xp, .Name "tuple" tp] [] pos) false := by
  intro A fe h₀ L m ext mu im s Q E M l H kk
  obtain ⟨u, hu, hud⟩ := H.s x _ hx
  cases hud with
  | int _ t =>
  refine wpAny_isTrue_value (wpAny_Call_NameR (nameB (v := .builtin "isinstance") M l.F he (k_isinstance hK) boot_isinstance (by decide +kernel) h1 (by decide +kernel) ?_)) rfl
  refine PyProof.Rows.callWith_builtin1 (spliced_cons (wpAny_Name (hu.load he.k l (spliced_cons (nameB (v := .type "tuple") M l.F he (k_tuple hK) boot_tuple (by decide +kernel) h2 (by decide +kernel) (spliced_nil ?_)))) hd)) rfl rfl
  exact PySem.IsiPair.int_tuple (wpAny_truthy_bool (kk _ _ _ l sub_refl))

theorem callers_fn (t s : List (PySem.Str × Int)) (hsz : t.length + s.length ≤ 1000) : Fn W (lvl + 1) 43 [.dict t, .dict s] (.dict (addCallers t s)) := by
  refine Fn.of [PySem.Str.ofString "target", PySem.Str.ofString "source"] (by rw [hK]; rfl) (by rw [hK]; rfl) (fun s vs hl => ?_) (by decide +kernel) (by decide +kernel) (fun L' => ?_) rfl rfl rfl (by decide +kernel)
  · match vs, hl with
    | [v, u], _ => exact BindsTo.of_eq rfl
  refine Ex.cons (Ex.asgF (d := .dict []) (envOk rfl) rfl EvF.nilDict rfl rfl ?_)
  refine Ex.cons (ExP.any (ExP.forItems true_clo (envOk rfl) rfl rfl (kvs := t) rfl rfl (fun i V => V.u = some (PySem.Str.ofString "new_callers", D.dict ((t.take i).foldl (fun a kv => put a kv.1 kv.2) [])) ∧ V.s.lookup (PySem.Str.ofString "source") = some (D.dict s)) ⟨rfl, rfl⟩ (fun i V₁ y e h1 h2 => by rw [h1.1] at h2; cases h2; exact ⟨by decide +kernel, by decide +kernel⟩) (fun i key n V₁ hn h1 => Ex.toP ?_) fun V' hV => ?_))
  · obtain ⟨hu, hv⟩ := h1
    refine Ex.cons (Ex.dictSet (k := key) (n := n) (envOk rfl) hu (by tb_rel) (by tb_start) ?_ (Ex.nil ⟨?_, by tb_rel⟩))
    · have := puts_length (t.take i) []
      rw [List.length_take] at this
      exact fits1000 (by simp at this; omega)
    · show some _ = some _
      rw [List.take_add_one, hn]
      simp [List.foldl_append]
  obtain ⟨hu, hv⟩ := hV
  rw [List.take_length] at hu
  refine Ex.cons (ExP.any (ExP.forItems true_clo (envOk rfl) rfl rfl (kvs := s) hv rfl (fun i V => V.u = some (PySem.Str.ofString "new_callers", D.dict ((s.take i).foldl (fun a kv => addOne a kv.1 kv.2) (merge1 t)))) hu (fun i V₁ y e h1 h2 => by rw [h1] at h2; cases h2; exact ⟨by decide +kernel, by decide +kernel⟩) (fun i key n V₁ hn hu => Ex.toP ?_) fun V' hV => ?_))
  · have hlen : ((s.take i).foldl (fun a kv => addOne a kv.1 kv.2) (merge1 t)).length ≤ sizeLine := by
      have h1 := adds_length (s.take i) (merge1 t)
      have h2 := puts_length t []
      rw [List.length_take] at h1
      exact fits1000 (by unfold merge1 at h1; simp at h2; unfold merge1; omega)
    have hstep : (s.take (i + 1)).foldl (fun a kv => addOne a kv.1 kv.2) (merge1 t) = addOne ((s.take i).foldl (fun a kv => addOne a kv.1 kv.2) (merge1 t)) key n := by
      rw [List.take_add_one, hn]
      simp [List.foldl_append]
    refine Ex.cons (Ex.ifs (c := (at? ((s.take i).foldl (fun a kv => addOne a kv.1 kv.2) (merge1 t)) key).isSome) (Tr.cmp false (d₁ := .str key) (d₂ := .dict ((s.take i).foldl (fun a kv => addOne a kv.1 kv.2) (merge1 t))) (by tb_start) (Ev.nameU (envOk rfl) hu (by decide +kernel)) op_inDict) (fun hc => ?_) fun hc => ?_)
    · obtain ⟨j, hj⟩ := Option.isSome_iff_exists.mp hc
      refine Ex.cons (Ex.ifs (c := false) (isi_tuple hK (n := n) (envOk rfl) (by tb_rel) rfl rfl) (fun h => by cases h) fun _ => ?_)
      refine Ex.cons (Ex.dictAug (k := key) (n := n) (i := j) (envOk rfl) hu (by tb_rel) (by tb_rel) hj hlen (Ex.nil ?_))
      refine Ex.nil (Ex.nil ?_)
      show some _ = some _
      rw [hstep, addOne_some hj]
    · have hj : at? ((s.take i).foldl (fun a kv => addOne a kv.1 kv.2) (merge1 t)) key = none := by simpa using hc
      refine Ex.cons (Ex.dictSet (k := key) (n := n) (envOk rfl) hu (by tb_rel) (by tb_start) hlen (Ex.nil (Ex.nil ?_)))
      show some _ = some _
      rw [hstep, addOne_none hj]
  rw [List.take_length] at hV
  exact Ex.cons (Ex.ret (Ev.nameU (envOk rfl) hV (by decide +kernel)) rfl)
end
end Mine

namespace Mine
open PySem PySem.W PyProof.Rows PySem.Spec PySem.Calls PyProof.Rows.LCg

section
variable {W : Wd} (hK : W.K = MineTop.hd.heap_39 W.w.params) {lvl : Nat}
include hK
local macro_rules | `(tactic| tb_rel) => `(tactic| (first | exact rfl | ((try dsimp only); repeat (first | with_reducible exact lk0 | assumption | (with_reducible refine lk1 (by decide +kernel) ?_)))))
local macro_rules | `(tactic| tb_start) => `(tactic| repeat' (first
  | (with_reducible refine Ev.cInt) | (with_reducible refine Ev.cStr) | (with_reducible refine Ev.cNone) | (with_reducible refine Ev.cBool)
  | ((with_reducible apply Ev.name); (case he => first | exact envOk rfl | exact compEnv_ok (envOk rfl) rfl); (case hx => tb_rel); (case hd => decide +kernel))
  | (with_reducible apply Ev.bin)
  | (with_reducible apply Ev.unary)
  | ((with_reducible apply Ev.tuple); (case hsz => decide +kernel))
  | ((with_reducible apply Ev.list); (case hsz => decide +kernel))
  | (with_reducible refine Evs.nil)
  | ((with_reducible apply Evs.cons); (case hs => (intro _; rfl)))
  | (with_reducible refine op_add) | (with_reducible refine op_sub) | (with_reducible refine op_neg)
  | ((with_reducible refine op_mod ?a9); (case a9 => decide +kernel))
  | ((with_reducible refine op_div ?a9 ?b9); (case a9 => decide +kernel); (case b9 => decide +kernel))))
theorem k_callers : nsIn W.K mainGlobals "add_callers" = some (some (.ref 43)) := by rw [hK]; rfl
theorem keep43 : keepIn W.K (.ref 43) = true := by rw [hK]; rfl

theorem stats_fn (i₁ i₂ i₃ i₄ j₁ j₂ j₃ j₄ : Int) (t s : List (PySem.Str × Int)) (hsz : t.length + s.length ≤ 1000) :
    Fn W (lvl + 2) 36 [.tuple [.int i₁, .int i₂, .int i₃, .int i₄, .dict t], .tuple [.int j₁, .int j₂, .int j₃, .int j₄, .dict s]] (.tuple [.int (j₁ + i₁), .int (j₂ + i₂), .int (j₃ + i₃), .int (j₄ + i₄), .dict (addCallers t s)]) := by
  refine Fn.of [PySem.Str.ofString "target", PySem.Str.ofString "source"] (by rw [hK]; rfl) (by rw [hK]; rfl) (fun s vs hl => ?_) (by decide +kernel) (by decide +kernel) (fun L' => ?_) rfl rfl rfl (by decide +kernel)
  · match vs, hl with
    | [v, u], _ => exact BindsTo.of_eq rfl
  refine Ex.cons (Ex.asgT (xs := [(PySem.Str.ofString "cc", _), (PySem.Str.ofString "nc", _), (PySem.Str.ofString "tt", _), (PySem.Str.ofString "ct", _), (PySem.Str.ofString "callers", _)]) (ds := [.int j₁, .int j₂, .int j₃, .int j₄, .dict s]) (envOk rfl) (by tb_start) ?_ (by intro p hp y e h; cases h) rfl ?_ rfl rfl)
  · repeat' (first | exact List.forall_mem_nil _ | refine List.forall_mem_cons.mpr ⟨rfl, ?_⟩)
  refine Ex.cons (Ex.asgT (xs := [(PySem.Str.ofString "t_cc", _), (PySem.Str.ofString "t_nc", _), (PySem.Str.ofString "t_tt", _), (PySem.Str.ofString "t_ct", _), (PySem.Str.ofString "t_callers", _)]) (ds := [.int i₁, .int i₂, .int i₃, .int i₄, .dict t]) (envOk rfl) (by tb_start) ?_ (by intro p hp y e h; cases h) rfl ?_ rfl rfl)
  · repeat' (first | exact List.forall_mem_nil _ | refine List.forall_mem_cons.mpr ⟨rfl, ?_⟩)
  refine Ex.cons (Ex.ret (d := .tuple [.int (j₁ + i₁), .int (j₂ + i₂), .int (j₃ + i₃), .int (j₄ + i₄), .dict (addCallers t s)]) ?_ rfl)
  refine Ev.tuple (.cons (by tb_start) (.cons (by tb_start) (.cons (by tb_start) (.cons (by tb_start) (.cons ?_ .nil)))))
  exact Ev.callG (envOk rfl) (k_callers hK) (keep43 hK) (ds := [.dict t, .dict s]) (by tb_start) (callers_fn hK t s hsz) rfl (by decide +kernel)
end
end Mine

namespace Mine
open PySem PySem.W PyProof.Rows PySem.Spec PySem.Calls PyProof.Rows.LCg

section
variable {W : Wd} (hK : W.K = MineTop.hd.heap_39 W.w.params) {lvl : Nat}
include hK
local macro_rules | `(tactic| tb_rel) => `(tactic| (first | exact rfl | ((try dsimp only); repeat (first | with_reducible exact lk0 | assumption | (with_reducible refine lk1 (by decide +kernel) ?_)))))
local macro_rules | `(tactic| tb_start) => `(tactic| repeat' (first
  | (with_reducible refine Ev.cInt) | (with_reducible refine Ev.cStr) | (with_reducible refine Ev.cNone) | (with_reducible refine Ev.cBool)
  | ((with_reducible apply Ev.name); (case he => first | exact envOk rfl | exact compEnv_ok (envOk rfl) rfl); (case hx => tb_rel); (case hd => decide +kernel))
  | (with_reducible apply Ev.bin)
  | (with_reducible apply Ev.unary)
  | ((with_reducible apply Ev.tuple); (case hsz => decide +kernel))
  | ((with_reducible apply Ev.list); (case hsz => decide +kernel))
  | (with_reducible refine Evs.nil)
  | ((with_reducible apply Evs.cons); (case hs => (intro _; rfl)))
  | (with_reducible refine op_add) | (with_reducible refine op_sub) | (with_reducible refine op_neg)
  | ((with_reducible refine op_mod ?a9); (case a9 => decide +kernel))
  | ((with_reducible refine op_div ?a9 ?b9); (case a9 => decide +kernel); (case b9 => decide +kernel))))
structure Ms where
  sys : PySem.Str
  rel : List (PySem.Str × D)
  ver : List (PySem.Str × D)
  bld : PySem.Str × D
def six : List PySem.Str := ["win32", "win16", "Windows", "SunOS", "Solaris", "Linux"]
def sol : List (PySem.Str × D) := [("2", .int 2), ("11", .int 11)]
def sun : List (PySem.Str × D) := [("5", .int 5), ("11", .int 11)]
def m0 : Ms := ⟨"SunOS", sun, [("04", .int 4)], ("", .none)⟩
def step (m : Ms) (x : Int) : Ms :=
  if (x.fmod 8 == 0) = true then { m with sys := six.getD ((x.fdiv 8).fmod 6).toNat "" }
  else if (x.fmod 8 == 1) = true then { m with rel := [part (x.fdiv 8)] }
  else if (x.fmod 8 == 2) = true then { m with rel := m.rel ++ [part (x.fdiv 8)] }
  else if (x.fmod 8 == 3) = true then { m with ver := [part (x.fdiv 8)] }
  else if (x.fmod 8 == 4) = true then { m with ver := m.ver ++ [part (x.fdiv 8)] }
  else if (x.fmod 8 == 5) = true then { m with bld := part (x.fdiv 8) }
  else if (x.fmod 8 == 6 && (x.fdiv 8).fmod 2 == 0) = true then { m with sys := "Solaris", rel := sol }
  else if (x.fmod 8 == 6) = true then { m with sys := "SunOS", rel := sun }
  else m
def bkD (m : Ms) (x : Int) : D := .tuple [.str m.sys, .list (m.rel.map prt), .list (m.ver.map prt), prt m.bld, .int (x.fmod 1000)]
def foldB (a : Ms × List (Ms × Int)) (x : Int) : Ms × List (Ms × Int) := (step a.1 x, a.2 ++ [(step a.1 x, x)])
def stAt (xs : List Int) (i : Nat) : Ms × List (Ms × Int) := (xs.take i).foldl foldB (m0, [])
def books (xs : List Int) : List (Ms × Int) := (xs.foldl foldB (m0, [])).2

omit hK in
theorem step_len (m : Ms) (x : Int) : (step m x).rel.length ≤ max 2 (m.rel.length + 1) ∧ (step m x).ver.length ≤ max 2 (m.ver.length + 1) := by
  unfold step
  repeat' split
  all_goals first | (simp [sol, sun]; done) | (simp [sol, sun]; omega) | omega
omit hK in
theorem st_succ {xs : List Int} {i : Nat} {x : Int} (h : xs[i]? = some x) : stAt xs (i + 1) = foldB (stAt xs i) x := by
  unfold stAt
  rw [List.take_add_one, h]
  simp [List.foldl_append]
omit hK in
theorem st_len (xs : List Int) : ∀ i, (stAt xs i).1.rel.length ≤ 2 + i ∧ (stAt xs i).1.ver.length ≤ 2 + i ∧ (stAt xs i).2.length ≤ i := by
  intro i
  induction i with
  | zero => exact ⟨(by decide : m0.rel.length ≤ 2), (by decide : m0.ver.length ≤ 2), Nat.le_refl _⟩
  | succ i ih =>
    cases h : xs[i]? with
    | some x =>
      rw [st_succ h]
      have h1 := step_len (stAt xs i).1 x
      refine ⟨?_, ?_, ?_⟩
      · show (step _ x).rel.length ≤ _; omega
      · show (step _ x).ver.length ≤ _; omega
      · show (_ ++ [_]).length ≤ _; rw [List.length_append, List.length_singleton]; omega
    | none =>
      have e : stAt xs (i + 1) = stAt xs i := by
        unfold stAt
        rw [List.take_add_one, h]; simp
      rw [e]; omega

omit hK in
theorem Ex.andThen {env : Env} {V : Vs} {st : Stmt} {rest : List Stmt} {Q : Out → Prop} (P : Vs → Prop) (h : Ex W lvl env V (exec st env) (nextIs P)) (k : ∀ V', P V' → Ex W lvl env V' (execs rest env) Q) : Ex W lvl env V (execs (st :: rest) env) Q :=
  Ex.cons (h.mono fun o ho => match o, ho with | .next V', hp => k V' hp)

omit hK in
/-- the script's first items -/
theorem Ev.scriptUpto {env : Env} {V : Vs} {b : Bool} {x : PySem.Str} {np : Pos} {k kd : Nat} {kp p pos : Pos} (h : Ev W b lvl env V (.Name x np) (.addr W.scA)) (hsz : W.scN.length ≤ 1000) :
    Ev W b lvl env V (.Subscript (.Name x np) (.Slice none (some (.Constant (.int (k : Int)) kd kp)) none p) pos) (.list ((W.scN.take k).map D.int)) := by
  intro A fe h₀ L m ext mu im s Q E M l H kk
  obtain ⟨vs, hl, hi⟩ := M.sc
  refine wpAny_Subscript_list_slice (h A fe h₀ L m ext mu im s _ E M l H fun v h₁ t₁ im₁ l₁ s₁ hd => ?_) (by intro _ _; rfl)
  refine wpAny_evalPart_none (wpAny_evalPart_some (wpAny_Constant_int ?_))
  cases hd
  refine ⟨W.scA, vs.toArray, none, some (k : Int), rfl, hl.at fun o e => l₁.F.keep _ _ e, by rw [List.size_toArray, hi.length]; exact fits1000 hsz, .none, .int _ _, ?_⟩
  rw [pick_upto]
  have l₂ := (l₁.push { cls := .type "slice", data := .fields #[.none, .int (k : Int) t₁, .none] }).push { cls := .type "list", data := .seq (vs.take k).toArray }
  have e : (h₁.push { cls := .type "slice", data := .fields #[.none, .int (k : Int) t₁, .none] }).objs.size = h₁.objs.size + 1 := Heap.size_push ..
  rw [e] at l₂
  have allInts : ∀ (vs : List Value) (ns : List Int), IntsAre vs ns → ∀ im, DAll W.prog W.w im vs (ns.map D.int) := by
    intro vs ns hi im
    induction hi with
    | nil => exact .nil
    | cons i t r ih => exact .cons (.int i t) ih
  exact kk _ _ _ _ l₂ (sub_trans s₁ (sub_trans sub_cons sub_cons)) (.list (n := 0) (vis_im _ (.head _)) (by rw [List.map_take]; exact ((allInts vs W.scN hi _).take k)))

theorem keep57 : keepIn W.K (.ref 57) = true := by rw [hK]; rfl
end
end Mine

namespace Mine
open PySem PySem.W PyProof.Rows PySem.Spec PySem.Calls PyProof.Rows.LCg

section
variable {W : Wd} (hK : W.K = MineTop.hd.heap_39 W.w.params) {lvl : Nat}
include hK
local macro_rules | `(tactic| tb_rel) => `(tactic| (first | exact rfl | ((try dsimp only); repeat (first | with_reducible exact lk0 | assumption | (with_reducible refine lk1 (by decide +kernel) ?_)))))
local macro_rules | `(tactic| tb_start) => `(tactic| repeat' (first
  | (with_reducible refine Ev.cInt) | (with_reducible refine Ev.cStr) | (with_reducible refine Ev.cNone) | (with_reducible refine Ev.cBool)
  | ((with_reducible apply Ev.name); (case he => first | exact envOk rfl | exact compEnv_ok (envOk rfl) rfl); (case hx => tb_rel); (case hd => decide +kernel))
  | (with_reducible apply Ev.bin)
  | (with_reducible apply Ev.unary)
  | ((with_reducible apply Ev.tuple); (case hsz => decide +kernel))
  | ((with_reducible apply Ev.list); (case hsz => decide +kernel))
  | (with_reducible refine Evs.nil)
  | ((with_reducible apply Evs.cons); (case hs => (intro _; rfl)))
  | (with_reducible refine op_add) | (with_reducible refine op_sub) | (with_reducible refine op_neg)
  | ((with_reducible refine op_mod ?a9); (case a9 => decide +kernel))
  | ((with_reducible refine op_div ?a9 ?b9); (case a9 => decide +kernel); (case b9 => decide +kernel))))
/-- the names of the building loop -/
def BInv (xs : List Int) (i : Nat) (V : Vs) : Prop :=
  V.u = some (PySem.Str.ofString "bookings", D.list ((stAt xs i).2.map fun p => bkD p.1 p.2)) ∧ V.s.lookup (PySem.Str.ofString "system") = some (D.str (stAt xs i).1.sys) ∧ V.s.lookup (PySem.Str.ofString "release") = some (D.list ((stAt xs i).1.rel.map prt)) ∧
  V.s.lookup (PySem.Str.ofString "version") = some (D.list ((stAt xs i).1.ver.map prt)) ∧ V.s.lookup (PySem.Str.ofString "build") = some (prt (stAt xs i).1.bld)
/-- behind the turn's choice -/
def BMid (u : Option (PySem.Str × D)) (x : Int) (m : Ms) (V : Vs) : Prop :=
  V.u = u ∧ V.s.lookup (PySem.Str.ofString "x") = some (D.int x) ∧ V.s.lookup (PySem.Str.ofString "system") = some (D.str m.sys) ∧ V.s.lookup (PySem.Str.ofString "release") = some (D.list (m.rel.map prt)) ∧
  V.s.lookup (PySem.Str.ofString "version") = some (D.list (m.ver.map prt)) ∧ V.s.lookup (PySem.Str.ofString "build") = some (prt m.bld)

theorem bookings_fn (hsz : W.scN.length ≤ 1000) : Fn W (lvl + 2) 64 [.addr W.scA] (.list ((books ([7] ++ W.scN.take 12)).map fun p => bkD p.1 p.2)) := by
  refine Fn.of [PySem.Str.ofString "script"] (by rw [hK]; rfl) (by rw [hK]; rfl) (fun s vs hl => ?_) (by decide +kernel) (by decide +kernel) (fun L' => ?_) rfl rfl rfl (by decide +kernel)
  · match vs, hl with
    | [v], _ => exact BindsTo.of_eq rfl
  refine Ex.cons (Ex.asg (d := .str m0.sys) (envOk rfl) rfl (by show Ev _ _ _ _ _ _ (.str "SunOS"); tb_start) (by intro y e h; cases h) ?_)
  refine Ex.cons (Ex.asg (d := .list (m0.rel.map prt)) (envOk rfl) rfl (by show Ev _ _ _ _ _ _ (.list [.tuple [.str "5", .int 5], .tuple [.str "11", .int 11]]); tb_start) (by intro y e h; cases h) ?_)
  refine Ex.cons (Ex.asg (d := .list (m0.ver.map prt)) (envOk rfl) rfl (by show Ev _ _ _ _ _ _ (.list [.tuple [.str "04", .int 4]]); tb_start) (by intro y e h; cases h) ?_)
  refine Ex.cons (Ex.asg (d := prt m0.bld) (envOk rfl) rfl (by show Ev _ _ _ _ _ _ (.tuple [.str "", .none]); tb_start) (by intro y e h; cases h) ?_)
  refine Ex.cons (Ex.asgF (d := .list []) (envOk rfl) rfl EvF.nilList rfl rfl ?_)
  have hxs : ([7] ++ W.scN.take 12).length ≤ 13 := by simp; omega
  have e7 : ([7] ++ W.scN.take 12).map D.int = [D.int 7] ++ (W.scN.take 12).map D.int := rfl
  refine Ex.cons (ExP.any (ExP.forName true_clo (envOk rfl) rfl (ds := ([7] ++ W.scN.take 12).map D.int) ?_ (BInv ([7] ++ W.scN.take 12)) ⟨rfl, rfl, rfl, rfl, rfl⟩ (fun i V₁ y e h1 h2 => by rw [h1.1] at h2; cases h2; decide +kernel) (fun i d V₁ hd hI => Ex.toP ?_) fun V' hV => ?_))
  · rw [e7]
    refine Ev.bin (d₁ := .list [.int 7]) (d₂ := .list ((W.scN.take 12).map D.int)) (by tb_start) (Ev.scriptUpto (k := 12) (by tb_start) hsz) (op_catList (fits1000 ?_))
    simp; omega
  · rw [List.getElem?_map] at hd
    obtain ⟨x, hx, rfl⟩ := Option.map_eq_some_iff.mp hd
    have hi : i < 13 := by
      have : i < ([7] ++ W.scN.take 12).length := by
        rcases Nat.lt_or_ge i ([7] ++ W.scN.take 12).length with h | h
        · exact h
        · rw [List.getElem?_eq_none h] at hx; cases hx
      omega
    have hlen := st_len ([7] ++ W.scN.take 12) i
    have hsucc := st_succ hx
    unfold BInv at hI ⊢
    rw [hsucc]
    generalize stAt ([7] ++ W.scN.take 12) i = S at hI hlen ⊢
    obtain ⟨hu, h1, h2, h3, h4⟩ := hI
    refine Ex.cons (Ex.asg (d := .int (x.fmod 8)) (envOk rfl) rfl (by tb_start) (by intro y e h; rw [hu] at h; cases h; decide +kernel) ?_)
    refine Ex.cons (Ex.asg (d := .int (x.fdiv 8)) (envOk rfl) rfl (by tb_start) (by intro y e h; rw [hu] at h; cases h; decide +kernel) ?_)
    refine Ex.andThen (BMid V₁.u x (step S.1 x)) ?_ fun V' hV' => ?_
    · have hr0 : 0 ≤ (x.fdiv 8).fmod 6 := Int.fmod_nonneg_of_pos _ (by decide)
      have hr6 : (x.fdiv 8).fmod 6 < 6 := Int.fmod_lt_of_pos _ (by decide)
      have hitem : (six.map D.str)[((x.fdiv 8).fmod 6).toNat]? = some (.str (six.getD ((x.fdiv 8).fmod 6).toNat "")) := by
        have h6 : ((x.fdiv 8).fmod 6).toNat < six.length := by show _ < 6; omega
        rw [List.getElem?_map, List.getD_eq_getElem?_getD, List.getElem?_eq_getElem h6]; rfl
      refine Ex.ifs (c := (x.fmod 8 == 0)) (Tr.cmp true (d₁ := .int (x.fmod 8)) (d₂ := .int 0) (by tb_start) (by tb_start) op_eqInt) (fun h0 => ?_) fun h0 => ?_
      · have hst : step S.1 x = { S.1 with sys := six.getD ((x.fdiv 8).fmod 6).toNat "" } := by unfold step; simp only [h0, if_true, Bool.false_eq_true, if_false]
        refine Ex.cons (Ex.asg (d := .str (six.getD ((x.fdiv 8).fmod 6).toNat "")) (envOk rfl) rfl ?_ (by intro y e h; rw [hu] at h; cases h; decide +kernel) (Ex.nil ?_))
        · refine Ev.sub (d₁ := .list (six.map D.str)) (d₂ := .int ((x.fdiv 8).fmod 6)) (by show Ev _ _ _ _ _ _ (.list [.str "win32", .str "win16", .str "Windows", .str "SunOS", .str "Solaris", .str "Linux"]); tb_start) (by tb_start) (op_itemList hr0 hitem (by omega))
        · rw [hst]; exact ⟨rfl, by tb_rel, by tb_rel, by tb_rel, by tb_rel, by tb_rel⟩
      refine Ex.cons (Ex.mono (Q := nextIs (BMid V₁.u x (step S.1 x))) ?_ fun o ho => match o, ho with | .next V', hp => Ex.nil hp)
      refine Ex.ifs (c := (x.fmod 8 == 1)) (Tr.cmp true (d₁ := .int (x.fmod 8)) (d₂ := .int 1) (by tb_start) (by tb_start) op_eqInt) (fun h1 => ?_) fun h1 => ?_
      · have hst : step S.1 x = { S.1 with rel := [part (x.fdiv 8)] } := by unfold step; simp only [h1, h0, if_true, Bool.false_eq_true, if_false]
        refine Ex.cons (Ex.asg (d := .list [prt (part (x.fdiv 8))]) (envOk rfl) rfl ?_ (by intro y e h; rw [hu] at h; cases h; decide +kernel) (Ex.nil ?_))
        · exact Ev.list (.cons (Ev.callG (envOk rfl) (k_part hK) (keep57 hK) (ds := [.int (x.fdiv 8)]) (by tb_start) (part_fn hK _) rfl (by decide +kernel)) .nil)
        · rw [hst]; exact ⟨rfl, by tb_rel, by tb_rel, by tb_rel, by tb_rel, by tb_rel⟩
      refine Ex.cons (Ex.mono (Q := nextIs (BMid V₁.u x (step S.1 x))) ?_ fun o ho => match o, ho with | .next V', hp => Ex.nil hp)
      refine Ex.ifs (c := (x.fmod 8 == 2)) (Tr.cmp true (d₁ := .int (x.fmod 8)) (d₂ := .int 2) (by tb_start) (by tb_start) op_eqInt) (fun h2 => ?_) fun h2 => ?_
      · have hst : step S.1 x = { S.1 with rel := S.1.rel ++ [part (x.fdiv 8)] } := by unfold step; simp only [h2, h0, h1, if_true, Bool.false_eq_true, if_false]
        refine Ex.cons (Ex.asg (d := .list ((S.1.rel ++ [part (x.fdiv 8)]).map prt)) (envOk rfl) rfl ?_ (by intro y e h; rw [hu] at h; cases h; decide +kernel) (Ex.nil ?_))
        · rw [List.map_append]; exact Ev.bin (d₁ := .list (S.1.rel.map prt)) (d₂ := .list [prt (part (x.fdiv 8))]) (by tb_start) (Ev.list (.cons (Ev.callG (envOk rfl) (k_part hK) (keep57 hK) (ds := [.int (x.fdiv 8)]) (by tb_start) (part_fn hK _) rfl (by decide +kernel)) .nil)) (op_catList (fits1000 (by simp; omega)))
        · rw [hst]; exact ⟨rfl, by tb_rel, by tb_rel, by tb_rel, by tb_rel, by tb_rel⟩
      refine Ex.cons (Ex.mono (Q := nextIs (BMid V₁.u x (step S.1 x))) ?_ fun o ho => match o, ho with | .next V', hp => Ex.nil hp)
      refine Ex.ifs (c := (x.fmod 8 == 3)) (Tr.cmp true (d₁ := .int (x.fmod 8)) (d₂ := .int 3) (by tb_start) (by tb_start) op_eqInt) (fun h3 => ?_) fun h3 => ?_
      · have hst : step S.1 x = { S.1 with ver := [part (x.fdiv 8)] } := by unfold step; simp only [h3, h0, h1, h2, if_true, Bool.false_eq_true, if_false]
        refine Ex.cons (Ex.asg (d := .list [prt (part (x.fdiv 8))]) (envOk rfl) rfl ?_ (by intro y e h; rw [hu] at h; cases h; decide +kernel) (Ex.nil ?_))
        · exact Ev.list (.cons (Ev.callG (envOk rfl) (k_part hK) (keep57 hK) (ds := [.int (x.fdiv 8)]) (by tb_start) (part_fn hK _) rfl (by decide +kernel)) .nil)
        · rw [hst]; exact ⟨rfl, by tb_rel, by tb_rel, by tb_rel, by tb_rel, by tb_rel⟩
      refine Ex.cons (Ex.mono (Q := nextIs (BMid V₁.u x (step S.1 x))) ?_ fun o ho => match o, ho with | .next V', hp => Ex.nil hp)
      refine Ex.ifs (c := (x.fmod 8 == 4)) (Tr.cmp true (d₁ := .int (x.fmod 8)) (d₂ := .int 4) (by tb_start) (by tb_start) op_eqInt) (fun h4 => ?_) fun h4 => ?_
      · have hst : step S.1 x = { S.1 with ver := S.1.ver ++ [part (x.fdiv 8)] } := by unfold step; simp only [h4, h0, h1, h2, h3, if_true, Bool.false_eq_true, if_false]
        refine Ex.cons (Ex.asg (d := .list ((S.1.ver ++ [part (x.fdiv 8)]).map prt)) (envOk rfl) rfl ?_ (by intro y e h; rw [hu] at h; cases h; decide +kernel) (Ex.nil ?_))
        · rw [List.map_append]; exact Ev.bin (d₁ := .list (S.1.ver.map prt)) (d₂ := .list [prt (part (x.fdiv 8))]) (by tb_start) (Ev.list (.cons (Ev.callG (envOk rfl) (k_part hK) (keep57 hK) (ds := [.int (x.fdiv 8)]) (by tb_start) (part_fn hK _) rfl (by decide +kernel)) .nil)) (op_catList (fits1000 (by simp; omega)))
        · rw [hst]; exact ⟨rfl, by tb_rel, by tb_rel, by tb_rel, by tb_rel, by tb_rel⟩
      refine Ex.cons (Ex.mono (Q := nextIs (BMid V₁.u x (step S.1 x))) ?_ fun o ho => match o, ho with | .next V', hp => Ex.nil hp)
      refine Ex.ifs (c := (x.fmod 8 == 5)) (Tr.cmp true (d₁ := .int (x.fmod 8)) (d₂ := .int 5) (by tb_start) (by tb_start) op_eqInt) (fun h5 => ?_) fun h5 => ?_
      · have hst : step S.1 x = { S.1 with bld := part (x.fdiv 8) } := by unfold step; simp only [h5, h0, h1, h2, h3, h4, if_true, Bool.false_eq_true, if_false]
        refine Ex.cons (Ex.asg (d := prt (part (x.fdiv 8))) (envOk rfl) rfl ?_ (by intro y e h; rw [hu] at h; cases h; decide +kernel) (Ex.nil ?_))
        · exact (Ev.callG (envOk rfl) (k_part hK) (keep57 hK) (ds := [.int (x.fdiv 8)]) (by tb_start) (part_fn hK _) rfl (by decide +kernel))
        · rw [hst]; exact ⟨rfl, by tb_rel, by tb_rel, by tb_rel, by tb_rel, by tb_rel⟩
      refine Ex.cons (Ex.mono (Q := nextIs (BMid V₁.u x (step S.1 x))) ?_ fun o ho => match o, ho with | .next V', hp => Ex.nil hp)
      refine Ex.ifs (c := (x.fmod 8 == 6 && (x.fdiv 8).fmod 2 == 0)) (Tr.and2 (c := (x.fmod 8 == 6)) (Tr.cmp true (d₁ := .int (x.fmod 8)) (d₂ := .int 6) (by tb_start) (by tb_start) op_eqInt) (fun hc => ?_) (fun hc => by rw [hc]; rfl)) (fun h6 => ?_) fun h6 => ?_
      · have : (x.fmod 8 == 6 && (x.fdiv 8).fmod 2 == 0) = ((x.fdiv 8).fmod 2 == 0) := by rw [hc]; rfl
        rw [this]
        exact Tr.cmp true (d₁ := .int ((x.fdiv 8).fmod 2)) (d₂ := .int 0) (by tb_start) (by tb_start) op_eqInt
      · have hst : step S.1 x = { S.1 with sys := "Solaris", rel := sol } := by unfold step; simp only [h0, h1, h2, h3, h4, h5, h6, if_true, Bool.false_eq_true, if_false]
        refine Ex.cons (Ex.asg (d := .str "Solaris") (envOk rfl) rfl (by tb_start) (by intro y e h; rw [hu] at h; cases h; decide +kernel) ?_)
        refine Ex.cons (Ex.asg (d := .list (sol.map prt)) (envOk rfl) rfl (by show Ev _ _ _ _ _ _ (.list [.tuple [.str "2", .int 2], .tuple [.str "11", .int 11]]); tb_start) (by intro y e h; rw [hu] at h; cases h; decide +kernel) (Ex.nil ?_))
        rw [hst]; exact ⟨rfl, by tb_rel, by tb_rel, by tb_rel, by tb_rel, by tb_rel⟩
      refine Ex.cons (Ex.mono (Q := nextIs (BMid V₁.u x (step S.1 x))) ?_ fun o ho => match o, ho with | .next V', hp => Ex.nil hp)
      refine Ex.ifs (c := (x.fmod 8 == 6)) (Tr.cmp true (d₁ := .int (x.fmod 8)) (d₂ := .int 6) (by tb_start) (by tb_start) op_eqInt) (fun h7 => ?_) fun h7 => ?_
      · have hst : step S.1 x = { S.1 with sys := "SunOS", rel := sun } := by unfold step; rw [if_neg (by rw [h0]; decide), if_neg (by rw [h1]; decide), if_neg (by rw [h2]; decide), if_neg (by rw [h3]; decide), if_neg (by rw [h4]; decide), if_neg (by rw [h5]; decide), if_neg (by rw [h6]; decide), if_pos h7]
        refine Ex.cons (Ex.asg (d := .str "SunOS") (envOk rfl) rfl (by tb_start) (by intro y e h; rw [hu] at h; cases h; decide +kernel) ?_)
        refine Ex.cons (Ex.asg (d := .list (sun.map prt)) (envOk rfl) rfl (by show Ev _ _ _ _ _ _ (.list [.tuple [.str "5", .int 5], .tuple [.str "11", .int 11]]); tb_start) (by intro y e h; rw [hu] at h; cases h; decide +kernel) (Ex.nil ?_))
        rw [hst]; exact ⟨rfl, by tb_rel, by tb_rel, by tb_rel, by tb_rel, by tb_rel⟩
      have hst : step S.1 x = S.1 := by unfold step; rw [if_neg (by rw [h0]; decide), if_neg (by rw [h1]; decide), if_neg (by rw [h2]; decide), if_neg (by rw [h3]; decide), if_neg (by rw [h4]; decide), if_neg (by rw [h5]; decide), if_neg (by rw [h6]; decide), if_neg (by rw [h7]; decide)]
      refine Ex.nil ?_
      rw [hst]; exact ⟨rfl, by tb_rel, by tb_rel, by tb_rel, by tb_rel, by tb_rel⟩
    · obtain ⟨u1, u2, u3, u4, u5, u6⟩ := hV'
      rw [hu] at u1
      refine Ex.cons (Ex.append (ds := S.2.map fun p => bkD p.1 p.2) (d := bkD (step S.1 x) x) (envOk rfl) u1 (by unfold bkD; tb_start) (fits1000 (by rw [List.length_map]; omega)) (Ex.nil ?_) rfl rfl (by decide +kernel))
      refine ⟨?_, u3, u4, u5, u6⟩
      show some _ = some _
      unfold foldB
      rw [List.map_append]; rfl
  · obtain ⟨hu, _⟩ := hV
    have e : stAt ([7] ++ W.scN.take 12) ((([7] ++ W.scN.take 12).map D.int).length) = ([7] ++ W.scN.take 12).foldl foldB (m0, []) := by
      unfold stAt
      rw [List.length_map, List.take_length]
    rw [e] at hu
    exact Ex.cons (Ex.ret (Ev.nameU (envOk rfl) hu (by decide +kernel)) rfl)
end
end Mine

namespace Mine
open PySem PySem.W PyProof.Rows PySem.Spec PySem.Calls PyProof.Rows.LCg

section
variable {W : Wd} (hK : W.K = MineTop.hd.heap_39 W.w.params) {lvl : Nat}
include hK
local macro_rules | `(tactic| tb_rel) => `(tactic| (first | exact rfl | ((try dsimp only); repeat (first | with_reducible exact lk0 | assumption | (with_reducible refine lk1 (by decide +kernel) ?_)))))
local macro_rules | `(tactic| tb_start) => `(tactic| repeat' (first
  | (with_reducible refine Ev.cInt) | (with_reducible refine Ev.cStr) | (with_reducible refine Ev.cNone) | (with_reducible refine Ev.cBool)
  | ((with_reducible apply Ev.name); (case he => first | exact envOk rfl | exact compEnv_ok (envOk rfl) rfl); (case hx => tb_rel); (case hd => decide +kernel))
  | (with_reducible apply Ev.bin)
  | (with_reducible apply Ev.unary)
  | ((with_reducible apply Ev.tuple); (case hsz => decide +kernel))
  | ((with_reducible apply Ev.list); (case hsz => decide +kernel))
  | (with_reducible refine Evs.nil)
  | ((with_reducible apply Evs.cons); (case hs => (intro _; rfl)))
  | (with_reducible refine op_add) | (with_reducible refine op_sub) | (with_reducible refine op_neg)
  | ((with_reducible refine op_mod ?a9); (case a9 => decide +kernel))
  | ((with_reducible refine op_div ?a9 ?b9); (case a9 => decide +kernel); (case b9 => decide +kernel))))
theorem g_list : nsIn W.K mainGlobals "list" = some none := by rw [hK]; rfl
theorem g_map : nsIn W.K mainGlobals "map" = some none := by rw [hK]; rfl
theorem g_str : nsIn W.K mainGlobals "str" = some none := by rw [hK]; rfl
theorem g_int : nsIn W.K mainGlobals "int" = some none := by rw [hK]; rfl

def numText (n : Int) : PySem.Str := PySem.Str.ofString (toString n)
omit hK in
def normL (l : List PySem.Str) : List PySem.Str := match ints? l with
  | some ns => ns.map numText
  | none => l
theorem norm_fn (ve : VeFree W) (v bld : PySem.Str) (l₀ l : List PySem.Str) (hl₀ : Txt.split v "." = l₀) (hl : l = l₀ ++ (if (bld.length : Int) != 0 then [bld] else [])) (ok : ∀ x ∈ l, textOk x) (hn : l.length ≤ 100) (hv : v.length ≤ sizeLine) (hbl : (bld.length : Int) < 2 ^ 63)
    (hsz2 : (Builtin.Str.partsBetween v (Builtin.Str.occurrences v "." 0 v.length (v.length + 1)) (PySem.Str.ofString ".").length).length ≤ sizeLine)
    (hj : (((normL l).take 3).map (·.length)).sum + ((normL l).take 3).length * (PySem.Str.ofString ".").length ≤ 16777216) (hj3 : (normL l).length ≤ 1000) :
    FnC W (lvl + 1) 22 [.str v, .str bld] (.str (Txt.join "." ((normL l).take 3))) := by
  refine FnC.of [PySem.Str.ofString "version", PySem.Str.ofString "build"] (by rw [hK]; rfl) (by rw [hK]; rfl) (fun s vs X hl => ?_) (by decide +kernel) (by decide +kernel) (fun L' => ?_) rfl rfl rfl (by decide +kernel)
  · match vs, hl with
    | [v, u], _ => first | exact BindsTo.of_eq rfl | exact binds_K X rfl (by rw [hK]; rfl) rfl rfl rfl
  have hl0 : l₀.length ≤ 100 := by rw [hl, List.length_append] at hn; omega
  refine ExC.cons (Ex.toC (Ex.asgF (d := .list (l₀.map D.str)) (envOk rfl) rfl (EvF.splitB (envOk rfl) (by tb_rel) (by decide +kernel) hl₀ hv hsz2 rfl (by decide +kernel)) rfl rfl ?_))
  refine ExC.cons (ExC.mono (Q := nextIs fun V => V.u = some (PySem.Str.ofString "l", .list (l.map D.str)) ∧ V.s = [(PySem.Str.ofString "version", .str v), (PySem.Str.ofString "build", .str bld)]) ?_ fun o ho => ?_)
  · refine Ex.toC (Ex.ifs (c := (bld.length : Int) != 0) (Tr.strT true (x := bld) (by tb_start) hbl) (fun hc => ?_) fun hc => Ex.nil ⟨?_, rfl⟩)
    · refine Ex.cons (Ex.append (ds := l₀.map D.str) (d := .str bld) (envOk rfl) rfl (by tb_start) (fits1000 (by rw [List.length_map]; omega)) (Ex.nil ⟨?_, rfl⟩) rfl rfl (by decide +kernel))
      rw [hl, if_pos hc, List.map_append]; rfl
    · rw [hl, if_neg (by rw [hc]; decide), List.append_nil]
  match o, ho with
  | .next ⟨vs, vu⟩, ⟨hu, hs⟩ =>
  simp only at hu hs
  subst hu hs
  refine ExC.settle ?_ rfl rfl (by repeat' (first | exact List.forall_mem_nil _ | refine List.forall_mem_cons.mpr ⟨rfl, ?_⟩))
  refine ExC.cons (ExC.mono (Q := nextIs fun V => V.u = none ∧ V.s.lookup (PySem.Str.ofString "strings") = some (D.list ((normL l).map D.str))) ?_ fun o ho => ?_)
  · refine ExC.tryV (o := (ints? l).map fun ns => .list (ns.map fun n => .str (PySem.Str.ofString (toString n)))) ve rfl rfl rfl (EvR.maps (xs := l) (envOk rfl) (by tb_rel) (by decide +kernel) ok (by omega) (g_list hK) (g_map hK) (g_str hK) (g_int hK) rfl rfl rfl rfl) (by intro y e h; cases h) (fun d hd => ExC.nil ⟨rfl, ?_⟩) fun hd => ExH.alias (d := .list (l.map D.str)) (envOk rfl) rfl (by tb_rel) (by intro y e h; cases h) ⟨rfl, ?_⟩ (by decide +kernel)
    · unfold normL
      cases hi : ints? l with
      | none => rw [hi] at hd; cases hd
      | some ns =>
        rw [hi] at hd
        cases hd
        rw [List.map_map]
        exact lk0
    · unfold normL
      cases hi : ints? l with
      | none => exact lk0
      | some ns => rw [hi] at hd; cases hd
  match o, ho with
  | .next ⟨vs, vu⟩, ⟨hu, hs⟩ =>
  simp only at hu hs
  subst hu
  refine ExC.cons (Ex.toC (Ex.asg (d := .str (Txt.join "." ((normL l).take 3))) (envOk rfl) rfl ?_ (by intro y e h; cases h) ?_))
  · refine Ev.joinB (xs := (normL l).take 3) (d := .list (((normL l).take 3).map D.str)) (.inl rfl) ?_ hj rfl
    rw [List.map_take]
    exact Ev.upto (Ev.name (envOk rfl) hs (by decide +kernel)) (fits1000 (by rw [List.length_map]; exact hj3))
  · exact ExC.cons (Ex.toC (Ex.ret (by tb_start) rfl))
end
end Mine

namespace Mine
open PySem PySem.W PyProof.Rows PySem.Spec PySem.Calls PyProof.Rows.LCg

section
variable {W : Wd} (hK : W.K = MineTop.hd.heap_39 W.w.params) {lvl : Nat}
include hK
local macro_rules | `(tactic| tb_rel) => `(tactic| (first | exact rfl | ((try dsimp only); repeat (first | with_reducible exact lk0 | assumption | (with_reducible refine lk1 (by decide +kernel) ?_)))))
local macro_rules | `(tactic| tb_start) => `(tactic| repeat' (first
  | (with_reducible refine Ev.cInt) | (with_reducible refine Ev.cStr) | (with_reducible refine Ev.cNone) | (with_reducible refine Ev.cBool)
  | ((with_reducible apply Ev.name); (case he => first | exact envOk rfl | exact compEnv_ok (envOk rfl) rfl); (case hx => tb_rel); (case hd => decide +kernel))
  | (with_reducible apply Ev.bin)
  | (with_reducible apply Ev.unary)
  | ((with_reducible apply Ev.tuple); (case hsz => decide +kernel))
  | ((with_reducible apply Ev.list); (case hsz => decide +kernel))
  | (with_reducible refine Evs.nil)
  | ((with_reducible apply Evs.cons); (case hs => (intro _; rfl)))
  | (with_reducible refine op_add) | (with_reducible refine op_sub) | (with_reducible refine op_neg)
  | ((with_reducible refine op_mod ?a9); (case a9 => decide +kernel))
  | ((with_reducible refine op_div ?a9 ?b9); (case a9 => decide +kernel); (case b9 => decide +kernel))))
def relA (rel x : PySem.Str) (l : List PySem.Str) : PySem.Str := match PySem.intText? x with
  | some n => Txt.join "." (numText (n - 3) :: l)
  | none => rel
def aliasS (sys rel x : PySem.Str) (l : List PySem.Str) : PySem.Str × PySem.Str :=
  if (sys == "SunOS") = true then
    if decide (rel.cps.toList < (PySem.Str.ofString "5").cps.toList) = true then (sys, rel) else (PySem.Str.ofString "Solaris", relA rel x l)
  else if ([PySem.Str.ofString "win32", PySem.Str.ofString "win16"].any fun y => y == sys) = true then (PySem.Str.ofString "Windows", rel) else (sys, rel)

theorem alias_fn (ve : VeFree W) (sys rel ver x : PySem.Str) (l : List PySem.Str) (hsp : Txt.split rel "." = x :: l) (ok : textOk x) (hlog : ∀ n, PySem.intText? x = some n → (n - 3).natAbs.log2 < 1920) (hn : l.length ≤ 100) (hv : rel.length ≤ sizeLine) (hso : PyData.strOk sys = true)
    (hsz2 : (Builtin.Str.partsBetween rel (Builtin.Str.occurrences rel "." 0 rel.length (rel.length + 1)) (PySem.Str.ofString ".").length).length ≤ sizeLine)
    (hj : ∀ n, PySem.intText? x = some n → ((numText (n - 3) :: l).map (·.length)).sum + (numText (n - 3) :: l).length * (PySem.Str.ofString ".").length ≤ 16777216) :
    FnC W (lvl + 2) 29 [.str sys, .str rel, .str ver] (.tuple ([(aliasS sys rel x l).1, (aliasS sys rel x l).2, ver].map D.str)) := by
  refine FnC.of [PySem.Str.ofString "system", PySem.Str.ofString "release", PySem.Str.ofString "version"] (by rw [hK]; rfl) (by rw [hK]; rfl) (fun s vs X hl => ?_) (by decide +kernel) (by decide +kernel) (fun L' => ?_) rfl rfl rfl (by decide +kernel)
  · match vs, hl with
    | [v, u, w], _ => exact BindsTo.of_eq rfl
  refine ExC.cons (ExC.mono (Q := fun o => match o with | .next V => V.s.lookup (PySem.Str.ofString "system") = some (D.str (aliasS sys rel x l).1) ∧ V.s.lookup (PySem.Str.ofString "release") = some (D.str (aliasS sys rel x l).2) ∧ V.s.lookup (PySem.Str.ofString "version") = some (D.str ver) | .ret d => retIs (.tuple ([(aliasS sys rel x l).1, (aliasS sys rel x l).2, ver].map D.str)) (.ret d)) ?_ fun o ho => ?_)
  · refine ExC.ifs (c := (sys == PySem.Str.ofString "SunOS")) (Tr.cmp true (d₁ := .str sys) (d₂ := .str "SunOS") (by tb_start) (by tb_start) op_eqStr) (fun h1 => ?_) fun h1 => ?_
    · refine ExC.cons (ExC.ifs (c := decide (rel.cps.toList < (PySem.Str.ofString "5").cps.toList)) (Tr.cmp true (d₁ := .str rel) (d₂ := .str "5") (by tb_start) (by tb_start) op_ltStr) (fun h2 => ?_) fun h2 => ExC.nil ?_)
      · have e : aliasS sys rel x l = (sys, rel) := by unfold aliasS; rw [if_pos h1, if_pos h2]
        rw [e]
        exact ExC.cons (Ex.toC (Ex.ret (by show Ev _ _ _ _ _ _ (.tuple [.str sys, .str rel, .str ver]); tb_start) rfl))
      have e : aliasS sys rel x l = (PySem.Str.ofString "Solaris", relA rel x l) := by unfold aliasS; rw [if_pos h1, if_neg (by rw [h2]; decide)]
      rw [e]
      refine ExC.cons (Ex.toC (Ex.asgF (d := .list ((x :: l).map D.str)) (envOk rfl) rfl (EvF.splitB (envOk rfl) (by tb_rel) (by decide +kernel) hsp hv hsz2 rfl (by decide +kernel)) rfl rfl ?_))
      refine ExC.cons (ExC.mono (Q := nextIs fun V => V.s.lookup (PySem.Str.ofString "release") = some (D.str (relA rel x l)) ∧ V.s.lookup (PySem.Str.ofString "version") = some (D.str ver) ∧ ∀ y e, V.u = some (y, e) → y = PySem.Str.ofString "l") ?_ fun o ho => ?_)
      · refine ExC.ifs (Tr.listT false (ds := (x :: l).map D.str) (Ev.nameU (envOk rfl) rfl (by decide +kernel)) (by have : ((x :: l).map D.str).length ≤ 101 := (by simp; omega); omega)) (fun _ => ?_) fun h => by cases h
        refine ExC.cons (ExC.mono (Q := nextIs fun V => V.s.lookup (PySem.Str.ofString "release") = some (D.str (relA rel x l)) ∧ V.s.lookup (PySem.Str.ofString "version") = some (D.str ver) ∧ ∀ y e, V.u = some (y, e) → y = PySem.Str.ofString "l") ?_ fun o ho => ?_)
        · refine ExC.tryV (o := (PySem.intText? x).map D.int) ve rfl rfl rfl (EvR.int (b := false) (envOk rfl) (g_int hK) boot_int (Ev.sub (d₁ := .list ((x :: l).map D.str)) (d₂ := .int 0) (Ev.nameU (envOk rfl) rfl (by decide +kernel)) (by tb_start) (op_itemList (by decide) rfl (by decide))) ok rfl) (by intro y e h; cases h; decide +kernel) (fun d hd => ?_) fun hd => ExH.pass ⟨?_, by tb_rel, ?_⟩
          · cases hi : PySem.intText? x with
            | none => rw [hi] at hd; cases hd
            | some n =>
            rw [hi] at hd
            cases hd
            have er : relA rel x l = Txt.join "." (numText (n - 3) :: l) := by unfold relA; rw [hi]
            rw [er]
            refine ExC.cons (Ex.toC (Ex.asg (d := .int (n - 3)) (envOk rfl) rfl (by tb_start) (by intro y e h; cases h; decide +kernel) ?_))
            refine ExC.cons (Ex.toC (Ex.setItem (ds := (x :: l).map D.str) (k := 0) (d := .str (numText (n - 3))) (envOk rfl) rfl (Ev.callT1 (d₁ := .int (n - 3)) (envOk rfl) (g_str hK) boot_str (by tb_start) (op_strInt (hlog n hi)) rfl) (by tb_start) (by decide) (by first | (simp; done) | (simp; omega)) (by decide) ?_ (by decide +kernel)))
            refine ExC.cons (Ex.toC (Ex.asg (d := .str (Txt.join "." (numText (n - 3) :: l))) (envOk rfl) rfl (Gv.ofAtom (Ev.joinB (b := false) (xs := numText (n - 3) :: l) (d := .list ((numText (n - 3) :: l).map D.str)) (.inl rfl) (Ev.nameU (envOk rfl) rfl (by decide +kernel)) (hj n hi) rfl)) (by intro y e h; cases h; decide +kernel) (ExC.nil ⟨by tb_rel, by tb_rel, by intro y e h; cases h; rfl⟩)))
          · cases hi : PySem.intText? x with
            | none => unfold relA; rw [hi]; tb_rel
            | some n => rw [hi] at hd; cases hd
          · intro y e h; cases h; rfl
        · match o, ho with
          | .next V, hV => exact ExC.nil hV
      match o, ho with
      | .next V, ⟨a1, a2, a3⟩ =>
      refine ExC.cons (ExC.ifs (Tr.cmp true (d₁ := .str (relA rel x l)) (d₂ := .str "6") (by tb_start) (by tb_start) op_ltStr) (fun _ => ?_) fun _ => ?_)
      all_goals exact ExC.cons (Ex.toC (Ex.asg (d := .str "Solaris") (envOk rfl) rfl (by tb_start) (by intro y e h; rw [a3 y e h]; decide +kernel) (ExC.nil (ExC.nil ⟨by tb_rel, by tb_rel, by tb_rel⟩))))
    · refine ExC.cons (ExC.ifs (c := ([PySem.Str.ofString "win32", PySem.Str.ofString "win16"].any fun y => y == sys)) (Tr.cmp true (d₁ := .str sys) (d₂ := .tuple ([PySem.Str.ofString "win32", PySem.Str.ofString "win16"].map D.str)) (by tb_start) (by show Ev _ _ _ _ _ _ (.tuple [.str "win32", .str "win16"]); tb_start) (op_inTupStr (by omega) (by
        repeat' (first | exact List.forall_mem_nil _ | refine List.forall_mem_cons.mpr ⟨by first | exact hso | decide +kernel, ?_⟩)))) (fun h2 => ?_) fun h2 => ?_)
      · have e : aliasS sys rel x l = (PySem.Str.ofString "Windows", rel) := by unfold aliasS; rw [if_neg (by rw [h1]; decide), if_pos h2]
        rw [e]
        exact ExC.cons (Ex.toC (Ex.asg (d := .str "Windows") (envOk rfl) rfl (by tb_start) (by intro y e h; cases h) (ExC.nil (ExC.nil ⟨by tb_rel, by tb_rel, by tb_rel⟩))))
      · have e : aliasS sys rel x l = (sys, rel) := by unfold aliasS; rw [if_neg (by rw [h1]; decide), if_neg (by rw [h2]; decide)]
        rw [e]
        exact ExC.nil (ExC.nil ⟨by tb_rel, by tb_rel, by tb_rel⟩)
  · match o, ho with
    | .next V, ⟨a1, a2, a3⟩ => exact ExC.cons (Ex.toC (Ex.ret (by show Ev _ _ _ _ _ _ (.tuple [.str (aliasS sys rel x l).1, .str (aliasS sys rel x l).2, .str ver]); tb_start) rfl))
    | .ret d, h => exact h
end
end Mine

namespace Mine
open PySem PySem.W PyProof.Rows PySem.Spec PySem.Calls PyProof.Rows.LCg

def txtB (x : PySem.Str) : Bool := decide (x.length ≤ 10) && decide ((reprText x).length ≤ 1000) && !(x.cps.toList.contains 46) && x.cps.toList.all (· < 128) && PyData.strOk x && (match x.cps.toList with | [] => true | c :: _ => decide (c ≤ 57))
def numB (x : PySem.Str) : D → Bool
  | .int n => (PySem.intText? x == some n) && decide (n.natAbs.log2 < 1920) && decide ((n - 3).natAbs.log2 < 1920) && decide ((numText n).length ≤ 20) && decide ((numText (n - 3)).length ≤ 20)
  | .none => PySem.intText? x == none
  | _ => false
def partB (p : PySem.Str × D) : Bool := txtB p.1 && numB p.1 p.2

theorem parts8_a : ∀ n : Nat, n < 60 → partB ((parts8 n).getD 0 ("", .none)) = true := by decide +kernel
theorem parts8_b : ∀ n : Nat, n < 60 → partB ((parts8 n).getD 1 ("", .none)) = true := by decide +kernel
theorem parts8_c : ∀ n : Nat, n < 60 → partB ((parts8 n).getD 2 ("", .none)) = true := by decide +kernel
theorem parts8_d : ∀ n : Nat, n < 60 → partB ((parts8 n).getD 3 ("", .none)) = true := by decide +kernel
theorem parts8_e : ∀ n : Nat, n < 60 → partB ((parts8 n).getD 4 ("", .none)) = true := by decide +kernel
theorem parts8_f : ∀ n : Nat, n < 60 → partB ((parts8 n).getD 5 ("", .none)) = true := by decide +kernel
theorem parts8_g : ∀ n : Nat, n < 60 → partB ((parts8 n).getD 6 ("", .none)) = true := by decide +kernel
theorem parts8_h : ∀ n : Nat, n < 60 → partB ((parts8 n).getD 7 ("", .none)) = true := by decide +kernel
theorem parts8_ok : ∀ n : Nat, n < 60 → ∀ k : Nat, k < 8 → partB ((parts8 n).getD k ("", .none)) = true
  | n, h, 0, _ => parts8_a n h
  | n, h, 1, _ => parts8_b n h
  | n, h, 2, _ => parts8_c n h
  | n, h, 3, _ => parts8_d n h
  | n, h, 4, _ => parts8_e n h
  | n, h, 5, _ => parts8_f n h
  | n, h, 6, _ => parts8_g n h
  | n, h, 7, _ => parts8_h n h
  | _, _, k + 8, h => absurd h (by omega)
theorem part_ok (r : Int) : partB (part r) = true := by
  obtain ⟨n, hn, hl⟩ := mod60 r
  have h1 : 0 ≤ r.fmod 8 := Int.fmod_nonneg_of_pos _ (by decide)
  have h2 : r.fmod 8 < 8 := Int.fmod_lt_of_pos _ (by decide)
  unfold part
  rw [hn]
  exact parts8_ok n hl _ (by omega)

structure Good (m : Ms) (k : Nat) : Prop where
  r0 : m.rel ≠ []
  v0 : m.ver ≠ []
  rl : m.rel.length ≤ 2 + k
  vl : m.ver.length ≤ 2 + k
  r : ∀ p ∈ m.rel, partB p = true
  v : ∀ p ∈ m.ver, partB p = true
  b : partB m.bld = true
  s : m.sys ∈ six

theorem good0 : Good m0 0 := ⟨by simp [m0, sun], by simp [m0], by decide, by decide, by decide +kernel, by decide +kernel, by decide +kernel, by decide +kernel⟩
theorem good_step {m : Ms} {k : Nat} (g : Good m k) (x : Int) : Good (step m x) (k + 1) := by
  have hp := part_ok (x.fdiv 8)
  have hsol : ∀ p ∈ sol, partB p = true := by decide +kernel
  have hsun : ∀ p ∈ sun, partB p = true := by decide +kernel
  have hsix : six.getD ((x.fdiv 8).fmod 6).toNat "" ∈ six := by
    have h1 : 0 ≤ (x.fdiv 8).fmod 6 := Int.fmod_nonneg_of_pos _ (by decide)
    have h2 : (x.fdiv 8).fmod 6 < 6 := Int.fmod_lt_of_pos _ (by decide)
    have h3 : ((x.fdiv 8).fmod 6).toNat < six.length := by show _ < 6; omega
    rw [List.getD_eq_getElem?_getD, List.getElem?_eq_getElem h3]
    exact List.getElem_mem h3
  obtain ⟨r0, v0, rl, vl, r, v, b, s⟩ := g
  have one : ∀ p ∈ [part (x.fdiv 8)], partB p = true := by intro p h; rw [List.mem_singleton.mp h]; exact hp
  have app : ∀ l : List (PySem.Str × D), (∀ p ∈ l, partB p = true) → ∀ p ∈ l ++ [part (x.fdiv 8)], partB p = true := fun l hl p h => (List.mem_append.mp h).elim (hl p) (one p)
  have rl' : m.rel.length ≤ 2 + (k + 1) := by omega
  have vl' : m.ver.length ≤ 2 + (k + 1) := by omega
  have l1 : ([part (x.fdiv 8)] : List (PySem.Str × D)).length ≤ 2 + (k + 1) := by show 1 ≤ _; omega
  have l2 : sol.length ≤ 2 + (k + 1) := by show 2 ≤ _; omega
  have l3 : sun.length ≤ 2 + (k + 1) := by show 2 ≤ _; omega
  have ra : (m.rel ++ [part (x.fdiv 8)]).length ≤ 2 + (k + 1) := by rw [List.length_append, List.length_singleton]; omega
  have va : (m.ver ++ [part (x.fdiv 8)]).length ≤ 2 + (k + 1) := by rw [List.length_append, List.length_singleton]; omega
  unfold step
  repeat' split
  · exact ⟨r0, v0, rl', vl', r, v, b, hsix⟩
  · exact ⟨by simp, v0, l1, vl', one, v, b, s⟩
  · exact ⟨by simp, v0, ra, vl', app _ r, v, b, s⟩
  · exact ⟨r0, by simp, rl', l1, r, one, b, s⟩
  · exact ⟨r0, by simp, rl', va, r, app _ v, b, s⟩
  · exact ⟨r0, v0, rl', vl', r, v, hp, s⟩
  · exact ⟨by simp [sol], v0, l2, vl', hsol, v, b, by show PySem.Str.ofString "Solaris" ∈ six; decide +kernel⟩
  · exact ⟨by simp [sun], v0, l3, vl', hsun, v, b, by show PySem.Str.ofString "SunOS" ∈ six; decide +kernel⟩
  · exact ⟨r0, v0, rl', vl', r, v, b, s⟩

theorem fold_good : ∀ (xs : List Int) (a : Ms × List (Ms × Int)) (k : Nat), Good a.1 k → (∀ p ∈ a.2, Good p.1 k) → (∀ p ∈ (xs.foldl foldB a).2, Good p.1 (k + xs.length))
  | [], a, k, g, h => h
  | x :: xs, a, k, g, h => by
    have g' := good_step g x
    have up : ∀ m : Ms, Good m k → Good m (k + 1) := fun m g => ⟨g.r0, g.v0, by have := g.rl; omega, by have := g.vl; omega, g.r, g.v, g.b, g.s⟩
    have := fold_good xs (foldB a x) (k + 1) g' fun p hp => by
      rcases List.mem_append.mp hp with h' | h'
      · exact up _ (h p h')
      · rw [List.mem_singleton.mp h']; exact g'
    rw [List.foldl_cons, List.length_cons, show k + (xs.length + 1) = k + 1 + xs.length by omega]
    exact this
theorem books_good (xs : List Int) : ∀ p ∈ books xs, Good p.1 xs.length := by
  have := fold_good xs (m0, []) 0 good0 (fun _ h => nomatch h)
  rw [Nat.zero_add] at this
  exact this
theorem books_len (xs : List Int) : (books xs).length = xs.length := by
  have : ∀ (xs : List Int) (a : Ms × List (Ms × Int)), (xs.foldl foldB a).2.length = a.2.length + xs.length := by
    intro xs
    induction xs with
    | nil => intro a; rfl
    | cons x xs ih =>
      intro a
      rw [List.foldl_cons, ih, List.length_cons]
      show (a.2 ++ [_]).length + _ = _
      rw [List.length_append, List.length_singleton]; omega
  have h := this xs (m0, [])
  rw [show ((m0, []) : Ms × List (Ms × Int)).2.length = 0 from rfl, Nat.zero_add] at h
  exact h
end Mine

namespace Mine
open PySem PySem.W PyProof.Rows PySem.Spec PySem.Calls PyProof.Rows.LCg

def J : List (List Nat) → List Nat
  | [] => []
  | [x] => x
  | x :: y :: r => x ++ 46 :: J (y :: r)
theorem cut_eq {a b : List Nat} : ∀ {x y : List Nat}, 46 ∉ x → 46 ∉ y → x ++ 46 :: a = y ++ 46 :: b → x = y ∧ a = b
  | [], [], _, _, h => ⟨rfl, by simpa using h⟩
  | [], c :: y, _, hy, h => by simp at h; exact absurd h.1.symm (by intro e; exact hy (by simp [e]))
  | c :: x, [], hx, _, h => by simp at h; exact absurd h.1 (by intro e; exact hx (by simp [e]))
  | c :: x, d :: y, hx, hy, h => by
    simp only [List.cons_append, List.cons.injEq] at h
    have := cut_eq (x := x) (y := y) (fun q => hx (List.mem_cons_of_mem _ q)) (fun q => hy (List.mem_cons_of_mem _ q)) h.2
    exact ⟨by rw [h.1, this.1], this.2⟩
theorem J_inj : ∀ {xs ys : List (List Nat)}, xs ≠ [] → ys ≠ [] → (∀ x ∈ xs, 46 ∉ x) → (∀ y ∈ ys, 46 ∉ y) → J xs = J ys → xs = ys
  | [], _, h, _, _, _, _ => absurd rfl h
  | _, [], _, h, _, _, _ => absurd rfl h
  | [x], [y], _, _, _, _, h => by rw [show x = y from h]
  | [x], y :: z :: r, _, _, hx, _, h => by
    have h' : x = y ++ 46 :: J (z :: r) := h
    exact absurd (show 46 ∈ x by rw [h']; simp) (hx x (.head _))
  | x :: w :: q, [y], _, _, _, hy, h => by
    have h' : x ++ 46 :: J (w :: q) = y := h
    exact absurd (show 46 ∈ y by rw [← h']; simp) (hy y (.head _))
  | x :: w :: q, y :: z :: r, _, _, hx, hy, h => by
    obtain ⟨e1, e2⟩ := cut_eq (hx x (.head _)) (hy y (.head _)) h
    rw [e1, J_inj (xs := w :: q) (ys := z :: r) (by simp) (by simp) (fun a ha => hx a (.tail _ ha)) (fun a ha => hy a (.tail _ ha)) e2]
theorem join_J : ∀ xs : List PySem.Str, (PySem.Str.join "." xs).cps.toList = J (xs.map (·.cps.toList))
  | [] => rfl
  | [x] => rfl
  | x :: y :: r => by
    show (x ++ "." ++ PySem.Str.join "." (y :: r) : PySem.Str).cps.toList = _
    have := join_J (y :: r)
    show ((x.cps ++ (PySem.Str.ofString ".").cps) ++ (PySem.Str.join "." (y :: r)).cps).toList = _
    rw [Array.toList_append, Array.toList_append, this]
    show _ = x.cps.toList ++ 46 :: J ((y :: r).map (·.cps.toList))
    rw [show (PySem.Str.ofString ".").cps.toList = [46] by decide +kernel]
    simp
theorem cps_inj : ∀ {xs ys : List PySem.Str}, xs.map (·.cps.toList) = ys.map (·.cps.toList) → xs = ys
  | [], [], _ => rfl
  | [], y :: ys, h => by cases h
  | x :: xs, [], h => by cases h
  | x :: xs, y :: ys, h => by
    simp only [List.map_cons, List.cons.injEq] at h
    obtain ⟨⟨⟩⟩ := x
    obtain ⟨⟨⟩⟩ := y
    have : xs = ys := cps_inj h.2
    rw [this]
    congr 1
    simpa using h.1
theorem split_ne (x y : PySem.Str) : Txt.split x y ≠ [] := by
  unfold Txt.split
  split
  · simp
  · split
    · simp
    · rw [StrLaws.partsBetween_eq]
      cases Builtin.Str.occurrences x y 0 x.length (x.length + 1) <;> simp [StrLaws.partsFrom]
theorem split_dot {xs : List PySem.Str} (h0 : xs ≠ []) (hf : ∀ x ∈ xs, 46 ∉ x.cps.toList) : Txt.split (dot xs) "." = xs := by
  have e0 : PySem.Str.ofString "." = ⟨#[46]⟩ := by decide +kernel
  have h1 : PySem.Str.join "." (Txt.split (dot xs) ".") = dot xs := StrLaws.join_split _ _
  have h2 : dot xs = PySem.Str.join "." xs := StrLaws.glued_eq_join _ _
  have h3 := congrArg (fun s : PySem.Str => s.cps.toList) (h1.trans h2)
  simp only [join_J] at h3
  refine cps_inj (J_inj ?_ ?_ ?_ ?_ h3)
  · intro e; exact split_ne _ _ (List.map_eq_nil_iff.mp e)
  · intro e; exact h0 (List.map_eq_nil_iff.mp e)
  · intro a ha
    obtain ⟨p, hp, rfl⟩ := List.mem_map.mp ha
    rw [e0] at hp
    exact StrLaws.split_free _ _ p hp
  · intro a ha
    obtain ⟨p, hp, rfl⟩ := List.mem_map.mp ha
    exact hf p hp
theorem parts_few (x : PySem.Str) : (Builtin.Str.partsBetween x (Builtin.Str.occurrences x "." 0 x.length (x.length + 1)) (PySem.Str.ofString ".").length).length ≤ x.length + 1 := by
  have h := StrLaws.glued_between_self x "." (x.length + 1)
  have h2 := size_glued "." (Builtin.Str.partsBetween x (Builtin.Str.occurrences x "." 0 x.length (x.length + 1)) (PySem.Str.ofString ".").length)
  rw [h] at h2
  have e1 : (PySem.Str.ofString ".").length = 1 := by decide +kernel
  rw [e1] at h2 ⊢
  omega
theorem dot_len {xs : List PySem.Str} (h : ∀ x ∈ xs, x.length ≤ 20) (hl : xs.length ≤ 40) : (dot xs).length ≤ 840 := by
  have h2 : dot xs = PySem.Str.join "." xs := StrLaws.glued_eq_join _ _
  rw [h2]
  have := StrLaws.join_length_le "." xs
  have e1 : (PySem.Str.ofString ".").length = 1 := by decide +kernel
  rw [e1] at this
  have := sum_le xs h
  omega
end Mine

namespace Mine
open PySem PySem.W PyProof.Rows PySem.Spec PySem.Calls PyProof.Rows.LCg

theorem slice1 (x : PySem.Str) : (Txt.slice x none (some 1)).cps.toList = x.cps.toList.take 1 := by
  by_cases h : 1 ≤ x.cps.toList.length
  · have := slice_closes_to (x := x) (j := 1) ⟨by decide, by omega⟩
    have e := eq_of_beq this
    rw [e]
    simp
  · have h0 : x.cps.toList = [] := List.length_eq_zero_iff.mp (by omega)
    have hl : x.length = 0 := by show x.cps.size = 0; rw [← Array.length_toList, h0]; rfl
    have := Txt.slice_le x none (some 1)
    rw [hl] at this
    have : (Txt.slice x none (some 1)).cps.toList.length = 0 := by rw [Array.length_toList]; exact Nat.le_zero.mp this
    rw [List.length_eq_zero_iff.mp this, h0]; rfl
theorem txtB_head {x : PySem.Str} (h : txtB x = true) : ∀ c ∈ x.cps.toList.take 1, c ≤ 57 := by
  unfold txtB at h
  simp only [Bool.and_eq_true] at h
  have h2 := h.2
  intro c hc
  cases hx : x.cps.toList with
  | nil => rw [hx] at hc; cases hc
  | cons d r =>
    rw [hx] at h2 hc
    simp only [List.take_succ_cons, List.take_zero, List.mem_singleton] at hc
    rw [hc]
    simpa using h2
theorem dot_head : ∀ {xs : List PySem.Str}, (∀ x ∈ xs, txtB x = true) → ∀ c ∈ (dot xs).cps.toList.take 1, c ≤ 57 := by
  intro xs h c hc
  have h2 : dot xs = PySem.Str.join "." xs := StrLaws.glued_eq_join _ _
  rw [h2, join_J] at hc
  match xs, h with
  | [], _ => cases hc
  | [x], h => exact txtB_head (h x (.head _)) c hc
  | x :: y :: r, h =>
    have hc' : c ∈ (x.cps.toList ++ 46 :: J ((y :: r).map (·.cps.toList))).take 1 := hc
    cases hx : x.cps.toList with
    | nil =>
      rw [hx] at hc'
      simp at hc'
      rw [hc']; decide
    | cons d q =>
      rw [hx] at hc'
      have : c ∈ x.cps.toList.take 1 := by rw [hx]; simpa using hc'
      exact txtB_head (h x (.head _)) c this
theorem figs_lt {x : PySem.Str} (h : ∀ c ∈ x.cps.toList.take 1, c ≤ 57) :
    (!([PySem.Str.ofString "5", PySem.Str.ofString "6", PySem.Str.ofString "7", PySem.Str.ofString "8", PySem.Str.ofString "9"].any fun y => y == Txt.slice x none (some 1))) = decide (x.cps.toList < (PySem.Str.ofString "5").cps.toList) := by
  have e5 : (PySem.Str.ofString "5").cps.toList = [53] := by decide +kernel
  rw [e5]
  have key : ∀ y : PySem.Str, (y == Txt.slice x none (some 1)) = decide (y.cps.toList = x.cps.toList.take 1) := by
    intro y
    have e := slice1 x
    rw [← e]
    by_cases hy : y = Txt.slice x none (some 1)
    · rw [hy]; simp
    · rw [beq_eq_false_iff_ne.mpr hy]
      symm
      rw [decide_eq_false_iff_not]
      intro q
      apply hy
      generalize Txt.slice x none (some 1) = z at q
      obtain ⟨⟨a⟩⟩ := y
      obtain ⟨⟨b⟩⟩ := z
      simp at q
      rw [q]
  simp only [key]
  cases hx : x.cps.toList with
  | nil => decide +kernel
  | cons c r =>
    rw [hx] at h
    have hc : c ≤ 57 := h c (by simp)
    have hlt : (c :: r < [53]) ↔ c < 53 := by
      rw [List.cons_lt_cons_iff]
      simp
    have hd : decide (c :: r < [53]) = decide (c < 53) := decide_eq_decide.mpr hlt
    rw [hd]
    simp only [List.take_succ_cons, List.take_zero]
    have : ∀ c : Nat, c < 58 → (!([PySem.Str.ofString "5", PySem.Str.ofString "6", PySem.Str.ofString "7", PySem.Str.ofString "8", PySem.Str.ofString "9"].any fun y => decide (y.cps.toList = [c]))) = decide (c < 53) := by decide +kernel
    exact this c (by omega)
theorem strOk_slice {x : PySem.Str} (h : ∀ c ∈ x.cps.toList.take 1, c ≤ 57) : PyData.strOk (Txt.slice x none (some 1)) = true := by
  show (Txt.slice x none (some 1)).cps.all (· < 0x110000) = true
  rw [← Array.all_toList, slice1]
  rw [List.all_eq_true]
  intro c hc
  have := h c hc
  simp
  omega
end Mine

namespace Mine
open PySem PySem.W PyProof.Rows PySem.Spec PySem.Calls PyProof.Rows.LCg

section
variable {W : Wd} (hK : W.K = MineTop.hd.heap_39 W.w.params) {lvl : Nat}
include hK
local macro_rules | `(tactic| tb_rel) => `(tactic| (first | exact rfl | ((try dsimp only); repeat (first | with_reducible exact lk0 | assumption | (with_reducible refine lk1 (by decide +kernel) ?_)))))
local macro_rules | `(tactic| tb_start) => `(tactic| repeat' (first
  | (with_reducible refine Ev.cInt) | (with_reducible refine Ev.cStr) | (with_reducible refine Ev.cNone) | (with_reducible refine Ev.cBool)
  | ((with_reducible apply Ev.name); (case he => first | exact envOk rfl | exact compEnv_ok (envOk rfl) rfl); (case hx => tb_rel); (case hd => decide +kernel))
  | (with_reducible apply Ev.bin)
  | (with_reducible apply Ev.unary)
  | ((with_reducible apply Ev.tuple); (case hsz => decide +kernel))
  | ((with_reducible apply Ev.list); (case hsz => decide +kernel))
  | (with_reducible refine Evs.nil)
  | ((with_reducible apply Evs.cons); (case hs => (intro _; rfl)))
  | (with_reducible refine op_add) | (with_reducible refine op_sub) | (with_reducible refine op_neg)
  | ((with_reducible refine op_mod ?a9); (case a9 => decide +kernel))
  | ((with_reducible refine op_div ?a9 ?b9); (case a9 => decide +kernel); (case b9 => decide +kernel))))
def num (p : PySem.Str × D) : Int := match p.2 with | .int n => n | _ => 0
def partsOf (m : Ms) : List (PySem.Str × D) := if (m.bld.1 == PySem.Str.ofString "") = true then m.ver else m.ver ++ [m.bld]
def allInt (ps : List (PySem.Str × D)) : Bool := ((ps.filter fun p => p.2.isNone).length == 0)
def normOf (m : Ms) : PySem.Str := if allInt (partsOf m) = true then dot (((partsOf m).take 3).map fun p => numText (num p)) else dot (((partsOf m).take 3).map (·.1))
def toldOf (m : Ms) : PySem.Str := dot (m.rel.map (·.1))
def figs : List PySem.Str := [PySem.Str.ofString "5", PySem.Str.ofString "6", PySem.Str.ofString "7", PySem.Str.ofString "8", PySem.Str.ofString "9"]
def told2 (m : Ms) : PySem.Str := match m.rel with
  | p :: r => if p.2.isNone = true then toldOf m else dot (numText (num p - 3) :: r.map (·.1))
  | [] => toldOf m
def lname (m : Ms) : PySem.Str :=
  if ([PySem.Str.ofString "win32", PySem.Str.ofString "win16"].any fun y => y == m.sys) = true then ((PySem.Str.ofString "Windows|" ++ toldOf m) ++ PySem.Str.ofString "|") ++ normOf m
  else if ((m.sys != PySem.Str.ofString "SunOS") || !(figs.any fun y => y == Txt.slice (toldOf m) none (some 1))) = true then ((m.sys ++ PySem.Str.ofString "|") ++ toldOf m) ++ PySem.Str.ofString "|" ++ normOf m
  else ((PySem.Str.ofString "Solaris|" ++ told2 m) ++ PySem.Str.ofString "|") ++ normOf m

omit hK in
theorem partB_txt {p : PySem.Str × D} (h : partB p = true) : p.1.length ≤ 10 ∧ PyData.strOk p.1 = true := by
  unfold partB txtB at h
  simp only [Bool.and_eq_true, decide_eq_true_eq] at h
  exact ⟨h.1.1.1.1.1.1, h.1.1.2⟩
omit hK in
theorem partB_num {p : PySem.Str × D} (h : partB p = true) : p.2 = .none ∨ (p.2 = .int (num p) ∧ (num p).natAbs.log2 < 1920 ∧ (num p - 3).natAbs.log2 < 1920 ∧ (numText (num p)).length ≤ 20 ∧ (numText (num p - 3)).length ≤ 20) := by
  unfold partB at h
  simp only [Bool.and_eq_true] at h
  obtain ⟨t, d⟩ := p
  cases d with
  | none => exact .inl rfl
  | int n =>
    have h2 := h.2
    simp only [numB, Bool.and_eq_true, decide_eq_true_eq] at h2
    exact .inr ⟨rfl, h2.1.1.1.2, h2.1.1.2, h2.1.2, h2.2⟩
  | _ => exact absurd h.2 (by simp [numB])
omit hK in
theorem nones_ok : ∀ n : Nat, n < 50 → kqdOk 9 (toDat (.list (List.replicate n D.none))) = true := by decide +kernel
omit hK in
open Classical in
theorem nones_eq (n : Nat) : (n == 0) = decide (toDat (.list (List.replicate n D.none)) = toDat (.list [])) := by
  cases n with
  | zero => rw [decide_eq_true (show toDat (.list (List.replicate 0 D.none)) = toDat (.list []) from rfl)]; rfl
  | succ n =>
    rw [decide_eq_false (show ¬ toDat (.list (List.replicate (n + 1) D.none)) = toDat (.list []) from fun h => by simp [List.replicate_succ, toDat, toDats] at h)]
    rfl
omit hK in
theorem parts_good {m : Ms} {k : Nat} (g : Good m k) : (∀ p ∈ partsOf m, partB p = true) ∧ (partsOf m).length ≤ 3 + k := by
  unfold partsOf
  split
  · exact ⟨g.v, by have := g.vl; omega⟩
  · refine ⟨fun p hp => ?_, by rw [List.length_append, List.length_singleton]; have := g.vl; omega⟩
    rcases List.mem_append.mp hp with h | h
    · exact g.v p h
    · rw [List.mem_singleton.mp h]; exact g.b
omit hK in
theorem told_len {m : Ms} {k : Nat} (g : Good m k) (hk : k ≤ 20) : (toldOf m).length ≤ 840 :=
  dot_len (fun x hx => by obtain ⟨p, hp, rfl⟩ := List.mem_map.mp hx; exact Nat.le_trans (partB_txt (g.r p hp)).1 (by decide)) (by rw [List.length_map]; have := g.rl; omega)
omit hK in
theorem allInt_int {m : Ms} {k : Nat} (g : Good m k) (h : allInt (partsOf m) = true) : ∀ p ∈ partsOf m, p.2 = .int (num p) ∧ (num p).natAbs.log2 < 1920 ∧ (numText (num p)).length ≤ 20 := by
  intro p hp
  rcases partB_num ((parts_good g).1 p hp) with h' | h'
  · unfold allInt at h
    have : p ∈ (partsOf m).filter fun p => p.2.isNone := List.mem_filter.mpr ⟨hp, by rw [h']; rfl⟩
    have h0 : ((partsOf m).filter fun p => p.2.isNone).length = 0 := by simpa using h
    rw [List.length_eq_zero_iff.mp h0] at this
    cases this
  · exact ⟨h'.1, h'.2.1, h'.2.2.2.1⟩
omit hK in
theorem norm_len {m : Ms} {k : Nat} (g : Good m k) (hk : k ≤ 20) : (normOf m).length ≤ 840 := by
  unfold normOf
  have hl := (parts_good g).2
  split
  · rename_i h
    refine dot_len (fun x hx => ?_) (by rw [List.length_map, List.length_take]; omega)
    obtain ⟨p, hp, rfl⟩ := List.mem_map.mp hx
    exact (allInt_int g h p (List.mem_of_mem_take hp)).2.2
  · refine dot_len (fun x hx => ?_) (by rw [List.length_map, List.length_take]; omega)
    obtain ⟨p, hp, rfl⟩ := List.mem_map.mp hx
    exact Nat.le_trans (partB_txt ((parts_good g).1 p (List.mem_of_mem_take hp))).1 (by decide)

theorem keep69 : keepIn W.K (.ref 69) = true := by rw [hK]; rfl
theorem name_fn (m : Ms) (k : Nat) (g : Good m k) (hk : k ≤ 20) : Fn W (lvl + 3) 74 [.str m.sys, .list (m.rel.map prt), .list (m.ver.map prt), prt m.bld] (.str (lname m)) := by
  have hpl := (parts_good g).2
  have hpg := (parts_good g).1
  have hw : ∀ p ∈ partsOf m, p.1.length ≤ 20 := fun p hp => Nat.le_trans (partB_txt (hpg p hp)).1 (by decide)
  have hrw : ∀ p ∈ m.rel, p.1.length ≤ 20 := fun p hp => Nat.le_trans (partB_txt (g.r p hp)).1 (by decide)
  have hrl := g.rl
  have hvl := g.vl
  have tl := told_len g hk
  have nl := norm_len g hk
  have hso : PyData.strOk m.sys = true := by
    have : ∀ x ∈ six, PyData.strOk x = true := by decide +kernel
    exact this _ g.s
  have hsl : m.sys.length ≤ 10 := by
    have : ∀ x ∈ six, x.length ≤ 10 := by decide +kernel
    exact this _ g.s
  refine Fn.of [PySem.Str.ofString "system", PySem.Str.ofString "release", PySem.Str.ofString "version", PySem.Str.ofString "build"] (by rw [hK]; rfl) (by rw [hK]; rfl) (fun s vs hl => ?_) (by decide +kernel) (by decide +kernel) (fun L' => ?_) rfl rfl rfl (by decide +kernel)
  · match vs, hl with
    | [v, u, w, x], _ => exact BindsTo.of_eq rfl
  refine Ex.cons (Ex.asg (d := .list ((partsOf m).map prt)) (envOk rfl) rfl ?_ (by intro y e h; cases h) ?_)
  · refine Ev.ifExp (c := (m.bld.1 == PySem.Str.ofString "")) (Tr.cmp true (d₁ := .str m.bld.1) (d₂ := .str "") (Ev.sub (d₁ := prt m.bld) (d₂ := .int 0) (by tb_start) (by tb_start) (op_itemTup (by decide) rfl (by decide))) (by tb_start) op_eqStr) (fun hc => ?_) fun hc => ?_
    · have e : partsOf m = m.ver := by unfold partsOf; rw [if_pos hc]
      rw [e]; tb_start
    · have e : partsOf m = m.ver ++ [m.bld] := by unfold partsOf; rw [if_neg (by rw [hc]; decide)]
      rw [e, List.map_append]
      exact Ev.bin (d₁ := .list (m.ver.map prt)) (d₂ := .list [prt m.bld]) (by tb_start) (by tb_start) (op_catList (fits1000 (by rw [List.length_map]; show _ + 1 ≤ _; omega)))
  refine Ex.cons (Ex.asg (d := .str (dot (((partsOf m).take 3).map (·.1)))) (envOk rfl) rfl ?_ (by intro y e h; cases h) ?_)
  · refine Ev.callG (envOk rfl) (k_dotted hK) (keep69 hK) (ds := [.list (((partsOf m).take 3).map prt)]) (.cons ?_ .nil (by intro _; rfl)) (dotted_fn hK ((partsOf m).take 3) (by rw [List.length_take]; omega) (fun p hp => hw p (List.mem_of_mem_take hp))) rfl (by decide +kernel)
    rw [List.map_take]
    exact Ev.upto (by tb_start) (fits1000 (by rw [List.length_map]; omega))
  refine Ex.andThen (fun V => V.u = none ∧ V.s.lookup (PySem.Str.ofString "normal") = some (D.str (normOf m)) ∧ V.s.lookup (PySem.Str.ofString "system") = some (D.str m.sys) ∧ V.s.lookup (PySem.Str.ofString "release") = some (D.list (m.rel.map prt))) ?_ fun V hV => ?_
  · refine Ex.ifs (c := allInt (partsOf m)) (Tr.cmp true (d₁ := .list (List.replicate ((partsOf m).filter fun p => p.2.isNone).length D.none)) (d₂ := .list []) ?_ (by tb_start) (op_eqD (by omega) (nones_ok _ (by have := List.length_filter_le (fun p => p.2.isNone) (partsOf m); omega)) (by decide +kernel) (nones_eq _))) (fun hc => ?_) fun hc => ?_
    · have e : List.replicate ((partsOf m).filter fun p => p.2.isNone).length D.none = (((partsOf m).map prt).filter fun d => match d with | .tuple [_, n] => n.isNone | _ => false).map fun d => (match d with | .tuple [_, n] => n | d => d) := by
        rw [List.filter_map, List.map_map]
        symm
        rw [List.eq_replicate_iff]
        refine ⟨by rw [List.length_map]; rfl, fun d hd => ?_⟩
        obtain ⟨p, hp, rfl⟩ := List.mem_map.mp hd
        have h2 := (List.mem_filter.mp hp).2
        have h3 : p.2.isNone = true := h2
        show p.2 = D.none
        cases hp2 : p.2 with
        | none => rfl
        | _ => rw [hp2] at h3; cases h3
      rw [e]
      refine Ev.comp (cl := []) (Vo := { s := [] }) (Src.list (by tb_start) (.inr ⟨⟨_, _, _, rfl⟩, fun d hd => ?_⟩)) ⟨rfl, by decide +kernel, rfl, by decide +kernel⟩ Sees.none _ _
        (fun d => match d with | .tuple [x, y] => { s := [("number", y), ("writing", x)] } | _ => { s := [] }) (by rw [List.length_map]; exact fits1000 (by omega)) (fun d hd => ?_) (fun C d hd => ?_) fun C d hd _ => ?_
      · obtain ⟨p, _, rfl⟩ := List.mem_map.mp hd
        exact ⟨_, rfl⟩
      · obtain ⟨p, _, rfl⟩ := List.mem_map.mp hd
        exact Bnd.pair rfl rfl rfl (by decide)
      · obtain ⟨p, _, rfl⟩ := List.mem_map.mp hd
        exact tests_one (Tr.cmp true (d₁ := p.2) (d₂ := .none) (by tb_start) (by tb_start) op_isNone)
      · obtain ⟨p, _, rfl⟩ := List.mem_map.mp hd
        exact Ev.name (compEnv_ok (envOk rfl) rfl) rfl
    · have hn := allInt_int g hc
      have en : normOf m = dot (((partsOf m).take 3).map fun p => numText (num p)) := by unfold normOf; rw [if_pos hc]
      rw [en]
      refine Ex.cons (Ex.asg (d := .str (dot (((partsOf m).take 3).map fun p => numText (num p)))) (envOk rfl) rfl ?_ (by intro y e h; cases h) (Ex.nil ⟨rfl, by tb_rel, by tb_rel, by tb_rel⟩))
      refine Ev.joinB (xs := ((partsOf m).take 3).map fun p => numText (num p)) (d := .list ((((partsOf m).take 3).map fun p => numText (num p)).map D.str)) (.inl rfl) ?_ (join_fits (fun x hx => by obtain ⟨p, hp, rfl⟩ := List.mem_map.mp hx; exact (hn p (List.mem_of_mem_take hp)).2.2) (by rw [List.length_map, List.length_take]; omega) (by decide)) rfl
      have e : (((partsOf m).take 3).map fun p => numText (num p)).map D.str = ((((partsOf m).take 3).map prt).filter fun _ => true).map fun d => (match d with | .tuple [_, .int n] => .str (numText n) | d => d) := by
        rw [List.filter_eq_self.mpr (fun _ _ => rfl), List.map_map, List.map_map]
        refine List.map_congr_left fun p hp => ?_
        have := (hn p (List.mem_of_mem_take hp)).1
        show D.str (numText (num p)) = (match D.tuple [.str p.1, p.2] with | .tuple [_, .int n] => .str (numText n) | d => d)
        rw [this]
      rw [e]
      refine Ev.comp (cl := []) (Vo := { s := [] }) (ds := ((partsOf m).take 3).map prt) (Src.list ?_ (.inr ⟨⟨_, _, _, rfl⟩, fun d hd => ?_⟩)) ⟨rfl, by decide +kernel, rfl, by decide +kernel⟩ Sees.none _ _
        (fun d => match d with | .tuple [x, y] => { s := [("number", y), ("writing", x)] } | _ => { s := [] }) (by rw [List.length_map, List.length_take]; exact fits1000 (by omega)) (fun d hd => ?_) (fun C d hd => tests_nil) fun C d hd _ => ?_
      · rw [show ((partsOf m).take 3).map prt = ((partsOf m).map prt).take 3 from List.map_take ..]
        exact Ev.upto (by tb_start) (fits1000 (by rw [List.length_map]; omega))
      · obtain ⟨p, _, rfl⟩ := List.mem_map.mp hd
        exact ⟨_, rfl⟩
      · obtain ⟨p, _, rfl⟩ := List.mem_map.mp hd
        exact Bnd.pair rfl rfl rfl (by decide)
      · obtain ⟨p, hp, rfl⟩ := List.mem_map.mp hd
        obtain ⟨e1, e2, e3⟩ := hn p (List.mem_of_mem_take hp)
        show Ev W true _ _ { s := [("number", p.2), ("writing", .str p.1)] } _ (match D.tuple [.str p.1, p.2] with | .tuple [_, .int n] => .str (numText n) | d => d)
        rw [e1]
        exact Ev.callT1 (d₁ := .int (num p)) (compEnv_ok (envOk rfl) rfl) (k_str hK) boot_str (by tb_start) (op_strInt e2) rfl
    · have en : normOf m = dot (((partsOf m).take 3).map (·.1)) := by unfold normOf; rw [if_neg (by rw [hc]; decide)]
      rw [en]
      exact Ex.nil ⟨rfl, by tb_rel, by tb_rel, by tb_rel⟩
  obtain ⟨u0, u1, u2, u3⟩ := hV
  refine Ex.cons (Ex.asg (d := .str (toldOf m)) (envOk rfl) rfl (Ev.callG (envOk rfl) (k_dotted hK) (keep69 hK) (ds := [.list (m.rel.map prt)]) (.cons (by tb_start) .nil (by intro _; rfl)) (dotted_fn hK m.rel (by omega) hrw) rfl (by decide +kernel)) (by intro y e h; rw [u0] at h; cases h) ?_)
  refine Ex.cons (Ex.ifs (c := ([PySem.Str.ofString "win32", PySem.Str.ofString "win16"].any fun y => y == m.sys)) (Tr.cmp true (d₁ := .str m.sys) (d₂ := .list ([PySem.Str.ofString "win32", PySem.Str.ofString "win16"].map D.str)) (by tb_start) (by show Ev _ _ _ _ _ _ (.list [.str "win32", .str "win16"]); tb_start) (op_inListStr (by omega) (by
        repeat' (first | exact List.forall_mem_nil _ | refine List.forall_mem_cons.mpr ⟨by first | exact hso | decide +kernel, ?_⟩)))) (fun h1 => ?_) fun h1 => Ex.nil ?_)
  · have e : lname m = ((PySem.Str.ofString "Windows|" ++ toldOf m) ++ PySem.Str.ofString "|") ++ normOf m := by unfold lname; rw [if_pos h1]
    rw [e]
    refine Ex.cons (Ex.ret ?_ rfl)
    refine Ev.bin (d₁ := .str ((PySem.Str.ofString "Windows|" ++ toldOf m) ++ PySem.Str.ofString "|")) (d₂ := .str (normOf m)) (Ev.bin (d₁ := .str (PySem.Str.ofString "Windows|" ++ toldOf m)) (d₂ := .str "|") (Ev.bin (d₁ := .str "Windows|") (d₂ := .str (toldOf m)) (by tb_start) (by tb_start) (op_cat ?_)) (by tb_start) (op_cat ?_)) (by tb_start) (op_cat ?_)
    all_goals (refine Nat.le_trans (?_ : _ ≤ 2000) (by decide +kernel); simp only [PySem.Str.length_append, show (PySem.Str.ofString "Windows|").length = 8 from by decide +kernel, show (PySem.Str.ofString "|").length = 1 from by decide +kernel]; omega)
  refine Ex.cons (Ex.ifs (c := ((m.sys != PySem.Str.ofString "SunOS") || !(figs.any fun y => y == Txt.slice (toldOf m) none (some 1)))) ?_ (fun h2 => ?_) fun h2 => Ex.nil ?_)
  · refine Tr.or2 (c := (m.sys != PySem.Str.ofString "SunOS")) (Tr.cmp true (d₁ := .str m.sys) (d₂ := .str "SunOS") (by tb_start) (by tb_start) op_neStr) (fun hc => ?_) fun hc => by rw [hc]; rfl
    rw [hc, Bool.false_or]
    have hhd : ∀ c ∈ (toldOf m).cps.toList.take 1, c ≤ 57 := dot_head fun x hx => by
      obtain ⟨p, hp, rfl⟩ := List.mem_map.mp hx
      have := g.r p hp
      unfold partB at this
      simp only [Bool.and_eq_true] at this
      exact this.1
    refine Tr.cmp true (d₁ := .str (Txt.slice (toldOf m) none (some 1))) (d₂ := .list (figs.map D.str)) (Ev.strUpto (by tb_start) (fits1000 (by omega))) (by show Ev _ _ _ _ _ _ (.list [.str "5", .str "6", .str "7", .str "8", .str "9"]); tb_start) (op_notInListStr (by omega) (List.forall_mem_cons.mpr ⟨strOk_slice hhd, by unfold figs; decide +kernel⟩))
  · have e : lname m = ((m.sys ++ PySem.Str.ofString "|") ++ toldOf m) ++ PySem.Str.ofString "|" ++ normOf m := by unfold lname; rw [if_neg (by rw [h1]; decide), if_pos h2]
    rw [e]
    refine Ex.cons (Ex.ret ?_ rfl)
    refine Ev.bin (d₁ := .str ((m.sys ++ PySem.Str.ofString "|") ++ toldOf m ++ PySem.Str.ofString "|")) (d₂ := .str (normOf m)) (Ev.bin (d₁ := .str (m.sys ++ PySem.Str.ofString "|" ++ toldOf m)) (d₂ := .str "|") (Ev.bin (d₁ := .str (m.sys ++ PySem.Str.ofString "|")) (d₂ := .str (toldOf m)) (Ev.bin (d₁ := .str m.sys) (d₂ := .str "|") (by tb_start) (by tb_start) (op_cat ?_)) (by tb_start) (op_cat ?_)) (by tb_start) (op_cat ?_)) (by tb_start) (op_cat ?_)
    all_goals (refine Nat.le_trans (?_ : _ ≤ 2000) (by decide +kernel); simp only [PySem.Str.length_append, show (PySem.Str.ofString "|").length = 1 from by decide +kernel]; omega)
  have e : lname m = ((PySem.Str.ofString "Solaris|" ++ told2 m) ++ PySem.Str.ofString "|") ++ normOf m := by unfold lname; rw [if_neg (by rw [h1]; decide), if_neg (by rw [h2]; decide)]
  rw [e]
  obtain ⟨sy, rel, ver, bld⟩ := m
  obtain ⟨p, r, rfl⟩ : ∃ p r, rel = p :: r := by
    cases rel with
    | nil => exact absurd rfl g.r0
    | cons p r => exact ⟨p, r, rfl⟩
  have hp := partB_num (g.r p (.head _))
  have hrw' : ∀ q ∈ r, q.1.length ≤ 20 := fun q hq => hrw q (.tail _ hq)
  have hr' : r.length ≤ 30 := by simp at hrl; omega
  have tl2 : (told2 ⟨sy, p :: r, ver, bld⟩).length ≤ 840 := by
    show (if p.2.isNone = true then _ else _ : PySem.Str).length ≤ _
    split
    · exact tl
    · rename_i hpn
      refine dot_len (fun x hx => ?_) (by simp; omega)
      rcases List.mem_cons.mp hx with rfl | hx
      · rcases hp with h | h
        · rw [h] at hpn; exact absurd rfl hpn
        · exact h.2.2.2.2
      · obtain ⟨q, hq, rfl⟩ := List.mem_map.mp hx
        exact hrw' q hq
  refine Ex.andThen (fun V => V.s.lookup (PySem.Str.ofString "normal") = some (D.str (normOf ⟨sy, p :: r, ver, bld⟩)) ∧ V.s.lookup (PySem.Str.ofString "told") = some (D.str (told2 ⟨sy, p :: r, ver, bld⟩))) ?_ fun V' hV' => ?_
  · refine Ex.ifs (c := !p.2.isNone) (Tr.cmp true (d₁ := p.2) (d₂ := .none) (Ev.sub (d₁ := prt p) (d₂ := .int 1) (Ev.sub (d₁ := .list ((p :: r).map prt)) (d₂ := .int 0) (by tb_start) (by tb_start) (op_itemList (by decide) rfl (by decide))) (by tb_start) (op_itemTup (by decide) rfl (by decide))) (by tb_start) op_isNotNone) (fun hc => ?_) fun hc => ?_
    · have hpn : ¬ p.2.isNone = true := by intro h; rw [h] at hc; cases hc
      obtain ⟨q1, q2, q3, q4, q5⟩ := hp.resolve_left fun h => hpn (by rw [h]; rfl)
      have e2 : told2 ⟨sy, p :: r, ver, bld⟩ = dot (((numText (num p - 3), D.none) :: r).map (·.1)) := by show (if p.2.isNone = true then _ else _ : PySem.Str) = _; rw [if_neg hpn]; rfl
      rw [e2]
      refine Ex.cons (Ex.asg (d := .str (dot (((numText (num p - 3), D.none) :: r).map (·.1)))) (envOk rfl) rfl ?_ (by intro y e h; rw [u0] at h; cases h) (Ex.nil ⟨by tb_rel, by tb_rel⟩))
      refine Ev.callG (envOk rfl) (k_dotted hK) (keep69 hK) (ds := [.list (((numText (num p - 3), D.none) :: r).map prt)]) (.cons ?_ .nil (by intro _; rfl)) (dotted_fn hK ((numText (num p - 3), D.none) :: r) (by simp; omega) (fun q hq => by
        rcases List.mem_cons.mp hq with rfl | hq
        · exact q5
        · exact hrw' q hq)) rfl (by decide +kernel)
      refine Ev.bin (d₁ := .list [prt (numText (num p - 3), D.none)]) (d₂ := .list (r.map prt)) (Ev.list (.cons (Ev.tuple (.cons ?_ (.cons (by tb_start) .nil))) .nil)) ?_ (op_catList (fits1000 (by rw [List.length_map]; show 1 + _ ≤ _; omega)))
      · refine Ev.callT1 (d₁ := .int (num p - 3)) (envOk rfl) (k_str hK) boot_str (Ev.bin (d₁ := .int (num p)) (d₂ := .int 3) ?_ (by tb_start) op_sub) (op_strInt q3) rfl
        rw [← q1]
        exact Ev.sub (d₁ := prt p) (d₂ := .int 1) (Ev.sub (d₁ := .list ((p :: r).map prt)) (d₂ := .int 0) (by tb_start) (by tb_start) (op_itemList (by decide) rfl (by decide))) (by tb_start) (op_itemTup (by decide) rfl (by decide))
      · exact Ev.from (k := 1) (ds := (p :: r).map prt) (by tb_start) (fits1000 (by simp; omega))
    · have hpn : p.2.isNone = true := by simpa using hc
      have e2 : told2 ⟨sy, p :: r, ver, bld⟩ = toldOf ⟨sy, p :: r, ver, bld⟩ := by show (if p.2.isNone = true then _ else _ : PySem.Str) = _; rw [if_pos hpn]
      rw [e2]
      exact Ex.nil ⟨by tb_rel, by tb_rel⟩
  obtain ⟨w1, w2⟩ := hV'
  refine Ex.cons (Ex.ret ?_ rfl)
  refine Ev.bin (d₁ := .str ((PySem.Str.ofString "Solaris|" ++ told2 ⟨sy, p :: r, ver, bld⟩) ++ PySem.Str.ofString "|")) (d₂ := .str (normOf ⟨sy, p :: r, ver, bld⟩)) (Ev.bin (d₁ := .str (PySem.Str.ofString "Solaris|" ++ told2 ⟨sy, p :: r, ver, bld⟩)) (d₂ := .str "|") (Ev.bin (d₁ := .str "Solaris|") (d₂ := .str (told2 ⟨sy, p :: r, ver, bld⟩)) (by tb_start) (by tb_start) (op_cat ?_)) (by tb_start) (op_cat ?_)) (by tb_start) (op_cat ?_)
  all_goals (refine Nat.le_trans (?_ : _ ≤ 2000) (by decide +kernel); simp only [PySem.Str.length_append, show (PySem.Str.ofString "Solaris|").length = 8 from by decide +kernel, show (PySem.Str.ofString "|").length = 1 from by decide +kernel]; omega)
end
end Mine

namespace Mine
open PySem PySem.W PyProof.Rows PySem.Spec PySem.Calls PyProof.Rows.LCg

theorem part_text {p : PySem.Str × D} (h : partB p = true) : textOk p.1 ∧ 46 ∉ p.1.cps.toList ∧ (p.2.isNone = true → PySem.intText? p.1 = none) ∧ (p.2.isNone = false → PySem.intText? p.1 = some (num p)) := by
  have h0 := h
  unfold partB at h
  simp only [Bool.and_eq_true] at h
  obtain ⟨h1, h2⟩ := h
  unfold txtB at h1
  simp only [Bool.and_eq_true, decide_eq_true_eq] at h1
  have hd : 46 ∉ p.1.cps.toList := by
    have := h1.1.1.1.2
    simpa using this
  obtain ⟨t, d⟩ := p
  cases d with
  | none =>
    have hn : PySem.intText? t = none := by simpa [numB] using h2
    refine ⟨⟨Nat.le_trans h1.1.1.1.1.1 (by decide), fits1000 h1.1.1.1.1.2, fun n e => ?_⟩, hd, fun _ => hn, fun e => (by cases e)⟩
    have e' : PySem.intText? t = some n := e
    rw [hn] at e'; cases e'
  | int n =>
    simp only [numB, Bool.and_eq_true, decide_eq_true_eq] at h2
    have hn : PySem.intText? t = some n := by simpa using h2.1.1.1.1
    refine ⟨⟨Nat.le_trans h1.1.1.1.1.1 (by decide), fits1000 h1.1.1.1.1.2, fun k e => ?_⟩, hd, fun e => (by cases e), fun _ => hn⟩
    have e' : PySem.intText? t = some k := e
    rw [hn] at e'; cases e'; exact h2.1.1.1.2
  | _ => exact absurd h2 (by simp [numB])

theorem ints_of : ∀ {ps : List (PySem.Str × D)}, (∀ p ∈ ps, partB p = true) → ints? (ps.map (·.1)) = if allInt ps = true then some (ps.map num) else none
  | [], _ => rfl
  | p :: ps, h => by
    have ih := ints_of fun q hq => h q (.tail _ hq)
    obtain ⟨_, _, h1, h2⟩ := part_text (h p (.head _))
    rw [List.map_cons, ints?]
    cases hp : p.2.isNone with
    | true =>
      rw [h1 hp]
      have : allInt (p :: ps) = false := by unfold allInt; rw [List.filter_cons_of_pos (p := fun p : PySem.Str × D => p.2.isNone) hp]; rfl
      rw [this]; rfl
    | false =>
      rw [h2 hp, ih]
      have : allInt (p :: ps) = allInt ps := by unfold allInt; rw [List.filter_cons_of_neg (p := fun p : PySem.Str × D => p.2.isNone) (by rw [hp]; decide)]
      rw [this]
      cases allInt ps <;> rfl

theorem norm_eq {m : Ms} {k : Nat} (g : Good m k) : Txt.join "." ((normL ((partsOf m).map (·.1))).take 3) = normOf m := by
  unfold normL normOf
  rw [ints_of (parts_good g).1]
  cases allInt (partsOf m) with
  | true =>
    simp only [if_true]
    rw [List.map_map, List.map_take]; rfl
  | false =>
    simp only [Bool.false_eq_true, if_false]
    rw [List.map_take]
theorem parts_split (m : Ms) : (partsOf m).map (·.1) = m.ver.map (·.1) ++ (if ((m.bld.1.length : Int) != 0) = true then [m.bld.1] else []) := by
  unfold partsOf
  have key : (m.bld.1 == PySem.Str.ofString "") = !((m.bld.1.length : Int) != 0) := by
    obtain ⟨t, d⟩ := m.bld
    obtain ⟨⟨a⟩⟩ := t
    cases a with
    | nil => rfl
    | cons c r =>
      have : ((⟨⟨c :: r⟩⟩ : PySem.Str) == PySem.Str.ofString "") = false := beq_eq_false_iff_ne.mpr fun e => by
        have := congrArg (fun s : PySem.Str => s.cps.toList) e
        simp at this
        have e2 : (PySem.Str.ofString "").cps.toList = [] := by decide +kernel
        rw [e2] at this; cases this
      show ((⟨⟨c :: r⟩⟩ : PySem.Str) == PySem.Str.ofString "") = _
      rw [this]
      have : (((⟨⟨c :: r⟩⟩ : PySem.Str).length : Int) != 0) = true := by
        show ((((c :: r).length : Nat) : Int) != 0) = true
        rw [List.length_cons, bne_iff_ne]; omega
      show _ = !(((⟨⟨c :: r⟩⟩ : PySem.Str).length : Int) != 0)
      rw [this]; rfl
  rw [key]
  cases ((m.bld.1.length : Int) != 0) with
  | true => simp
  | false => simp

theorem name_eq {m : Ms} {k : Nat} (g : Good m k) {p : PySem.Str × D} {r : List (PySem.Str × D)} (hr : m.rel = p :: r) :
    Txt.join "|" [(aliasS m.sys (toldOf m) p.1 (r.map (·.1))).1, (aliasS m.sys (toldOf m) p.1 (r.map (·.1))).2, normOf m] = lname m := by
  have j3 : ∀ a b c : PySem.Str, Txt.join "|" [a, b, c] = ((a ++ PySem.Str.ofString "|") ++ b) ++ PySem.Str.ofString "|" ++ c := fun a b c => rfl
  have ew : PySem.Str.ofString "Windows|" = PySem.Str.ofString "Windows" ++ PySem.Str.ofString "|" := by decide +kernel
  have es : PySem.Str.ofString "Solaris|" = PySem.Str.ofString "Solaris" ++ PySem.Str.ofString "|" := by decide +kernel
  have hhd : ∀ c ∈ (toldOf m).cps.toList.take 1, c ≤ 57 := dot_head fun x hx => by
    obtain ⟨p, hp, rfl⟩ := List.mem_map.mp hx
    have := g.r p hp
    unfold partB at this
    simp only [Bool.and_eq_true] at this
    exact this.1
  rw [j3]
  have hL : lname m = if ([PySem.Str.ofString "win32", PySem.Str.ofString "win16"].any fun y => y == m.sys) = true then ((PySem.Str.ofString "Windows|" ++ toldOf m) ++ PySem.Str.ofString "|") ++ normOf m
      else if ((m.sys != PySem.Str.ofString "SunOS") || decide ((toldOf m).cps.toList < (PySem.Str.ofString "5").cps.toList)) = true then ((m.sys ++ PySem.Str.ofString "|") ++ toldOf m) ++ PySem.Str.ofString "|" ++ normOf m
      else ((PySem.Str.ofString "Solaris|" ++ told2 m) ++ PySem.Str.ofString "|") ++ normOf m := by
    unfold lname figs
    rw [figs_lt hhd]
  rw [hL]
  by_cases h1 : m.sys = PySem.Str.ofString "SunOS"
  · have hb : (m.sys == PySem.Str.ofString "SunOS") = true := beq_iff_eq.mpr h1
    have hw : ([PySem.Str.ofString "win32", PySem.Str.ofString "win16"].any fun y => y == m.sys) = false := by rw [h1]; decide +kernel
    have hn : (m.sys != PySem.Str.ofString "SunOS") = false := by rw [bne, hb]; rfl
    rw [hw, hn, Bool.false_or]
    simp only [Bool.false_eq_true, if_false]
    by_cases h2 : decide ((toldOf m).cps.toList < (PySem.Str.ofString "5").cps.toList) = true
    · have eA : aliasS m.sys (toldOf m) p.1 (r.map (·.1)) = (m.sys, toldOf m) := by unfold aliasS; rw [if_pos hb, if_pos h2]
      rw [eA, if_pos h2]
    · have eA : aliasS m.sys (toldOf m) p.1 (r.map (·.1)) = (PySem.Str.ofString "Solaris", relA (toldOf m) p.1 (r.map (·.1))) := by unfold aliasS; rw [if_pos hb, if_neg h2]
      have : relA (toldOf m) p.1 (r.map (·.1)) = told2 m := by
        obtain ⟨_, _, q1, q2⟩ := part_text (g.r p (by rw [hr]; exact .head _))
        unfold told2 relA
        rw [hr]
        cases hp : p.2.isNone with
        | true => rw [q1 hp]; simp [toldOf, hr, hp]
        | false => rw [q2 hp]; simp [hp]
      rw [eA, if_neg h2, es, this]
  · have hb : (m.sys == PySem.Str.ofString "SunOS") = false := beq_eq_false_iff_ne.mpr h1
    have hn : (m.sys != PySem.Str.ofString "SunOS") = true := by rw [bne, hb]; rfl
    rw [hn, Bool.true_or]
    by_cases h2 : ([PySem.Str.ofString "win32", PySem.Str.ofString "win16"].any fun y => y == m.sys) = true
    · have eA : aliasS m.sys (toldOf m) p.1 (r.map (·.1)) = (PySem.Str.ofString "Windows", toldOf m) := by unfold aliasS; rw [if_neg (by rw [hb]; decide), if_pos h2]
      rw [eA, if_pos h2, ew]
    · have eA : aliasS m.sys (toldOf m) p.1 (r.map (·.1)) = (m.sys, toldOf m) := by unfold aliasS; rw [if_neg (by rw [hb]; decide), if_neg h2]
      rw [eA, if_neg h2, if_pos rfl]
end Mine

namespace Mine
open PySem PySem.W PyProof.Rows PySem.Spec PySem.Calls PyProof.Rows.LCg

section
variable {W : Wd} (hK : W.K = MineTop.hd.heap_39 W.w.params) {lvl : Nat}
include hK
local macro_rules | `(tactic| tb_rel) => `(tactic| (first | exact rfl | ((try dsimp only); repeat (first | with_reducible exact lk0 | assumption | (with_reducible refine lk1 (by decide +kernel) ?_)))))
local macro_rules | `(tactic| tb_start) => `(tactic| repeat' (first
  | (with_reducible refine Ev.cInt) | (with_reducible refine Ev.cStr) | (with_reducible refine Ev.cNone) | (with_reducible refine Ev.cBool)
  | ((with_reducible apply Ev.name); (case he => first | exact envOk rfl | exact compEnv_ok (envOk rfl) rfl); (case hx => tb_rel); (case hd => decide +kernel))
  | (with_reducible apply Ev.bin)
  | (with_reducible apply Ev.unary)
  | ((with_reducible apply Ev.tuple); (case hsz => decide +kernel))
  | ((with_reducible apply Ev.list); (case hsz => decide +kernel))
  | (with_reducible refine Evs.nil)
  | ((with_reducible apply Evs.cons); (case hs => (intro _; rfl)))
  | (with_reducible refine op_add) | (with_reducible refine op_sub) | (with_reducible refine op_neg)
  | ((with_reducible refine op_mod ?a9); (case a9 => decide +kernel))
  | ((with_reducible refine op_div ?a9 ?b9); (case a9 => decide +kernel); (case b9 => decide +kernel))))
omit hK in
theorem bits1000 : ∀ n : Nat, n < 1000 → Builtin.Int.intBits (n : Int) ≤ 64 := by decide +kernel
omit hK in
theorem mulOk1000 (x : Int) : IntMulOk (x.fmod 1000) (x.fmod 1000) := by
  have h0 : 0 ≤ x.fmod 1000 := Int.fmod_nonneg_of_pos _ (by decide)
  have h1 : x.fmod 1000 < 1000 := Int.fmod_lt_of_pos _ (by decide)
  refine IntMulOk.of_left ?_
  have := bits1000 (x.fmod 1000).toNat (by omega)
  rwa [Int.toNat_of_nonneg h0] at this
structure Ent where
  cc : Int
  nc : Int
  tt : Int
  ct : Int
  tab : List (PySem.Str × Int)
def entStep (e : Ent) (b : Ms × Int) : Ent := ⟨1 + e.cc, b.2.fmod 1000 + e.nc, b.2.fmod 1000 * b.2.fmod 1000 + e.tt, -(b.2.fmod 1000) + e.ct, addCallers e.tab [(lname b.1, b.2.fmod 1000)]⟩
def entAt (bs : List (Ms × Int)) : Ent := bs.foldl entStep ⟨0, 0, 0, 0, []⟩
def entD (e : Ent) : D := .tuple [.int e.cc, .int e.nc, .int e.tt, .int e.ct, .dict e.tab]
omit hK in
theorem ent_tab : ∀ (bs : List (Ms × Int)) (e : Ent), (bs.foldl entStep e).tab.length ≤ e.tab.length + bs.length
  | [], e => by simp
  | b :: bs, e => by
    have h := ent_tab bs (entStep e b)
    have h2 : (entStep e b).tab.length ≤ e.tab.length + 1 := by
      have h3 := adds_length [(lname b.1, b.2.fmod 1000)] (merge1 e.tab)
      have h4 := puts_length e.tab []
      simp only [List.length_cons, List.length_nil] at h3 h4
      exact Nat.le_trans h3 (by unfold merge1; omega)
    rw [List.foldl_cons, List.length_cons]
    omega

theorem k_norm : nsIn W.K mainGlobals "_norm_version" = some (some (.ref 22)) := by rw [hK]; rfl
theorem keep22 : keepIn W.K (.ref 22) = true := by rw [hK]; rfl
theorem k_alias : nsIn W.K mainGlobals "system_alias" = some (some (.ref 29)) := by rw [hK]; rfl
theorem keep29 : keepIn W.K (.ref 29) = true := by rw [hK]; rfl
theorem k_stats : nsIn W.K mainGlobals "add_func_stats" = some (some (.ref 36)) := by rw [hK]; rfl
theorem keep36 : keepIn W.K (.ref 36) = true := by rw [hK]; rfl

theorem normal_fn (ve : VeFree W) (m : Ms) (k : Nat) (g : Good m k) (hk : k ≤ 20) : FnC W (lvl + 1) 22 [.str (dot (m.ver.map (·.1))), .str m.bld.1] (.str (normOf m)) := by
  have hpg := (parts_good g).1
  have hpl := (parts_good g).2
  have hvl := g.vl
  have hdl : (dot (m.ver.map (·.1))).length ≤ 840 := dot_len (fun x hx => by obtain ⟨p, hp, rfl⟩ := List.mem_map.mp hx; exact Nat.le_trans (partB_txt (g.v p hp)).1 (by decide)) (by rw [List.length_map]; omega)
  have hN : ∀ x ∈ normL ((partsOf m).map (·.1)), x.length ≤ 20 := by
    intro x hx
    unfold normL at hx
    rw [ints_of hpg] at hx
    cases ha : allInt (partsOf m) with
    | true =>
      rw [ha] at hx
      simp only [if_true] at hx
      rw [List.map_map] at hx
      obtain ⟨p, hp, rfl⟩ := List.mem_map.mp hx
      exact (allInt_int g ha p hp).2.2
    | false =>
      rw [ha] at hx
      simp only [Bool.false_eq_true, if_false] at hx
      obtain ⟨p, hp, rfl⟩ := List.mem_map.mp hx
      exact Nat.le_trans (partB_txt (hpg p hp)).1 (by decide)
  have hNl : (normL ((partsOf m).map (·.1))).length ≤ 100 := by
    unfold normL
    rw [ints_of hpg]
    cases allInt (partsOf m) <;> simp <;> omega
  rw [← norm_eq g]
  exact norm_fn hK ve _ _ (m.ver.map (·.1)) ((partsOf m).map (·.1)) (split_dot (by intro e; exact g.v0 (List.map_eq_nil_iff.mp e)) (fun x hx => by obtain ⟨p, hp, rfl⟩ := List.mem_map.mp hx; exact (part_text (g.v p hp)).2.1)) (parts_split m) (fun x hx => by obtain ⟨p, hp, rfl⟩ := List.mem_map.mp hx; exact (part_text (hpg p hp)).1) (by rw [List.length_map]; omega) (fits1000 (by omega)) (by have := (partB_txt g.b).1; omega) (fits1000 (by have := parts_few (dot (m.ver.map (·.1))); omega)) (join_fits (fun x hx => hN x (List.mem_of_mem_take hx)) (by rw [List.length_take]; omega) (by decide)) (by omega)
theorem aliased_fn (ve : VeFree W) (m : Ms) (k : Nat) (g : Good m k) (hk : k ≤ 20) (p : PySem.Str × D) (r : List (PySem.Str × D)) (hr : m.rel = p :: r) (ver : PySem.Str) : FnC W (lvl + 2) 29 [.str m.sys, .str (toldOf m), .str ver] (.tuple ([(aliasS m.sys (toldOf m) p.1 (r.map (·.1))).1, (aliasS m.sys (toldOf m) p.1 (r.map (·.1))).2, ver].map D.str)) := by
  have tl := told_len g hk
  have hrl := g.rl
  have hp := g.r p (by rw [hr]; exact .head _)
  have hl : r.length ≤ 30 := by rw [hr] at hrl; simp at hrl; omega
  have hnum : ∀ n, PySem.intText? p.1 = some n → (n - 3).natAbs.log2 < 1920 ∧ (numText (n - 3)).length ≤ 20 := by
    intro n hn
    obtain ⟨_, _, q1, q2⟩ := part_text hp
    rcases partB_num hp with h | h
    · rw [q1 (by rw [h]; rfl)] at hn; cases hn
    · rw [q2 (by rw [h.1]; rfl)] at hn; cases hn
      exact ⟨h.2.2.1, h.2.2.2.2⟩
  refine alias_fn hK ve m.sys (toldOf m) ver p.1 (r.map (·.1)) ?_ (part_text hp).1 (fun n hn => (hnum n hn).1) (by rw [List.length_map]; omega) (fits1000 (by omega)) ?_ (fits1000 (by have := parts_few (toldOf m); omega)) (fun n hn => join_fits (fun x hx => ?_) (by simp; omega) (by decide))
  · have := split_dot (xs := m.rel.map (·.1)) (by intro e; exact g.r0 (List.map_eq_nil_iff.mp e)) (fun x hx => by obtain ⟨p, hp, rfl⟩ := List.mem_map.mp hx; exact (part_text (g.r p hp)).2.1)
    show Txt.split (dot (m.rel.map (·.1))) "." = _
    rw [this, hr]; rfl
  · have : ∀ x ∈ six, PyData.strOk x = true := by decide +kernel
    exact this _ g.s
  · rcases List.mem_cons.mp hx with rfl | hx
    · exact (hnum n hn).2
    · obtain ⟨q, hq, rfl⟩ := List.mem_map.mp hx
      exact Nat.le_trans (partB_txt (g.r q (by rw [hr]; exact .tail _ hq))).1 (by decide)

omit hK in
theorem alias_len {m : Ms} {k : Nat} (g : Good m k) (hk : k ≤ 20) {p : PySem.Str × D} {r : List (PySem.Str × D)} (hr : m.rel = p :: r) : (aliasS m.sys (toldOf m) p.1 (r.map (·.1))).1.length ≤ 10 ∧ (aliasS m.sys (toldOf m) p.1 (r.map (·.1))).2.length ≤ 840 := by
  have tl := told_len g hk
  have hsl : m.sys.length ≤ 10 := by
    have : ∀ x ∈ six, x.length ≤ 10 := by decide +kernel
    exact this _ g.s
  have hrl := g.rl
  have hp := g.r p (by rw [hr]; exact .head _)
  have hl : r.length ≤ 30 := by rw [hr] at hrl; simp at hrl; omega
  have ra : (relA (toldOf m) p.1 (r.map (·.1))).length ≤ 840 := by
    unfold relA
    split
    · rename_i n hn
      refine dot_len (fun x hx => ?_) (by simp; omega)
      rcases List.mem_cons.mp hx with rfl | hx
      · obtain ⟨_, _, q1, q2⟩ := part_text hp
        rcases partB_num hp with h | h
        · rw [q1 (by rw [h]; rfl)] at hn; cases hn
        · rw [q2 (by rw [h.1]; rfl)] at hn; cases hn
          exact h.2.2.2.2
      · obtain ⟨q, hq, rfl⟩ := List.mem_map.mp hx
        exact Nat.le_trans (partB_txt (g.r q (by rw [hr]; exact .tail _ hq))).1 (by decide)
    · exact tl
  unfold aliasS
  repeat' split
  · exact ⟨hsl, tl⟩
  · exact ⟨by show (PySem.Str.ofString "Solaris").length ≤ 10; decide +kernel, ra⟩
  · exact ⟨by show (PySem.Str.ofString "Windows").length ≤ 10; decide +kernel, tl⟩
  · exact ⟨hsl, tl⟩
theorem booked_fn (ve : VeFree W) (bs : List (Ms × Int)) (k : Nat) (hg : ∀ b ∈ bs, Good b.1 k) (hk : k ≤ 20) (hbl : bs.length ≤ 20) : FnC W (lvl + 3) 86 [.list (bs.map fun p => bkD p.1 p.2)] (entD (entAt bs)) := by
  refine FnC.of [PySem.Str.ofString "bookings"] (by rw [hK]; rfl) (by rw [hK]; rfl) (fun s vs X hl => ?_) (by decide +kernel) (by decide +kernel) (fun L' => ?_) rfl rfl rfl (by decide +kernel)
  · match vs, hl with
    | [v], _ => exact BindsTo.of_eq rfl
  refine ExC.cons (Ex.toC (Ex.asg (d := entD (entAt [])) (envOk rfl) rfl (by show Ev _ _ _ _ _ _ (.tuple [.int 0, .int 0, .int 0, .int 0, .dict []]); exact Ev.tuple (.cons (by tb_start) (.cons (by tb_start) (.cons (by tb_start) (.cons (by tb_start) (.cons Ev.nilDict .nil)))))) (by intro y e h; cases h) ?_))
  refine ExC.cons (ExC.forTup (xs := [(PySem.Str.ofString "system", _), (PySem.Str.ofString "release", _), (PySem.Str.ofString "version", _), (PySem.Str.ofString "build", _), (PySem.Str.ofString "count", _)]) (ds := bs.map fun p => bkD p.1 p.2) (envOk rfl) ?_ (by tb_start) (fun d hd => ?_) (fun i V => V.u = none ∧ V.s.lookup (PySem.Str.ofString "entry") = some (entD (entAt (bs.take i)))) ⟨rfl, by tb_rel⟩ (fun i V₁ y e hJ h => by rw [hJ.1] at h; cases h) (fun i es V₁ hi hJ => ?_) fun V' hV => ?_)
  · repeat' (first | exact List.forall_mem_nil _ | refine List.forall_mem_cons.mpr ⟨rfl, ?_⟩)
  · obtain ⟨p, _, rfl⟩ := List.mem_map.mp hd
    exact ⟨_, rfl, rfl⟩
  · obtain ⟨hu, he⟩ := hJ
    rw [List.getElem?_map] at hi
    cases hb : bs[i]? with
    | none => rw [hb] at hi; cases hi
    | some bb =>
    rw [hb] at hi
    obtain ⟨m, x⟩ := bb
    simp only [Option.map_some, Option.some.injEq] at hi
    unfold bkD at hi
    injection hi with hi
    subst hi
    have g : Good m k := hg _ (List.mem_of_getElem? hb)
    have hil : i < bs.length := by
      rcases Nat.lt_or_ge i bs.length with h | h
      · exact h
      · rw [List.getElem?_eq_none h] at hb; cases hb
    have hst : entAt (bs.take (i + 1)) = entStep (entAt (bs.take i)) (m, x) := by
      unfold entAt
      rw [List.take_add_one, hb, List.foldl_append]; rfl
    have htab : (entAt (bs.take i)).tab.length ≤ 20 := by
      have := ent_tab (bs.take i) ⟨0, 0, 0, 0, []⟩
      rw [List.length_take] at this
      show ((bs.take i).foldl entStep ⟨0, 0, 0, 0, []⟩).tab.length ≤ 20
      simp only [List.length_nil] at this
      omega
    rw [hst]
    generalize entAt (bs.take i) = en at he htab ⊢
    obtain ⟨pp, rr, hr⟩ : ∃ p r, m.rel = p :: r := by
      cases h : m.rel with
      | nil => exact absurd h g.r0
      | cons p r => exact ⟨p, r, rfl⟩
    have hrl := g.rl
    have hvl := g.vl
    refine ExC.cons (ExC.asg (d := .str (normOf m)) (envOk rfl) rfl (EvC.callG (envOk rfl) rfl (k_norm hK) (keep22 hK) (ds := [.str (dot (m.ver.map (·.1))), .str m.bld.1]) (.cons (Ev.callG (envOk rfl) (k_dotted hK) (keep69 hK) (ds := [.list (m.ver.map prt)]) (.cons (by tb_start) .nil (by intro _; rfl)) (dotted_fn hK m.ver (by omega) (fun p hp => Nat.le_trans (partB_txt (g.v p hp)).1 (by decide))) rfl (by decide +kernel)) (.cons (Ev.sub (d₁ := prt m.bld) (d₂ := .int 0) (by tb_start) (by tb_start) (op_itemTup (by decide) rfl (by decide))) .nil (by intro _; rfl)) (by intro _; rfl)) (normal_fn hK ve m k g hk) rfl (by decide +kernel)) (by intro y e h; rw [hu] at h; cases h) ?_)
    refine ExC.cons (ExC.asg (d := .str (lname m)) (envOk rfl) rfl ?_ (by intro y e h; rw [hu] at h; cases h) ?_)
    · rw [← name_eq g hr]
      refine EvC.joinB (EvC.callG (envOk rfl) rfl (k_alias hK) (keep29 hK) (ds := [.str m.sys, .str (toldOf m), .str (normOf m)]) (.cons (by tb_start) (.cons (Ev.callG (envOk rfl) (k_dotted hK) (keep69 hK) (ds := [.list (m.rel.map prt)]) (.cons (by tb_start) .nil (by intro _; rfl)) (dotted_fn hK m.rel (by omega) (fun p hp => Nat.le_trans (partB_txt (g.r p hp)).1 (by decide))) rfl (by decide +kernel)) (.cons (by tb_start) .nil (by intro _; rfl)) (by intro _; rfl)) (by intro _; rfl)) (aliased_fn hK ve m k g hk pp rr hr (normOf m)) rfl (by decide +kernel)) ?_ rfl
      have a1 := alias_len g hk hr
      have a2 := norm_len g hk
      have e1 : (PySem.Str.ofString "|").length = 1 := by decide +kernel
      simp only [List.map_cons, List.map_nil, List.sum_cons, List.sum_nil, List.length_cons, List.length_nil, e1]
      omega
    · refine ExC.cons (Ex.toC (Ex.asg (d := entD (entStep en (m, x))) (envOk rfl) rfl ?_ (by intro y e h; rw [hu] at h; cases h) (ExC.nil ⟨hu, by tb_rel⟩)))
      refine Ev.callG (envOk rfl) (k_stats hK) (keep36 hK) (ds := [.tuple [.int en.cc, .int en.nc, .int en.tt, .int en.ct, .dict en.tab], .tuple [.int 1, .int (x.fmod 1000), .int (x.fmod 1000 * x.fmod 1000), .int (-(x.fmod 1000)), .dict [(lname m, x.fmod 1000)]]]) (.cons (Ev.name (envOk rfl) (by tb_rel) (by decide +kernel)) (.cons (Ev.tuple (.cons (by tb_start) (.cons (by tb_start) (.cons (Ev.bin (d₁ := .int (x.fmod 1000)) (d₂ := .int (x.fmod 1000)) (by tb_start) (by tb_start) ?_) (.cons (by tb_start) (.cons ?_ .nil)))))) .nil (by intro _; rfl)) (by intro _; rfl)) (stats_fn hK _ _ _ _ _ _ _ _ _ _ (by simp; omega)) rfl (by decide +kernel)
      · exact op_mul (mulOk1000 x)
      · exact Ev.dict1 (envOk rfl) (by tb_rel) (by tb_rel) (by decide +kernel) (by decide +kernel)
  · obtain ⟨hu, he⟩ := hV
    rw [List.length_map, List.take_length] at he
    exact ExC.cons (Ex.toC (Ex.ret (Ev.name (envOk rfl) he (by decide +kernel)) rfl))
end
end Mine

namespace Mine
open PySem PySem.W PyProof.Rows PySem.Spec PySem.Calls PyProof.Rows.LCg

section
variable {W : Wd} (hK : W.K = MineTop.hd.heap_39 W.w.params) {lvl : Nat}
include hK
local macro_rules | `(tactic| tb_rel) => `(tactic| (first | exact rfl | ((try dsimp only); repeat (first | with_reducible exact lk0 | assumption | (with_reducible refine lk1 (by decide +kernel) ?_)))))
local macro_rules | `(tactic| tb_start) => `(tactic| repeat' (first
  | (with_reducible refine Ev.cInt) | (with_reducible refine Ev.cStr) | (with_reducible refine Ev.cNone) | (with_reducible refine Ev.cBool)
  | ((with_reducible apply Ev.name); (case he => first | exact envOk rfl | exact compEnv_ok (envOk rfl) rfl); (case hx => tb_rel); (case hd => decide +kernel))
  | (with_reducible apply Ev.bin)
  | (with_reducible apply Ev.unary)
  | ((with_reducible apply Ev.tuple); (case hsz => decide +kernel))
  | ((with_reducible apply Ev.list); (case hsz => decide +kernel))
  | (with_reducible refine Evs.nil)
  | ((with_reducible apply Evs.cons); (case hs => (intro _; rfl)))
  | (with_reducible refine op_add) | (with_reducible refine op_sub) | (with_reducible refine op_neg)
  | ((with_reducible refine op_mod ?a9); (case a9 => decide +kernel))
  | ((with_reducible refine op_div ?a9 ?b9); (case a9 => decide +kernel); (case b9 => decide +kernel))))
def lineD (p : PySem.Str × Int) : D := .tuple [.str p.1, .int p.2]
def placesOf (ls : List (PySem.Str × Int)) (n : PySem.Str) : List Nat := (List.range ls.length).filter fun k => (ls.getD k ("", 0)).1 == n
def lineStep (ls : List (PySem.Str × Int)) (n : PySem.Str) (c : Int) : List (PySem.Str × Int) := match placesOf ls n with
  | [] => ls ++ [(n, c)]
  | k :: _ => ls.set k (n, (ls.getD k ("", 0)).2 + c)
def linesAt (bs : List (Ms × Int)) : List (PySem.Str × Int) := bs.foldl (fun ls b => lineStep ls (lname b.1) (b.2.fmod 1000)) []
omit hK in
theorem ints_ok : ∀ (P : List Nat), (∀ d ∈ toDats (P.map fun (k : Nat) => D.int (k : Int)), kqdOk 8 d = true)
  | [], d, hd => by simp [toDats] at hd
  | p :: P, d, hd => by
    rw [List.map_cons, toDats] at hd
    rcases List.mem_cons.mp hd with rfl | hd
    · rw [toDat]; rfl
    · exact ints_ok P d hd
omit hK in
theorem places_ok (P : List Nat) : kqdOk 9 (toDat (.list (P.map fun (k : Nat) => D.int (k : Int)))) = true := by
  rw [toDat]
  have := ints_ok P
  simpa [kqdOk] using this
omit hK in
open Classical in
theorem places_eq (P : List Nat) : P.isEmpty = decide (toDat (.list (P.map fun (k : Nat) => D.int (k : Int))) = toDat (.list [])) := by
  cases P with
  | nil => rw [decide_eq_true (show toDat (.list (([] : List Nat).map fun (k : Nat) => D.int (k : Int))) = toDat (.list []) from rfl)]; rfl
  | cons p P =>
    rw [decide_eq_false (show ¬ toDat (.list ((p :: P).map fun (k : Nat) => D.int (k : Int))) = toDat (.list []) from fun h => by simp [toDat, toDats] at h)]
    rfl
omit hK in
theorem step_length (ls : List (PySem.Str × Int)) (n : PySem.Str) (c : Int) : (lineStep ls n c).length ≤ ls.length + 1 := by
  unfold lineStep
  split
  · simp
  · rw [List.length_set]; omega
omit hK in
theorem lines_length : ∀ (bs : List (Ms × Int)) (ls : List (PySem.Str × Int)), (bs.foldl (fun ls b => lineStep ls (lname b.1) (b.2.fmod 1000)) ls).length ≤ ls.length + bs.length
  | [], ls => by simp
  | b :: bs, ls => by
    have h := lines_length bs (lineStep ls (lname b.1) (b.2.fmod 1000))
    have h2 := step_length ls (lname b.1) (b.2.fmod 1000)
    rw [List.foldl_cons, List.length_cons]; omega
omit hK in
theorem Holds.withOwn {env : Env} {L : Addr} {m : PySem.Str → Option Value} {mu mu₁ im im₁ : Led} {x y : PySem.Str} {dx d : D} {v : Value} (H : Holds W.prog W.w env L m mu im { s := [(x, dx)] }) (hx : env.kindOf x = some .local) (hnm : ∀ o, (env.locals, o) ∉ mu) (hs : ∀ p ∈ im, p ∈ im₁) (hv : Var env L m mu₁ y v) (ho : Own W.prog W.w mu₁ im₁ v d) :
    Holds W.prog W.w env L m mu₁ im₁ { s := [(x, dx)], u := some (y, d) } := by
  refine ⟨fun z e he => ?_, fun z e he => ?_⟩
  · rw [List.lookup_cons] at he
    by_cases hz : z = x
    · subst hz
      simp at he
      subst he
      obtain ⟨u, hu, hd⟩ := H.s z dx lk0
      refine ⟨u, ?_, hd.mono hs⟩
      cases hu with
      | loc x1 x2 x3 => exact .loc x1 x2 x3
      | comp x1 x2 x3 x4 => exact absurd x1 (hnm _)
      | cell x1 x2 x3 x4 => rw [hx] at x1; cases x1
    · simp [show (z == x) = false from beq_eq_false_iff_ne.mpr hz] at he
  · cases he
    exact ⟨v, hv, ho⟩
omit hK in
theorem name_turn {env : Env} {V : Vs} {A : Around} {fe : Env} {h₀ : Heap} {m : PySem.Str → Option Value} {ext mu im : Led} {s : Shared} {R : Flow → Shared → Prop} {E : Value → Shared → Prop} {x : PySem.Str} {xp pos : Pos} {e : PySem.Expr} {rest : List Stmt} {d : D} {c : Addr} {o1 : Obj} {P : Vs → Prop} (he : EnvOk env) (hx : env.kindOf x = some .cell) (hc : env.cells.lookup x = some c) (hinj : ∀ y, env.kindOf y = some .cell → env.cells.lookup y = some c → y = x) (d1 : o1.data = .cell none)
    (h : Ev W true lvl env V e d) (hu : ∀ y e, V.u = some (y, e) → y ≠ x) (hset : (∃ d0, V.s.lookup x = some d0) ∨ (c, o1) ∈ mu) (hrest : Ex W lvl env { V with s := (x, d) :: V.s } (execs rest env) (nextIs P)) (M : Mach W A fe h₀ env.locals lvl) (l : Lay h₀ env.locals s.heap m ext mu im) (H : Holds W.prog W.w env env.locals m mu im V)
    (kk : ∀ h' tk' m' mu' im' V', Lay h₀ env.locals h' m' ext mu' im' → (∀ p ∈ im, p ∈ im') → Holds W.prog W.w env env.locals m' mu' im' V' → P V' → R .next { s with heap := h', toks := tk' })
    (hs : swapsWith e (some (.Name x xp)) pos.line env = pure false := by rfl) : wpAny (model W.prog W.w) A (execs (.Assign [.Name x xp] e pos :: rest) env) R E s := by
  have fin : ∀ {m' : PySem.Str → Option Value} {mu' im' : Led} {s' : Shared}, Lay h₀ env.locals s'.heap m' ext mu' im' → (∀ p ∈ im, p ∈ im') → Holds W.prog W.w env env.locals m' mu' im' { V with s := (x, d) :: V.s } → (∃ h' tk', s' = { s with heap := h', toks := tk' }) → wpAny (model W.prog W.w) A (execs rest env) R E s' := by
    intro m' mu' im' s' l' hs' H' hse
    obtain ⟨h₁, t₁, rfl⟩ := hse
    refine hrest A fe h₀ m' ext mu' im' _ R E M l' H' fun o f s₂ hq hen => ?_
    obtain ⟨h₂, t₂, m₂, mu₂, im₂, rfl, l₂, hs₂, r⟩ := hen
    cases o with
    | ret d => exact hq.elim
    | next V₂ =>
      cases f with
      | next => exact kk h₂ t₂ m₂ mu₂ im₂ V₂ l₂ (sub_trans hs' hs₂) r hq
      | _ => exact r.elim
  refine wpAny_execs_cons (wpAny_Assign_Name (h A fe h₀ _ m ext mu im s _ E M l H fun v h₁ t₁ im₁ l₁ s₁ hd => ?_) hs)
  rcases hset with ⟨d0, hd0⟩ | ho
  · obtain ⟨v₀, hv₀, _⟩ := H.s x d0 hd0
    cases hv₀ with
    | loc a b c => rw [hx] at b; cases b
    | comp a b c d => rw [hx] at c; cases c
    | cell a b c' d' =>
      rw [hc] at b
      cases b
      exact storeCell he l₁ (H.mono s₁) hx hc c' d' hinj hd hu fun h' o' ho' l' H' => fin l' s₁ H' ⟨_, _, rfl⟩
  · exact storeCell he l₁ (H.mono s₁) hx hc ho d1 hinj hd hu fun h' o' ho' l' H' => fin l' s₁ H' ⟨_, _, rfl⟩
theorem k_name : nsIn W.K mainGlobals "_law_name" = some (some (.ref 74)) := by rw [hK]; rfl
theorem keep74 : keepIn W.K (.ref 74) = true := by rw [hK]; rfl
theorem k_range : nsIn W.K mainGlobals "range" = some none := by rw [hK]; rfl
theorem k_len : nsIn W.K mainGlobals "len" = some none := by rw [hK]; rfl

theorem lines_fn (bs : List (Ms × Int)) (k : Nat) (hg : ∀ b ∈ bs, Good b.1 k) (hk : k ≤ 20) (hbl : bs.length ≤ 20) : Fn W (lvl + 4) 79 [.list (bs.map fun p => bkD p.1 p.2)] (.list ((linesAt bs).map lineD)) := by
  refine Fn.ofC (PySem.Str.ofString "bookings") (by rw [hK]; rfl) (by rw [hK]; rfl) (fun s v => BindsTo.of_eq rfl) rfl (by decide +kernel) (fun L' A h₀ m ext cells im s R E M l Y H k0 => ?_) rfl rfl rfl
  obtain ⟨o1, o2, hE, d1, d2⟩ := CellsAre.two Y
  subst hE
  refine wpAny_execs_cons (wpAny_Assign_Name (EvF.nilList A _ h₀ _ m ext _ im s _ E M l H fun a o h₁ t₁ im₁ l₁ s₁ ho => ?_) rfl)
  obtain ⟨a', vs', n', e1, hm, hd0⟩ := ho
  cases e1
  have hoe : o = lstObj vs' n' := by have := List.mem_singleton.mp hm; exact (congrArg Prod.snd this).symm
  subst hoe
  cases hd0
  refine wpAny_storeName_cell (c := L' + 1) (v₀ := none) rfl rfl rfl ⟨o2, (l₁.nMu _ (.tail _ (.tail _ (.head _)))).1, d2⟩ fun h₂ hc₂ hs₂ => ?_
  obtain ⟨o2', ho2', hd2'⟩ := hc₂
  have hmem : (L' + 1, o2) ∈ (a, lstObj [] n') :: [((L' + 1 + 1 : Addr), o1), ((L' + 1 : Addr), o2)] := .tail _ (.tail _ (.head _))
  have l₂ := l₁.upd hmem hs₂ ho2'
  have hane : a ≠ L' + 1 := fun e => by
    have q1 := (l₁.nMu (a, lstObj [] n') (.head _)).1
    have q2 := (l₁.nMu _ hmem).1
    have e' : (a, lstObj [] n').1 = (L' + 1, o2).1 := e
    rw [e', q2] at q1
    cases q1
    cases d2
  have hA : (a, lstObj [] n') ∈ upd (L' + 1) o2' ((a, lstObj [] n') :: [((L' + 1 + 1 : Addr), o1), ((L' + 1 : Addr), o2)]) := mem_upd_ne (.head _) hane
  have hC : (L' + 1, o2') ∈ upd (L' + 1) o2' ((a, lstObj [] n') :: [((L' + 1 + 1 : Addr), o1), ((L' + 1 : Addr), o2)]) := mem_upd hmem
  have hN : (L' + 1 + 1, o1) ∈ upd (L' + 1) o2' ((a, lstObj [] n') :: [((L' + 1 + 1 : Addr), o1), ((L' + 1 : Addr), o2)]) := mem_upd_ne (.tail _ (.head _)) (Nat.ne_of_gt (Nat.lt_succ_self _))
  generalize upd (L' + 1) o2' ((a, lstObj [] n') :: [((L' + 1 + 1 : Addr), o1), ((L' + 1 : Addr), o2)]) = mu₁ at *
  have H₁ := Holds.withOwn (mu₁ := mu₁) (y := PySem.Str.ofString "lines") (v := .ref a) (d := .list []) H rfl (fun o h => (l.nMu _ h).2.1 rfl) s₁ (.cell rfl rfl hC hd2') ⟨a, [], n', rfl, hA, .nil⟩
  refine wpAny_execs_cons (for_cells (xs := [(PySem.Str.ofString "system", _), (PySem.Str.ofString "release", _), (PySem.Str.ofString "version", _), (PySem.Str.ofString "build", _), (PySem.Str.ofString "count", _)]) (ds := bs.map fun p => bkD p.1 p.2) ⟨rfl, rfl, rfl⟩ ?_ (Ev.name ⟨rfl, rfl, rfl⟩ lk0 (by decide +kernel)) (fun d hd => ?_) M l₂ H₁
    (fun i V mu => V.u = some (PySem.Str.ofString "lines", D.list ((linesAt (bs.take i)).map lineD)) ∧ ((∃ d0, V.s.lookup (PySem.Str.ofString "name") = some d0) ∨ (L' + 1 + 1, o1) ∈ mu)) ⟨rfl, .inr hN⟩ (fun i V₁ mu₁ y e hJ h p hp => ?_) (fun i es V₁ m₁ ext₁ mu₁ im₁ s₁ R₁ E₁ hi hJ l₁ H₁ kk => ?_) fun h' tk' m' mu' im' V' l' hs' H' hJ => ?_)
  · repeat' (first | exact List.forall_mem_nil _ | refine List.forall_mem_cons.mpr ⟨rfl, ?_⟩)
  · obtain ⟨p, _, rfl⟩ := List.mem_map.mp hd
    exact ⟨_, rfl, rfl⟩
  · rw [hJ.1] at h
    cases h
    revert p
    repeat' (first | exact List.forall_mem_nil _ | refine List.forall_mem_cons.mpr ⟨by decide +kernel, ?_⟩)
  · rw [List.getElem?_map] at hi
    cases hb : bs[i]? with
    | none => rw [hb] at hi; cases hi
    | some bb =>
    rw [hb] at hi
    obtain ⟨mm, x⟩ := bb
    simp only [Option.map_some, Option.some.injEq] at hi
    unfold bkD at hi
    injection hi with hi
    subst hi
    have g : Good mm k := hg _ (List.mem_of_getElem? hb)
    have hil : i < bs.length := by
      rcases Nat.lt_or_ge i bs.length with h | h
      · exact h
      · rw [List.getElem?_eq_none h] at hb; cases hb
    have hst : linesAt (bs.take (i + 1)) = lineStep (linesAt (bs.take i)) (lname mm) (x.fmod 1000) := by
      unfold linesAt
      rw [List.take_add_one, hb, List.foldl_append]; rfl
    have hll : (linesAt (bs.take i)).length ≤ 20 := by
      have := lines_length (bs.take i) []
      rw [List.length_take] at this
      show ((bs.take i).foldl _ []).length ≤ 20
      simp only [List.length_nil] at this
      omega
    rw [hst] at kk
    generalize linesAt (bs.take i) = ls at hJ hll kk
    obtain ⟨hu1, hset⟩ := hJ
    have hrl := g.rl
    refine name_turn (c := L' + 1 + 1) (o1 := o1) (d := .str (lname mm)) (P := fun V' => V'.u = some (PySem.Str.ofString "lines", D.list ((lineStep ls (lname mm) (x.fmod 1000)).map lineD)) ∧ ∃ d0, V'.s.lookup (PySem.Str.ofString "name") = some d0) ⟨rfl, rfl, rfl⟩ rfl rfl ?_ d1 ?_ ?_ ?_ ?_ M l₁ H₁ (fun h' tk' m' mu' im' V' l' hs' H' hP => kk h' tk' m' mu' im' V' l' hs' H' ⟨hP.1, .inl hP.2⟩)
    · intro y hy hc
      have hc' : List.lookup y [(PySem.Str.ofString "name", (L' + 1 + 1 : Addr)), (PySem.Str.ofString "lines", (L' + 1 : Addr))] = some (L' + 1 + 1) := hc
      rw [List.lookup_cons] at hc'
      by_cases hyn : y = PySem.Str.ofString "name"
      · exact hyn
      · simp only [show (y == PySem.Str.ofString "name") = false from beq_eq_false_iff_ne.mpr hyn] at hc'
        rw [List.lookup_cons] at hc'
        cases hyl : y == PySem.Str.ofString "lines" with
        | false => simp only [hyl] at hc'; cases hc'
        | true =>
          simp only [hyl] at hc'
          exact absurd (Option.some.inj hc') (Nat.ne_of_lt (Nat.lt_succ_self _))
    · exact Ev.callG ⟨rfl, rfl, rfl⟩ (k_name hK) (keep74 hK) (ds := [.str mm.sys, .list (mm.rel.map prt), .list (mm.ver.map prt), prt mm.bld]) (.cons (Ev.name ⟨rfl, rfl, rfl⟩ (by tb_rel) (by decide +kernel)) (.cons (Ev.name ⟨rfl, rfl, rfl⟩ (by tb_rel) (by decide +kernel)) (.cons (Ev.name ⟨rfl, rfl, rfl⟩ (by tb_rel) (by decide +kernel)) (.cons (Ev.name ⟨rfl, rfl, rfl⟩ (by tb_rel) (by decide +kernel)) .nil (by intro _; rfl)) (by intro _; rfl)) (by intro _; rfl)) (by intro _; rfl)) (name_fn hK mm k g hk) rfl (by decide +kernel)
    · intro y e h
      have h' : V₁.u = some (y, e) := h
      rw [hu1] at h'; cases h'; decide +kernel
    · rcases hset with ⟨d0, h⟩ | h
      · exact .inl ⟨d0, lk1 (by decide +kernel) (lk1 (by decide +kernel) (lk1 (by decide +kernel) (lk1 (by decide +kernel) (lk1 (by decide +kernel) h))))⟩
      · exact .inr h
    · have hu2 : ({ V₁ with s := (PySem.Str.ofString "name", D.str (lname mm)) :: V₁.s } : Vs).u = some (PySem.Str.ofString "lines", D.list (ls.map lineD)) := hu1
      have hkeep : (((List.range ls.length).map fun (k : Nat) => D.int (k : Int)).filter fun d => match d with | .int k => (ls.getD k.toNat ("", 0)).1 == lname mm | _ => false).map (fun d => d) = (placesOf ls (lname mm)).map fun (k : Nat) => D.int (k : Int) := by
        rw [List.map_id', List.filter_map]
        rfl
      refine Ex.cons (Ex.asgComp (ds := (List.range ls.length).map fun (k : Nat) => D.int (k : Int)) (cl := [(PySem.Str.ofString "name", L' + 1 + 1), (PySem.Str.ofString "lines", L' + 1)]) (Vo := { s := [(PySem.Str.ofString "name", .str (lname mm))], u := some (PySem.Str.ofString "lines", .list (ls.map lineD)) }) ⟨rfl, rfl, rfl⟩ rfl (Src.range (b := false) ⟨rfl, rfl, rfl⟩ (k_range hK) boot_range ?_ (by omega) rfl) ⟨rfl, by decide +kernel, rfl, by decide +kernel⟩ ?_ (fun d => match d with | .int k => (ls.getD k.toNat ("", 0)).1 == lname mm | _ => false) (fun d => d) (fun d => { s := [(PySem.Str.ofString "k", d), (PySem.Str.ofString "name", .str (lname mm))], u := some (PySem.Str.ofString "lines", .list (ls.map lineD)) }) (by rw [List.length_map, List.length_range]; exact fits1000 (by omega)) (fun d hd => Bnd.name rfl rfl) (fun C d hd => ?_) (fun C d hd _ => ?_) ?_ ?_ rfl)
      · have e : ((ls.map lineD).length : Int) = (ls.length : Int) := by rw [List.length_map]
        rw [← e]
        exact Ev.callB1 (d₁ := .list (ls.map lineD)) ⟨rfl, rfl, rfl⟩ (k_len hK) boot_len (Ev.nameU ⟨rfl, rfl, rfl⟩ hu1 (by decide +kernel)) (op_lenList (by rw [List.length_map]; omega)) rfl
      · intro C L m mu im H
        refine ⟨fun z e he => ?_, fun z e he => ?_⟩
        · rw [List.lookup_cons] at he
          by_cases hz : z = PySem.Str.ofString "name"
          · subst hz
            simp at he
            subst he
            obtain ⟨v, hv, hd⟩ := H.s (PySem.Str.ofString "name") (.str (lname mm)) lk0
            refine ⟨v, ?_, hd⟩
            cases hv with
            | loc a b c => cases b
            | comp a b c d => cases c
            | cell a b c d => exact .cell rfl b c d
          · simp [show (z == PySem.Str.ofString "name") = false from beq_eq_false_iff_ne.mpr hz] at he
        · cases he
          obtain ⟨v, hv, hO⟩ := H.u _ _ hu1
          refine ⟨v, ?_, hO⟩
          cases hv with
          | loc a b c => cases b
          | comp a b c d => cases c
          | cell a b c d => exact .cell rfl b c d
      · obtain ⟨kq, hkq, rfl⟩ := List.mem_map.mp hd
        have hlt : kq < ls.length := List.mem_range.mp hkq
        have hitem : (ls.map lineD)[((kq : Nat) : Int).toNat]? = some (lineD (ls.getD kq ("", 0))) := by
          rw [Int.toNat_natCast, List.getElem?_map, List.getElem?_eq_getElem hlt, List.getD_eq_getElem?_getD, List.getElem?_eq_getElem hlt]; rfl
        refine tests_one (Tr.cmp false (d₁ := .str (ls.getD kq ("", 0)).1) (d₂ := .str (lname mm)) (Ev.sub (d₁ := lineD (ls.getD kq ("", 0))) (d₂ := .int 0) (Ev.sub (d₁ := .list (ls.map lineD)) (d₂ := .int (kq : Int)) (Ev.nameU (compEnv_ok ⟨rfl, rfl, rfl⟩ rfl) rfl (by decide +kernel)) (Ev.name (compEnv_ok ⟨rfl, rfl, rfl⟩ rfl) lk0 (by decide +kernel)) (op_itemList (by omega) hitem (by omega))) (by tb_start) (op_itemTup (by decide) rfl (by decide))) (Ev.name (compEnv_ok ⟨rfl, rfl, rfl⟩ rfl) (lk1 (by decide +kernel) lk0) (by decide +kernel)) op_eqStr)
      · exact Ev.name (compEnv_ok ⟨rfl, rfl, rfl⟩ rfl) lk0 (by decide +kernel)
      · intro y e h
        have h' : V₁.u = some (y, e) := h
        rw [hu1] at h'; cases h'; decide +kernel
      rw [hkeep]
      have hP : ∀ q ∈ placesOf ls (lname mm), q < ls.length := fun q hq => List.mem_range.mp (List.mem_filter.mp hq).1
      have hstep : ∀ q r, placesOf ls (lname mm) = q :: r → lineStep ls (lname mm) (x.fmod 1000) = ls.set q (lname mm, (ls.getD q ("", 0)).2 + x.fmod 1000) := fun q r h => by unfold lineStep; rw [h]
      have hstep0 : placesOf ls (lname mm) = [] → lineStep ls (lname mm) (x.fmod 1000) = ls ++ [(lname mm, x.fmod 1000)] := fun h => by unfold lineStep; rw [h]
      generalize placesOf ls (lname mm) = P at hP hstep hstep0 ⊢
      refine Ex.cons (Ex.ifs (c := P.isEmpty) (Tr.cmp true (d₁ := .list (P.map fun (k : Nat) => D.int (k : Int))) (d₂ := .list []) (Ev.name ⟨rfl, rfl, rfl⟩ lk0 (by decide +kernel)) (by tb_start) (op_eqD (by omega) (places_ok _) (by decide +kernel) (places_eq _))) (fun hc => ?_) fun hc => ?_)
      · have hP0 : P = [] := List.isEmpty_iff.mp hc
        rw [hstep0 hP0, List.map_append]
        exact Ex.cons (Ex.append (ds := ls.map lineD) (d := lineD (lname mm, x.fmod 1000)) ⟨rfl, rfl, rfl⟩ hu1 (Ev.tuple (.cons (Ev.name ⟨rfl, rfl, rfl⟩ (by tb_rel) (by decide +kernel)) (.cons (Ev.name ⟨rfl, rfl, rfl⟩ (by tb_rel) (by decide +kernel)) .nil (by intro _; rfl)) (by intro _; rfl)) (by decide)) (fits1000 (by rw [List.length_map]; omega)) (Ex.nil (Ex.nil ⟨rfl, _, lk1 (by decide +kernel) lk0⟩)) rfl rfl (by decide +kernel))
      · cases P with
        | nil => cases hc
        | cons q r =>
          have hq := hP q (.head _)
          have hitem : (ls.map lineD)[((q : Nat) : Int).toNat]? = some (lineD (ls.getD q ("", 0))) := by
            rw [Int.toNat_natCast, List.getElem?_map, List.getElem?_eq_getElem hq, List.getD_eq_getElem?_getD, List.getElem?_eq_getElem hq]; rfl
          rw [hstep q r rfl, List.map_set]
          refine Ex.cons (Ex.setItem (ds := ls.map lineD) (k := (q : Int)) (d := lineD (lname mm, (ls.getD q ("", 0)).2 + x.fmod 1000)) ⟨rfl, rfl, rfl⟩ hu1 (Ev.tuple (.cons (Ev.name ⟨rfl, rfl, rfl⟩ (by tb_rel) (by decide +kernel)) (.cons (Gv.ofAtom (b := true) ?_) .nil (by intro _; rfl)) (by intro _; rfl)) (by decide)) ?_ (by omega) (by rw [List.length_map]; omega) (by omega) (Ex.nil (Ex.nil ⟨?_, _, lk1 (by decide +kernel) lk0⟩)) (by decide +kernel) rfl)
          · exact Ev.bin (b := false) (d₁ := .int (ls.getD q ("", 0)).2) (d₂ := .int (x.fmod 1000)) (Ev.sub (d₁ := lineD (ls.getD q ("", 0))) (d₂ := .int 1) (Ev.sub (d₁ := .list (ls.map lineD)) (d₂ := .int (q : Int)) (Ev.nameU ⟨rfl, rfl, rfl⟩ hu1 (by decide +kernel)) (Ev.sub (d₁ := .list ((q :: r).map fun (k : Nat) => D.int (k : Int))) (d₂ := .int 0) (Ev.name ⟨rfl, rfl, rfl⟩ lk0 (by decide +kernel)) (by tb_start) (op_itemList (by decide) rfl (by decide))) (op_itemList (by omega) hitem (by omega))) (by tb_start) (op_itemTup (by decide) rfl (by decide))) (Ev.name ⟨rfl, rfl, rfl⟩ (by tb_rel) (by decide +kernel)) op_add
          · exact Ev.sub (d₁ := .list ((q :: r).map fun (k : Nat) => D.int (k : Int))) (d₂ := .int 0) (Ev.name ⟨rfl, rfl, rfl⟩ lk0 (by decide +kernel)) (by tb_start) (op_itemList (by decide) rfl (by decide))
          · rfl
  · have hu := hJ.1
    rw [List.length_map, List.take_length] at hu
    refine (Ex.cons (Ex.ret (d := .list ((linesAt bs).map lineD)) (Ev.nameU ⟨rfl, rfl, rfl⟩ hu (by decide +kernel)) (show retIs (.list ((linesAt bs).map lineD)) _ from rfl))) A _ h₀ m' ext mu' im' _ R E M l' H' fun o f s' hq he => ?_
    obtain ⟨h₃, t₃, m₃, mu₃, im₃, rfl, l₃, hs₃, r⟩ := he
    cases o with
    | next V' => exact hq.elim
    | ret d' =>
      obtain rfl : d' = _ := hq
      cases f with
      | ret v => exact k0 v h₃ t₃ m₃ mu₃ im₃ l₃ (sub_trans s₁ (sub_trans hs' hs₃)) r
      | _ => exact r.elim
end
end Mine

namespace Mine
open PySem PySem.W PyProof.Rows PySem.Spec PySem.Calls PyProof.Rows.LCg

def cnts (bs : List (Ms × Int)) : List Int := bs.map fun b => b.2.fmod 1000
theorem ent_sums : ∀ (bs : List (Ms × Int)) (e : Ent), (bs.foldl entStep e).cc = e.cc + bs.length ∧ (bs.foldl entStep e).nc = e.nc + (cnts bs).sum ∧ (bs.foldl entStep e).tt = e.tt + ((cnts bs).map fun c => c * c).sum ∧ (bs.foldl entStep e).ct = e.ct - (cnts bs).sum
  | [], e => by simp [cnts]
  | b :: bs, e => by
    obtain ⟨h1, h2, h3, h4⟩ := ent_sums bs (entStep e b)
    rw [List.foldl_cons]
    simp only [cnts, List.map_cons, List.sum_cons, List.length_cons] at h1 h2 h3 h4 ⊢
    rw [h1, h2, h3, h4]
    simp only [entStep]
    refine ⟨by push_cast; omega, by omega, by omega, by omega⟩

def stepR : List (PySem.Str × Int) → PySem.Str → Int → List (PySem.Str × Int)
  | [], n, c => [(n, c)]
  | kv :: r, n, c => if kv.1 = n then (kv.1, kv.2 + c) :: r else kv :: stepR r n c
theorem places_cons (kv : PySem.Str × Int) (r : List (PySem.Str × Int)) (n : PySem.Str) : placesOf (kv :: r) n = (if (kv.1 == n) = true then [0] else []) ++ (placesOf r n).map (· + 1) := by
  unfold placesOf
  rw [List.length_cons, List.range_succ_eq_map, List.filter_cons]
  have e : ((List.range r.length).map Nat.succ).filter (fun k => ((kv :: r).getD k ("", 0)).1 == n) = ((List.range r.length).filter fun k => (r.getD k ("", 0)).1 == n).map (· + 1) := by
    rw [List.filter_map]; rfl
  rw [e]
  show (if (kv.1 == n) = true then 0 :: _ else _) = _
  cases kv.1 == n <;> rfl
theorem step_R : ∀ (ls : List (PySem.Str × Int)) (n : PySem.Str) (c : Int), lineStep ls n c = stepR ls n c
  | [], n, c => rfl
  | kv :: r, n, c => by
    have ih := step_R r n c
    unfold stepR
    by_cases h : kv.1 = n
    · rw [if_pos h]
      unfold lineStep
      rw [places_cons, if_pos (beq_iff_eq.mpr h)]
      show (kv :: r).set 0 (n, kv.2 + c) = _
      rw [List.set_cons_zero, h]
    · rw [if_neg h, ← ih]
      unfold lineStep
      rw [places_cons, if_neg (by rw [beq_iff_eq]; exact h)]
      cases placesOf r n with
      | nil => rfl
      | cons q qs => rfl
theorem sum_R : ∀ (ls : List (PySem.Str × Int)) (n : PySem.Str) (c : Int), ((stepR ls n c).map (·.2)).sum = (ls.map (·.2)).sum + c
  | [], n, c => by simp [stepR]
  | kv :: r, n, c => by
    unfold stepR
    have ih := sum_R r n c
    split
    · simp only [List.map_cons, List.sum_cons]; omega
    · simp only [List.map_cons, List.sum_cons, ih]; omega
theorem keys_R : ∀ (ls : List (PySem.Str × Int)) (n : PySem.Str) (c : Int), ∀ k ∈ (stepR ls n c).map (·.1), k ∈ ls.map (·.1) ∨ k = n
  | [], n, c, k, h => by simp [stepR] at h; exact .inr h
  | kv :: r, n, c, k, h => by
    unfold stepR at h
    split at h
    · exact .inl h
    · rcases List.mem_cons.mp h with e | h
      · exact .inl (by rw [e]; exact .head _)
      · rcases keys_R r n c k h with h | h
        · exact .inl (.tail _ h)
        · exact .inr h
theorem nodup_R : ∀ (ls : List (PySem.Str × Int)) (n : PySem.Str) (c : Int), (ls.map (·.1)).Nodup → ((stepR ls n c).map (·.1)).Nodup
  | [], n, c, _ => by simp [stepR]
  | kv :: r, n, c, h => by
    rw [List.map_cons, List.nodup_cons] at h
    unfold stepR
    split
    · rw [List.map_cons, List.nodup_cons]; exact h
    · rename_i hne
      rw [List.map_cons, List.nodup_cons]
      refine ⟨fun hm => ?_, nodup_R r n c h.2⟩
      rcases keys_R r n c _ hm with h' | h'
      · exact h.1 h'
      · exact hne h'
theorem map_same {n : PySem.Str} {i : Int} : ∀ {r : List (PySem.Str × Int)}, n ∉ r.map (·.1) → r.map (fun kv => if kv.1 = n then (kv.1, i) else kv) = r
  | [], _ => rfl
  | kv :: r, h => by
    rw [List.map_cons, List.mem_cons, not_or] at h
    rw [List.map_cons, if_neg (fun e => h.1 e.symm), map_same h.2]
theorem addOne_R : ∀ (ls : List (PySem.Str × Int)) (n : PySem.Str) (c : Int), (ls.map (·.1)).Nodup → addOne ls n c = stepR ls n c
  | [], n, c, _ => rfl
  | kv :: r, n, c, h => by
    rw [List.map_cons, List.nodup_cons] at h
    have ih := addOne_R r n c h.2
    by_cases hk : kv.1 = n
    · have ha : at? (kv :: r) n = some kv.2 := by unfold at?; rw [List.find?_cons_of_pos (by simpa using hk)]; rfl
      rw [addOne_some ha]
      unfold put stepR
      rw [if_pos (by rw [List.any_cons]; simp [hk]), if_pos hk, List.map_cons, if_pos hk, map_same (by rw [← hk]; exact h.1)]
    · have ha : at? (kv :: r) n = at? r n := by unfold at?; rw [List.find?_cons_of_neg (by simpa using hk)]
      unfold stepR
      rw [if_neg hk, ← ih]
      have hany : (kv :: r).any (fun kv => decide (kv.1 = n)) = r.any (fun kv => decide (kv.1 = n)) := by rw [List.any_cons]; simp [hk]
      have hput : ∀ v, put (kv :: r) n v = kv :: put r n v := by
        intro v
        unfold put
        rw [hany]
        split
        · rw [List.map_cons, if_neg hk]
        · rfl
      unfold addOne
      rw [ha]
      cases at? r n with
      | none => exact hput _
      | some i => exact hput _
theorem merge_same : ∀ (ts a : List (PySem.Str × Int)), ((a ++ ts).map (·.1)).Nodup → ts.foldl (fun a kv => put a kv.1 kv.2) a = a ++ ts
  | [], a, _ => by simp
  | t :: ts, a, h => by
    have hn : ¬ (a.any (fun kv => decide (kv.1 = t.1)) = true) := by
      intro he
      obtain ⟨kv, hkv, e⟩ := List.any_eq_true.mp he
      have e' : kv.1 = t.1 := by simpa using e
      rw [List.map_append, List.nodup_append] at h
      exact h.2.2 kv.1 (List.mem_map.mpr ⟨kv, hkv, rfl⟩) t.1 (by simp) e'
    have hp : put a t.1 t.2 = a ++ [t] := by unfold put; rw [if_neg hn]
    rw [List.foldl_cons, hp, merge_same ts (a ++ [t]) (by rw [List.append_assoc]; exact h), List.append_assoc]; rfl
theorem tab_eq : ∀ (bs : List (Ms × Int)) (e : Ent), (e.tab.map (·.1)).Nodup → (bs.foldl entStep e).tab = bs.foldl (fun ls b => lineStep ls (lname b.1) (b.2.fmod 1000)) e.tab ∧ (((bs.foldl entStep e).tab).map (·.2)).sum = (e.tab.map (·.2)).sum + (cnts bs).sum
  | [], e, _ => by simp [cnts]
  | b :: bs, e, h => by
    have e1 : (entStep e b).tab = lineStep e.tab (lname b.1) (b.2.fmod 1000) := by
      show addCallers e.tab [(lname b.1, b.2.fmod 1000)] = _
      unfold addCallers merge1
      rw [merge_same e.tab [] (by simpa using h), List.nil_append]
      show addOne e.tab (lname b.1) (b.2.fmod 1000) = _
      rw [addOne_R _ _ _ h, step_R]
    have h' : ((entStep e b).tab.map (·.1)).Nodup := by rw [e1, step_R]; exact nodup_R _ _ _ h
    obtain ⟨q1, q2⟩ := tab_eq bs (entStep e b) h'
    rw [List.foldl_cons, List.foldl_cons]
    refine ⟨by rw [q1, e1], ?_⟩
    rw [q2, e1, step_R, sum_R]
    simp only [cnts, List.map_cons, List.sum_cons]
    omega
theorem entAt_eq (bs : List (Ms × Int)) : entAt bs = ⟨bs.length, (cnts bs).sum, ((cnts bs).map fun c => c * c).sum, -(cnts bs).sum, linesAt bs⟩ ∧ ((linesAt bs).map (·.2)).sum = (cnts bs).sum := by
  obtain ⟨h1, h2, h3, h4⟩ := ent_sums bs ⟨0, 0, 0, 0, []⟩
  obtain ⟨h5, h6⟩ := tab_eq bs ⟨0, 0, 0, 0, []⟩ (by simp)
  have h7 : (entAt bs).tab = linesAt bs := h5
  refine ⟨?_, ?_⟩
  · have : entAt bs = ⟨(entAt bs).cc, (entAt bs).nc, (entAt bs).tt, (entAt bs).ct, (entAt bs).tab⟩ := rfl
    rw [this, h7]
    congr 1
    · exact h1.trans (by simp)
    · exact h2.trans (by simp)
    · exact h3.trans (by simp)
    · exact h4.trans (by simp)
  · rw [← h7]
    exact h6.trans (by simp)
end Mine

namespace Mine
open PySem PySem.W PyProof.Rows PySem.Spec PySem.Calls PyProof.Rows.LCg PySem.NumText

theorem strOk_iff (x : PySem.Str) : PyData.strOk x = true ↔ ∀ c ∈ x.cps.toList, c < 0x110000 := by
  show x.cps.all (· < 0x110000) = true ↔ _
  rw [← Array.all_toList, List.all_eq_true]
  simp
theorem strOk_of (s : String) : PyData.strOk (PySem.Str.ofString s) = true := by
  rw [strOk_iff]
  intro c hc
  rw [signs_ofString] at hc
  obtain ⟨ch, _, rfl⟩ := List.mem_map.mp hc
  have := ch.valid
  simp only [UInt32.isValidChar, Nat.isValidChar] at this
  show ch.val.toNat < _
  omega
theorem strOk_app {a b : PySem.Str} (ha : PyData.strOk a = true) (hb : PyData.strOk b = true) : PyData.strOk (a ++ b) = true := by
  rw [strOk_iff] at *
  intro c hc
  have hc' : c ∈ (a.cps ++ b.cps).toList := hc
  rw [Array.toList_append] at hc'
  exact (List.mem_append.mp hc').elim (ha c) (hb c)
theorem strOk_dot {xs : List PySem.Str} (h : ∀ x ∈ xs, PyData.strOk x = true) : PyData.strOk (dot xs) = true := by
  have h2 : dot xs = PySem.Str.join "." xs := StrLaws.glued_eq_join _ _
  rw [h2]
  clear h2
  induction xs with
  | nil => decide +kernel
  | cons x r ih =>
    cases r with
    | nil => exact h x (.head _)
    | cons y r => exact strOk_app (strOk_app (h x (.head _)) (strOk_of ".")) (ih fun z hz => h z (.tail _ hz))
theorem strOk_lname {m : Ms} {k : Nat} (g : Good m k) : PyData.strOk (lname m) = true := by
  have hs : PyData.strOk m.sys = true := by
    have : ∀ x ∈ six, PyData.strOk x = true := by decide +kernel
    exact this _ g.s
  have ht : PyData.strOk (toldOf m) = true := strOk_dot fun x hx => by obtain ⟨p, hp, rfl⟩ := List.mem_map.mp hx; exact (partB_txt (g.r p hp)).2
  have hn : PyData.strOk (normOf m) = true := by
    unfold normOf
    split
    · exact strOk_dot fun x hx => by obtain ⟨p, hp, rfl⟩ := List.mem_map.mp hx; exact strOk_of _
    · exact strOk_dot fun x hx => by obtain ⟨p, hp, rfl⟩ := List.mem_map.mp hx; exact (partB_txt ((parts_good g).1 p (List.mem_of_mem_take hp))).2
  have h2 : PyData.strOk (told2 m) = true := by
    unfold told2
    split
    · rename_i p r hr
      split
      · exact ht
      · refine strOk_dot fun x hx => ?_
        rcases List.mem_cons.mp hx with rfl | hx
        · exact strOk_of _
        · obtain ⟨q, hq, rfl⟩ := List.mem_map.mp hx
          exact (partB_txt (g.r q (by rw [hr]; exact .tail _ hq))).2
    · exact ht
  unfold lname
  split
  · exact strOk_app (strOk_app (strOk_app (strOk_of _) ht) (strOk_of _)) hn
  · split
    · exact strOk_app (strOk_app (strOk_app (strOk_app hs (strOk_of _)) ht) (strOk_of _)) hn
    · exact strOk_app (strOk_app (strOk_app (strOk_of _) h2) (strOk_of _)) hn
theorem lines_keys : ∀ (bs : List (Ms × Int)) (ls : List (PySem.Str × Int)) (k : Nat), (∀ b ∈ bs, Good b.1 k) → (∀ p ∈ ls, PyData.strOk p.1 = true) → ∀ p ∈ bs.foldl (fun ls b => lineStep ls (lname b.1) (b.2.fmod 1000)) ls, PyData.strOk p.1 = true
  | [], ls, k, _, h => h
  | b :: bs, ls, k, hg, h => by
    rw [List.foldl_cons]
    refine lines_keys bs _ k (fun c hc => hg c (.tail _ hc)) fun p hp => ?_
    rw [step_R] at hp
    rcases keys_R ls _ _ p.1 (List.mem_map.mpr ⟨p, hp, rfl⟩) with hm | hm
    · obtain ⟨q, hq, e⟩ := List.mem_map.mp hm
      rw [← e]; exact h q hq
    · rw [hm]; exact strOk_lname (hg b (.head _))
theorem linesD_ok : ∀ {ls : List (PySem.Str × Int)}, (∀ p ∈ ls, PyData.strOk p.1 = true) → ∀ d ∈ toDats (ls.map lineD), kqdOk 8 d = true
  | [], _, d, hd => by simp [toDats] at hd
  | p :: ls, h, d, hd => by
    rw [List.map_cons, toDats] at hd
    rcases List.mem_cons.mp hd with rfl | hd
    · unfold lineD
      rw [toDat, toDats, toDats, toDats, toDat, toDat]
      simp [kqdOk, h p (.head _)]
    · exact linesD_ok (fun q hq => h q (.tail _ hq)) d hd
theorem lines_ok {ls : List (PySem.Str × Int)} (h : ∀ p ∈ ls, PyData.strOk p.1 = true) : kqdOk 9 (toDat (.list (ls.map lineD))) = true := by
  rw [toDat]
  have := linesD_ok h
  simpa [kqdOk] using this
theorem four_ok (a b c d : Int) : kqdOk 9 (toDat (.tuple [.int a, .int b, .int c, .int d])) = true := by
  simp [toDat, toDats, kqdOk]
end Mine

namespace Mine
open PySem PySem.W PyProof.Rows PySem.Spec PySem.Calls PyProof.Rows.LCg

section
variable {W : Wd} (hK : W.K = MineTop.hd.heap_39 W.w.params) {lvl : Nat}
include hK
local macro_rules | `(tactic| tb_rel) => `(tactic| (first | exact rfl | ((try dsimp only); repeat (first | with_reducible exact lk0 | assumption | (with_reducible refine lk1 (by decide +kernel) ?_)))))
local macro_rules | `(tactic| tb_start) => `(tactic| repeat' (first
  | (with_reducible refine Ev.cInt) | (with_reducible refine Ev.cStr) | (with_reducible refine Ev.cNone) | (with_reducible refine Ev.cBool)
  | ((with_reducible apply Ev.name); (case he => first | exact envOk rfl | exact compEnv_ok (envOk rfl) rfl); (case hx => tb_rel); (case hd => decide +kernel))
  | (with_reducible apply Ev.bin)
  | (with_reducible apply Ev.unary)
  | ((with_reducible apply Ev.tuple); (case hsz => decide +kernel))
  | ((with_reducible apply Ev.list); (case hsz => decide +kernel))
  | (with_reducible refine Evs.nil)
  | ((with_reducible apply Evs.cons); (case hs => (intro _; rfl)))
  | (with_reducible refine op_add) | (with_reducible refine op_sub) | (with_reducible refine op_neg)
  | ((with_reducible refine op_mod ?a9); (case a9 => decide +kernel))
  | ((with_reducible refine op_div ?a9 ?b9); (case a9 => decide +kernel); (case b9 => decide +kernel))))
omit hK in
theorem top_of {f : Addr} {name qual : PySem.Str} {params : Arguments} {body : List Stmt} {scope : Scope} {dV kV doc pm cdv ct oc : Value} {an od : Option Addr} {osl : Array (Option Value)} (x : PySem.Str)
    (ho : W.K.lookup f = some ⟨oc, od, .func (fnOf name qual params body scope dV kV doc pm an cdv ct), osl⟩) (hcd : codeIn W.K cdv qual = true)
    (hbind : ∀ s v, BindsTo s (fnOf name qual params body scope dV kV doc pm an cdv ct) ⟨[v], []⟩ [(x, v)])
    (hloc : scope.names.lookup x = some .local)
    (h : ∀ L', ExC W lvl (envOf qual scope L' f cdv) { s := [(x, .addr W.scA)] } (execs body (envOf qual scope L' f cdv)) (retIs (.bool true)))
    (hco : scope.isCoroutine = false) (hgen : scope.isGenerator = false) (hk : scope.kind = .function) (hcell : ∀ x ∈ scope.names, x.2 ≠ .cell)
    {A₀ : Around} {s : Shared} {Q : Value → Shared → Prop} {E : Value → Shared → Prop} (X : W.K.In s.heap) (T : Top W.p W.loose W.mean W.mg W.mb s.heap) (hsc : ∃ vs, s.heap.IsList W.scA vs.toArray ∧ IntsAre vs W.scN) (hsm : ∃ o, s.heap.get? sysModules = some o)
    (hh : A₀.handled = none) (hf : A₀.frames = some []) (hroom : A₀.depth + 1 + lvl < recursionLimit) (hun : A₀.units + 3 + 100 * lvl < cLine) (hq : ∀ h' tk', (∀ b o, s.heap.get? b = some o → h'.get? b = some o) → Q (.bool true) { s with heap := h', toks := tk' }) :
    codeP Cl (model W.prog W.w) A₀ (.call (.ref f) ⟨[.ref W.scA], []⟩) (fun r s' => match r with | .ok (.ret v) => Q v s' | .ok _ => False | .error e => E e s') s := by
  refine codeP_call_def cl_clo (fd := fnOf name qual params body scope dV kV doc pm an cdv ct) (body := body) (binds := [(x, .ref W.scA)]) (by omega) (X _ _ ho) rfl T.nolimit (codeRec_of X hcd) rfl (hbind s _) hcell (fun y hy => by rw [List.mem_singleton.mp hy]; exact hloc) (fun h₁ hns hk₁ => ?_) hco hgen hk
  have l : Lay s.heap s.heap.objs.size h₁ (fun y => [(x, Value.ref W.scA)].reverse.lookup y) ([] ++ []) [] [] := ⟨⟨hns, hk₁, Nat.le_refl _⟩, (fun p hp => by cases hp), (fun _ h => by cases h), (fun _ h => by cases h), (fun _ h => by cases h)⟩
  have M : Mach W (A₀.deeper (envOf qual scope s.heap.objs.size f cdv)) (envOf qual scope s.heap.objs.size f cdv) s.heap s.heap.objs.size lvl := ⟨hh, rfl, hk, X, T, hroom, hun, hsc, hsm⟩
  refine h s.heap.objs.size A₀ (envOf qual scope s.heap.objs.size f cdv) s.heap [] _ [] [] [] [] _ _ _ M hf trivial (fun _ h => by cases h) l (args_hold (xs := [x]) (vs := [.ref W.scA]) (ds := [.addr W.scA]) rfl (fun y hy => by rw [List.mem_singleton.mp hy]; exact hloc) (by simp) (.cons (.addr _) .nil)) fun o fl s' frs' hq' su he => ?_
  obtain ⟨h₂, t₂, m₂, mu₂, im₂, rfl, l₂, hs₂, r⟩ := he
  cases o with
  | next V' => exact hq'.elim
  | ret d' =>
    obtain rfl : d' = _ := hq'
    cases fl with
    | ret v =>
      cases r
      exact hq h₂ t₂ l₂.F.keep
    | _ => exact r.elim

omit hK in
open Classical in
theorem neSame {d : D} {b : Bool} (hl : 1 ≤ lvl) (h : kqdOk 9 (toDat d) = true) : Op2 W b lvl (compareOp .NotEq) d d (.bool false) := op_neD hl h h (by rw [decide_eq_true rfl]; rfl)
theorem k_bookings : nsIn W.K mainGlobals "_law_bookings" = some (some (.ref 64)) := by rw [hK]; rfl
theorem keep64 : keepIn W.K (.ref 64) = true := by rw [hK]; rfl
theorem k_booked : nsIn W.K mainGlobals "_law_booked" = some (some (.ref 86)) := by rw [hK]; rfl
theorem keep86 : keepIn W.K (.ref 86) = true := by rw [hK]; rfl
theorem k_lines : nsIn W.K mainGlobals "_law_lines" = some (some (.ref 79)) := by rw [hK]; rfl
theorem keep79 : keepIn W.K (.ref 79) = true := by rw [hK]; rfl
theorem k_count : nsIn W.K mainGlobals "count_calls" = some (some (.ref 50)) := by rw [hK]; rfl
theorem keep50 : keepIn W.K (.ref 50) = true := by rw [hK]; rfl
theorem k_sum : nsIn W.K mainGlobals "sum" = some none := by rw [hK]; rfl

theorem law_top (ve : VeFree W) (hsz : W.scN.length ≤ 1000) {A₀ : Around} {s : Shared} {Q : Value → Shared → Prop} {E : Value → Shared → Prop} (X : W.K.In s.heap) (T : Top W.p W.loose W.mean W.mg W.mb s.heap) (hsc : ∃ vs, s.heap.IsList W.scA vs.toArray ∧ IntsAre vs W.scN) (hsm : ∃ o, s.heap.get? sysModules = some o)
    (hh : A₀.handled = none) (hf : A₀.frames = some []) (hroom : A₀.depth + 1 + 10 < recursionLimit) (hun : A₀.units + 3 + 100 * 10 < cLine) (hq : ∀ h' tk', (∀ b o, s.heap.get? b = some o → h'.get? b = some o) → Q (.bool true) { s with heap := h', toks := tk' }) :
    codeP Cl (model W.prog W.w) A₀ (.call (.ref 91) ⟨[.ref W.scA], []⟩) (fun r s' => match r with | .ok (.ret v) => Q v s' | .ok _ => False | .error e => E e s') s := by
  have hgood := books_good ([7] ++ W.scN.take 12)
  have hlen := books_len ([7] ++ W.scN.take 12)
  have hl13 : ([7] ++ W.scN.take 12).length ≤ 13 := by simp; omega
  obtain ⟨hent, hsum⟩ := entAt_eq (books ([7] ++ W.scN.take 12))
  have hbk := bookings_fn (lvl := 8) hK hsz
  rw [hlen] at hent
  generalize hBS : books ([7] ++ W.scN.take 12) = bs at *
  have hbl : bs.length ≤ 20 := by omega
  have hboo := booked_fn (lvl := 7) hK ve bs _ hgood (by omega) hbl
  have hli := lines_fn (lvl := 6) hK bs _ hgood (by omega) hbl
  have hkeys := lines_keys bs [] _ hgood (fun _ h => nomatch h)
  have hll := lines_length bs []
  rw [hent] at hboo
  refine top_of (lvl := 10) (PySem.Str.ofString "script") (by rw [hK]; rfl) (by rw [hK]; rfl) (fun s v => BindsTo.of_eq rfl) rfl (fun L' => ?_) rfl rfl rfl (by decide +kernel) X T hsc hsm hh hf hroom hun hq
  refine ExC.cons (Ex.toC (Ex.asg (d := .list (bs.map fun p => bkD p.1 p.2)) (envOk rfl) rfl (Ev.callG (envOk rfl) (k_bookings hK) (keep64 hK) (ds := [.addr W.scA]) (.cons (by tb_start) .nil (by intro _; rfl)) hbk rfl (by decide +kernel)) (by intro y e h; cases h) ?_))
  have hcn : ((bs.map fun p => bkD p.1 p.2).filter fun _ => true).map (fun d => match d with | .tuple [_, _, _, _, c] => c | d => d) = (cnts bs).map D.int := by
    rw [List.filter_eq_self.mpr (fun _ _ => rfl), List.map_map]
    unfold cnts
    rw [List.map_map]
    rfl
  have hsq : (((cnts bs).map D.int).filter fun _ => true).map (fun d => match d with | .int c => .int (c * c) | d => d) = ((cnts bs).map fun c => c * c).map D.int := by
    rw [List.filter_eq_self.mpr (fun _ _ => rfl), List.map_map, List.map_map]
    rfl
  refine ExC.cons (Ex.toC (Ex.asgComp (cl := []) (ds := bs.map fun p => bkD p.1 p.2) (Vo := { s := [] }) (envOk rfl) rfl (Src.list (by tb_start) (.inl ⟨_, _, rfl⟩)) ⟨rfl, by decide +kernel, rfl, by decide +kernel⟩ Sees.none (fun _ => true) (fun d => match d with | .tuple [_, _, _, _, c] => c | d => d) (fun d => { s := [(PySem.Str.ofString "booking", d)] }) (by rw [List.length_map]; exact fits1000 (by omega)) (fun d hd => Bnd.name rfl rfl) (fun C d hd => tests_nil) (fun C d hd _ => ?_) (by intro y e h; cases h) ?_ rfl))
  · obtain ⟨p, _, rfl⟩ := List.mem_map.mp hd
    exact Ev.sub (d₁ := bkD p.1 p.2) (d₂ := .int 4) (Ev.name (compEnv_ok (envOk rfl) rfl) lk0 (by decide +kernel)) (by tb_start) (op_itemTup (by decide) rfl (by decide))
  rw [hcn]
  refine ExC.cons (ExC.asgT (xs := [(PySem.Str.ofString "cc", _), (PySem.Str.ofString "nc", _), (PySem.Str.ofString "tt", _), (PySem.Str.ofString "ct", _), (PySem.Str.ofString "table", _)]) (ds := [.int bs.length, .int (cnts bs).sum, .int ((cnts bs).map fun c => c * c).sum, .int (-(cnts bs).sum), .dict (linesAt bs)]) (envOk rfl) (EvC.callG (envOk rfl) rfl (k_booked hK) (keep86 hK) (ds := [.list (bs.map fun p => bkD p.1 p.2)]) (.cons (by tb_start) .nil (by intro _; rfl)) (by rw [hlen]; exact hboo) rfl (by decide +kernel)) ?_ (by intro p hp y e h; cases h) rfl ?_ rfl rfl)
  · repeat' (first | exact List.forall_mem_nil _ | refine List.forall_mem_cons.mpr ⟨rfl, ?_⟩)
  refine ExC.cons (Ex.toC (Ex.asgComp (cl := []) (ds := (cnts bs).map D.int) (Vo := { s := [] }) (envOk rfl) rfl (Src.list (by tb_start) (.inl ⟨_, _, rfl⟩)) ⟨rfl, by decide +kernel, rfl, by decide +kernel⟩ Sees.none (fun _ => true) (fun d => match d with | .int c => .int (c * c) | d => d) (fun d => { s := [(PySem.Str.ofString "count", d)] }) (by rw [List.length_map]; unfold cnts; rw [List.length_map]; exact fits1000 (by omega)) (fun d hd => Bnd.name rfl rfl) (fun C d hd => tests_nil) (fun C d hd _ => ?_) (by intro y e h; cases h) ?_ rfl))
  · obtain ⟨c, hc, rfl⟩ := List.mem_map.mp hd
    unfold cnts at hc
    obtain ⟨p, _, rfl⟩ := List.mem_map.mp hc
    exact Ev.bin (d₁ := .int (p.2.fmod 1000)) (d₂ := .int (p.2.fmod 1000)) (Ev.name (compEnv_ok (envOk rfl) rfl) lk0 (by decide +kernel)) (Ev.name (compEnv_ok (envOk rfl) rfl) lk0 (by decide +kernel)) (op_mul (mulOk1000 _))
  rw [hsq]
  refine ExC.cons (ExC.ifs (c := false) (Tr.cmp true (d₁ := .tuple [.int bs.length, .int (cnts bs).sum, .int ((cnts bs).map fun c => c * c).sum, .int (-(cnts bs).sum)]) (d₂ := .tuple [.int bs.length, .int (cnts bs).sum, .int ((cnts bs).map fun c => c * c).sum, .int (-(cnts bs).sum)]) (by tb_start) ?_ (neSame (by omega) (four_ok _ _ _ _))) (fun h => by cases h) fun _ => ExC.nil ?_)
  · have el : (bs.length : Int) = ((bs.map fun p => bkD p.1 p.2).length : Int) := by rw [List.length_map]
    refine Ev.tuple (.cons ?_ (.cons ?_ (.cons ?_ (.cons ?_ .nil (by intro _; rfl)) (by intro _; rfl)) (by intro _; rfl)) (by intro _; rfl)) (by decide)
    · rw [el]
      exact Ev.callB1 (d₁ := .list (bs.map fun p => bkD p.1 p.2)) (envOk rfl) (k_len hK) boot_len (by tb_start) (op_lenList (by rw [List.length_map]; omega)) rfl
    · exact Ev.callB1 (d₁ := .list ((cnts bs).map D.int)) (envOk rfl) (k_sum hK) boot_sum (by tb_start) op_sum rfl
    · exact Ev.callB1 (d₁ := .list (((cnts bs).map fun c => c * c).map D.int)) (envOk rfl) (k_sum hK) boot_sum (by tb_start) op_sum rfl
    · exact Ev.unary (d₁ := .int (cnts bs).sum) (Ev.callB1 (d₁ := .list ((cnts bs).map D.int)) (envOk rfl) (k_sum hK) boot_sum (by tb_start) op_sum rfl) op_neg
  refine ExC.cons (ExC.ifs (c := false) (Tr.cmp true (d₁ := .list ((linesAt bs).map lineD)) (d₂ := .list ((linesAt bs).map lineD)) ?_ (Ev.callG (envOk rfl) (k_lines hK) (keep79 hK) (ds := [.list (bs.map fun p => bkD p.1 p.2)]) (.cons (by tb_start) .nil (by intro _; rfl)) hli rfl (by decide +kernel)) (neSame (by omega) (lines_ok hkeys))) (fun h => by cases h) fun _ => ExC.nil ?_)
  · exact Ev.listItems (envOk rfl) (g_list hK) (by tb_rel) rfl (fits1000 (by show (linesAt bs).length ≤ 1000; unfold linesAt; simp only [List.length_nil] at hll; omega)) rfl (by decide +kernel)
  have hT : (((linesAt bs).map (·.2)).sum == (cnts bs).sum) = true := by rw [hsum]; exact beq_self_eq_true _
  refine ExC.cons (Ex.toC (Ex.ret (d := .bool true) ?_ rfl))
  rw [← hT]
  exact Ev.cmp (d₁ := .int ((linesAt bs).map (·.2)).sum) (d₂ := .int (cnts bs).sum) (Ev.callG (envOk rfl) (k_count hK) (keep50 hK) (ds := [.dict (linesAt bs)]) (.cons (by tb_start) .nil (by intro _; rfl)) (count_fn hK _) rfl (by decide +kernel)) (Ev.callB1 (d₁ := .list ((cnts bs).map D.int)) (envOk rfl) (k_sum hK) boot_sum (by tb_start) op_sum rfl) op_eqInt
end
end Mine

namespace Mine
open PySem PySem.W PyProof.Rows PySem.Spec PySem.Calls PyProof.Rows.LCg
theorem ve1 : ("ValueError" : PySem.Str) ∉ looseW MineTop.hd.view_39 [PySem.Str.ofString "_norm_version"] := by decide +kernel
theorem ve2 : ("ValueError" : PySem.Str) ∉ (recsOf MineTop.hd.view_39).map (·.name) := by decide +kernel
theorem ve3 : ("ValueError" : PySem.Str) ∉ (litsOf MineTop.hd.view_39).map (·.1) := by decide +kernel
theorem ve4 : ("ValueError" : PySem.Str) ∉ (clssOf MineTop.hd.view_39 (looseW MineTop.hd.view_39 [PySem.Str.ofString "_norm_version"])).map (·.name) := by decide +kernel
set_option maxHeartbeats 8000000 in
theorem final : PySem.Challenge.rw_mj0103_01.Holds := by
  refine MineTop.hd ?_
  intro w s₀ s₁ mg mb G Y fa o pm cd doc dV kV ho hd' hcd hD hmg hg args vals as hpre hlay hrd hwl hlo
  have KX := kIn_of Y
  have hfa : fa = 91 := by
    have := mg_of (n := PySem.Str.ofString "law") (v := .ref 91) KX G.T.g rfl
    rw [hmg] at this
    cases this
    rfl
  subst hfa
  have T := G.T
  clear hD hcd hd' ho hmg
  w_on
  wrow_args hpre hlay hrd hwl hlo
  rename_i ns _ _ _ _ _ _ _ a vs _ hL _ _ _ hI _ hlen _
  have hsm : ∃ o, s₁.heap.get? sysModules = some o := by
    obtain ⟨mm, ⟨o, es, ep, e, _⟩, _⟩ := (T.seer (by decide +kernel)).mods
    exact ⟨o, e⟩
  have fin : ∀ h' tk', (∀ b o, s₁.heap.get? b = some o → h'.get? b = some o) → GoodWG Challenge.rw_mj0103_01.row.claim (classAt s₀.heap) (ExcName.means s₀.heap) [ofPy (PyData.list (List.map PyData.int ns))] s₁ (Except.ok (Flow.ret (.bool true))) { s₁ with heap := h', toks := tk' } := by
    intro h' tk' hk
    refine GoodW.toG ?_
    refine ⟨.inl ⟨.bool true, .bool true, [], rfl, ?_, ?_, ?_, ?_⟩, hk, rfl, hg⟩
    · exact raisesW_false (by wrow_none_raised)
    · exact ReadsW.bool _
    · wrow_post
    · exact fun _ => ⟨by simp, fun _ h => by cases h⟩
  have ve : VeFree ⟨PySem.Challenge.rw_mj0103_01.row.prog, w, MineTop.hd.heap_39 w.params, MineTop.hd.view_39, looseW MineTop.hd.view_39 [PySem.Str.ofString "_norm_version"], ExcName.means s₀.heap, mg, mb, a, ns⟩ := ⟨ve1, ve2, ve3, ve4⟩
  have key := law_top (W := ⟨PySem.Challenge.rw_mj0103_01.row.prog, w, MineTop.hd.heap_39 w.params, MineTop.hd.view_39, looseW MineTop.hd.view_39 [PySem.Str.ofString "_norm_version"], ExcName.means s₀.heap, mg, mb, a, ns⟩) rfl ve (by show ns.length ≤ 1000; omega) (A₀ := callerA) (s := s₁) (Q := fun v s' => GoodWG Challenge.rw_mj0103_01.row.claim (classAt s₀.heap) (ExcName.means s₀.heap) [ofPy (PyData.list (List.map PyData.int ns))] s₁ (Except.ok (Flow.ret v)) s') (E := fun e s' => GoodWG Challenge.rw_mj0103_01.row.claim (classAt s₀.heap) (ExcName.means s₀.heap) [ofPy (PyData.list (List.map PyData.int ns))] s₁ (Except.error e) s') KX T ⟨vs, hL, hI⟩ hsm rfl rfl (by decide +kernel) (by decide +kernel) fin
  intro Γ p hΓ hc
  show Sem.wp _ Γ (runValue (.call (.ref 91) ⟨[.ref a], []⟩)) _ _ p s₁
  rw [Sem.wp_runValue]
  exact key _ p rfl (hΓ.enter _ none p (by intro x; cases x)) ⟨(Γ.code, p), .head _, hc⟩
end Mine

theorem PySem.Challenge.cw_mj0103_01_holds : PySem.Challenge.rw_mj0103_01.Holds := by
  exact Mine.final
