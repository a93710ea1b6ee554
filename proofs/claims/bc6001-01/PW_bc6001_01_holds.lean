import PyProof.Rows.All
import Wide.All
import OpenK.AllK
import Wide.FinOn
import PySem.Challenge.RW_bc6001_01
-- Head
open PySem PySem.W PyProof.Rows
set_option Elab.async false
namespace Mine
local macro_rules | `(tactic| o_head ($f:ident $k $a $e)) => if f.getId.eraseMacroScopes == `kHook then `(tactic| o_head (kmHook $k $a $e [253])) else Lean.Macro.throwUnsupported
set_option maxRecDepth 100000 in
set_option maxHeartbeats 8000000 in
open_top hd for PySem.Challenge.rw_bc6001_01
end Mine

-- B1
set_option maxHeartbeats 4000000
open PySem PySem.W PySem.Calls PyProof.Rows
set_option maxRecDepth 100000
set_option linter.unusedVariables false
namespace Mine
abbrev Led := List (Addr × Obj)
abbrev Loc := Str → Option Value
def upd (m : Loc) (x : Str) (v : Value) : Loc := fun y => if y = x then some v else m y

noncomputable def setL : Led → Addr → Obj → Led
  | [], _, _ => []
  | (a, o) :: r, d, o' => if a = d then (d, o') :: r else (a, o) :: setL r d o'

theorem setL_keys : ∀ (nw : Led) (d : Addr) (o' : Obj), (setL nw d o').map (·.1) = nw.map (·.1)
  | [], _, _ => rfl
  | (a, o) :: r, d, o' => by
    unfold setL
    split
    · rename_i h; subst h; rfl
    · rw [List.map_cons, List.map_cons, setL_keys r d o']
theorem setL_upd {d : Addr} {o o' : Obj} : ∀ {nw : Led}, (nw.map (·.1)).Nodup → (d, o) ∈ nw → Upd d o o' nw (setL nw d o')
  | (a, x) :: r, hn, hm => by
    rw [List.map_cons, List.nodup_cons] at hn
    unfold setL
    split
    · rename_i h
      subst h
      rcases List.mem_cons.mp hm with e | e
      · cases e
        exact .head fun p hp e => hn.1 (by rw [← e]; exact List.mem_map_of_mem (f := (·.1)) hp)
      · exact absurd (List.mem_map_of_mem (f := (·.1)) e) hn.1
    · rename_i h
      rcases List.mem_cons.mp hm with e | e
      · cases e; exact absurd rfl h
      · exact .tail h (setL_upd hn.2 e)
theorem upd_append {d : Addr} {o o' : Obj} {l l' fx : Led} (U : Upd d o o' l l') (h : ∀ p ∈ fx, p.1 ≠ d) : Upd d o o' (l ++ fx) (l' ++ fx) := by
  induction U with
  | head hr => exact .head fun p hp => (List.mem_append.mp hp).elim (hr p) (h p)
  | tail hne _ ih => exact .tail hne ih
theorem mem_setL_ne {p : Addr × Obj} {d : Addr} {o' : Obj} : ∀ {nw : Led}, p ∈ nw → p.1 ≠ d → p ∈ setL nw d o'
  | (a, x) :: r, hm, hne => by
    unfold setL
    rcases List.mem_cons.mp hm with e | e
    · subst e; rw [if_neg hne]; exact .head _
    · split
      · exact .tail _ e
      · exact .tail _ (mem_setL_ne e hne)
theorem mem_setL_self {d : Addr} {o o' : Obj} : ∀ {nw : Led}, (d, o) ∈ nw → (d, o') ∈ setL nw d o'
  | (a, x) :: r, hm => by
    unfold setL
    rcases List.mem_cons.mp hm with e | e
    · cases e; rw [if_pos rfl]; exact .head _
    · split
      · exact .head _
      · exact .tail _ (mem_setL_self e)
theorem mem_uniq {a : Addr} {o o' : Obj} : ∀ {nw : Led}, (nw.map (·.1)).Nodup → (a, o) ∈ nw → (a, o') ∈ nw → o = o'
  | (b, x) :: r, hn, h1, h2 => by
    rw [List.map_cons, List.nodup_cons] at hn
    rcases List.mem_cons.mp h1 with e1 | e1 <;> rcases List.mem_cons.mp h2 with e2 | e2
    · cases e1; cases e2; rfl
    · cases e1; exact absurd (List.mem_map_of_mem (f := (·.1)) e2) hn.1
    · cases e2; exact absurd (List.mem_map_of_mem (f := (·.1)) e1) hn.1
    · exact mem_uniq hn.2 e1 e2

/-- every entry but those at W stands -/
def Kp (W : List Addr) (nw nw' : Led) : Prop := ∀ p ∈ nw, p.1 ∉ W → p ∈ nw'
theorem Kp.refl {W nw} : Kp W nw nw := fun _ h _ => h
theorem Kp.trans {W nw nw' nw''} (h : Kp W nw nw') (h' : Kp W nw' nw'') : Kp W nw nw'' := fun p hp hW => h' p (h p hp hW) hW
theorem Kp.cons {W nw p} : Kp W nw (p :: nw) := fun _ h _ => .tail _ h
theorem Kp.sub {W W' nw nw'} (h : Kp W nw nw') (hs : ∀ a ∈ W, a ∈ W') : Kp W' nw nw' := fun p hp hW => h p hp fun q => hW (hs _ q)
theorem Kp.nil {W nw nw'} (h : Kp [] nw nw') : Kp W nw nw' := h.sub fun _ q => nomatch q
theorem Kp.get {nw nw' : Led} (h : Kp [] nw nw') {p} (hp : p ∈ nw) : p ∈ nw' := h p hp (fun q => nomatch q)

/-- what stands at the top, seen through a part that hides the tables -/
structure Gr (K : Frag) (mg mb : Loc) (h : Heap) : Prop where
  X : K.In h
  g : h.Ns mainGlobals mg
  b : h.Ns builtinsNs mb
  bi : ∀ x : Str, x ≠ "__name__" → mb x = bootBuiltins x
  nolimit : h.NoLimit
  bmod : ∃ bm ob, BMod h mainGlobals mg bm ob

theorem Gr.keeps {K mg mb h h'} (G : Gr K mg mb h) (k : ∀ b o, h.get? b = some o → h'.get? b = some o) : Gr K mg mb h' :=
  ⟨G.X.keeps k, G.g.keeps k, G.b.keeps k, G.bi, G.nolimit.keeps k, let ⟨bm, ob, h⟩ := G.bmod; ⟨bm, ob, h.keeps k⟩⟩

/-- where a frame stands -/
structure Fm (K : Frag) (mg mb : Loc) (r : Nat) (A : Around) (h₀ : Heap) (L : Addr) : Prop where
  below : ∃ A₀ base outer fe, Below A₀ base outer h₀ ∧ A.frames = some (fe :: outer) ∧ fe.frame = some L ∧ fe.scope.kind = .function
  hnd : A.handled = none
  gr : Gr K mg mb h₀
  room : A.depth + r < recursionLimit
  units : A.units + 30 * r < cLine

/-- the state: the frame's names, the ledger, a part that stands fixed -/
structure St (h₀ : Heap) (L : Addr) (os : OsState) (m : Loc) (nw fx : Led) (s : Shared) : Prop where
  F : Fr h₀ L s.heap m
  N : News h₀ L s.heap (nw ++ fx)
  D : ((nw ++ fx).map (·.1)).Nodup
  os : s.os = os
  bare : AllBare s.gens

section
variable {prog : Program} {w : World} {A : Around} {h₀ : Heap} {L : Addr} {α β : Type}

def Run (prog : Program) (w : World) (A : Around) (h₀ : Heap) (L : Addr) (m : Loc) (nw : Led) (t : Sem α) (P : α → Loc → Led → Prop) : Prop :=
  ∀ os fx s, St h₀ L os m nw fx s → wpAny (model prog w) A t (fun a s' => ∃ m' nw', St h₀ L os m' nw' fx s' ∧ P a m' nw') (fun _ _ => False) s

variable {m : Loc} {nw : Led}
theorem Run.mono {t : Sem α} {P P' : α → Loc → Led → Prop} (h : Run prog w A h₀ L m nw t P) (hP : ∀ a m' nw', P a m' nw' → P' a m' nw') : Run prog w A h₀ L m nw t P' :=
  fun os fx s hs => wpAny_mono (h os fx s hs) (fun a s' ⟨m', nw', x, y⟩ => ⟨m', nw', x, hP _ _ _ y⟩) fun _ _ x => x
theorem Run.pure {a : α} {P : α → Loc → Led → Prop} (h : P a m nw) : Run prog w A h₀ L m nw (pure a) P := fun _ _ _ hs => wpAny_pure ⟨m, nw, hs, h⟩
theorem Run.next {t : Sem α} {f : α → Sem β} {P : α → Loc → Led → Prop} {Q : β → Loc → Led → Prop} {os fx s} (h : Run prog w A h₀ L m nw t P) (k : ∀ a m' nw', P a m' nw' → Run prog w A h₀ L m' nw' (f a) Q) (hs : St h₀ L os m nw fx s) :
    wpAny (model prog w) A t (fun a s₁ => wpAny (model prog w) A (f a) (fun b s' => ∃ m' nw', St h₀ L os m' nw' fx s' ∧ Q b m' nw') (fun _ _ => False) s₁) (fun _ _ => False) s :=
  wpAny_mono (h os fx s hs) (fun a s' ⟨m', nw', x, y⟩ => k a m' nw' y os fx s' x) fun _ _ x => x
theorem Run.bind {t : Sem α} {f : α → Sem β} {P : α → Loc → Led → Prop} {Q : β → Loc → Led → Prop} (h : Run prog w A h₀ L m nw t P) (k : ∀ a m' nw', P a m' nw' → Run prog w A h₀ L m' nw' (f a) Q) : Run prog w A h₀ L m nw (t >>= f) Q :=
  fun _ _ _ hs => wpAny_bind (h.next k hs)
theorem Run.nodup {t : Sem α} {P : α → Loc → Led → Prop} (h : (nw.map (·.1)).Nodup → Run prog w A h₀ L m nw t P) : Run prog w A h₀ L m nw t P :=
  fun os fx s hs => h (by have := hs.D; rw [List.map_append] at this; exact (List.nodup_append.mp this).1) os fx s hs
theorem St.toks {os fx s tk} (hs : St h₀ L os m nw fx s) : St h₀ L os m nw fx { s with toks := tk } := ⟨hs.F, hs.N, hs.D, hs.os, hs.bare⟩
/-- a look: nothing turns -/
theorem Run.look {t : Sem α} {P : α → Loc → Led → Prop} (h : ∀ os fx s (Q : α → Shared → Prop), St h₀ L os m nw fx s → (∀ a tk, P a m nw → Q a { s with toks := tk }) → wpAny (model prog w) A t Q (fun _ _ => False) s) : Run prog w A h₀ L m nw t P :=
  fun os fx s hs => h os fx s _ hs fun a tk hp => ⟨m, nw, hs.toks, hp⟩
theorem St.push {os fx s} (hs : St h₀ L os m nw fx s) (o : Obj) (hf : o.isFreed = false) : St h₀ L os m ((s.heap.objs.size, o) :: nw) fx { s with heap := s.heap.push o } := by
  have N' : News h₀ L (s.heap.push o) ((s.heap.objs.size, o) :: (nw ++ fx)) := hs.N.push hs.F o hf
  refine ⟨hs.F.push o, N', ?_, hs.os, hs.bare⟩
  rw [List.cons_append, List.map_cons, List.nodup_cons]
  refine ⟨fun hm => ?_, hs.D⟩
  obtain ⟨p, hp, e⟩ := List.mem_map.mp hm
  exact absurd (Heap.lt_size (hs.N p hp).1) (by rw [e]; exact Nat.lt_irrefl _)
theorem St.upd {os fx s s' d o o'} (hs : St h₀ L os m nw fx s) (hm : (d, o) ∈ nw) (h : ∀ nw', Upd d o o' (nw ++ fx) nw' → (∃ h', Fr h₀ L h' m ∧ News h₀ L h' nw' ∧ s'.heap = h') ∧ s'.os = s.os ∧ AllBare s'.gens) : St h₀ L os m (setL nw d o') fx s' := by
  have hn := hs.D
  rw [List.map_append] at hn
  obtain ⟨h1, h2, h3⟩ := List.nodup_append.mp hn
  have U : Upd d o o' (nw ++ fx) (setL nw d o' ++ fx) := upd_append (setL_upd h1 hm) fun p hp e => h3 _ (List.mem_map_of_mem (f := (·.1)) hm) _ (List.mem_map_of_mem (f := (·.1)) hp) e.symm
  obtain ⟨⟨h', F, N, e⟩, e2, e3⟩ := h _ U
  subst e
  refine ⟨F, N, ?_, e2.trans hs.os, e3⟩
  rw [List.map_append, setL_keys, ← List.map_append]
  exact hs.D
end
end Mine

-- B2
open PySem PySem.W PySem.Calls PyProof.Rows
set_option maxRecDepth 100000
set_option linter.unusedVariables false
namespace Mine
abbrev tupO (vs : List Value) (n : Nat) : Obj := { cls := .type "tuple", data := .seq vs.toArray n }

section
variable {prog : Program} {w : World} {A : Around} {h₀ : Heap} {L : Addr} {α β : Type} {m : Loc} {nw : Led} {K : Frag} {mg mb : Loc} {r : Nat} {env : Env}

theorem St.get {os fx s} (hs : St h₀ L os m nw fx s) {a : Addr} {o : Obj} (h : (a, o) ∈ nw) : s.heap.get? a = some o := (hs.N _ (List.mem_append_left _ h)).1
theorem St.gr {os fx s} (hs : St h₀ L os m nw fx s) (G : Gr K mg mb h₀) : Gr K mg mb s.heap := G.keeps hs.F.keep
theorem St.inK {os fx s} (hs : St h₀ L os m nw fx s) (M : Fm K mg mb r A h₀ L) : K.In s.heap := M.gr.X.keeps hs.F.keep

def Is (V : Value → Prop) (m : Loc) (nw : Led) : Value → Loc → Led → Prop := fun a m' nw' => V a ∧ m' = m ∧ nw' = nw
theorem Is.of {V : Value → Prop} {a} (h : V a) : Is V m nw a m nw := ⟨h, rfl, rfl⟩

/-- an expression -/
abbrev Ex (prog : Program) (w : World) (A : Around) (h₀ : Heap) (L : Addr) (env : Env) (m : Loc) (nw : Led) (e : Expr) (P : Value → Loc → Led → Prop) : Prop := Run prog w A h₀ L m nw (eval e env) P

theorem Run.withM {t : Sem α} {P : α → Loc → Led → Prop} (h : Run prog w A h₀ L m nw t P) : Run prog w A h₀ L m nw t P := h

/-- reading only: from a rule of the library -/
theorem Run.reads {t : Sem α} {V : α → Prop} (h : ∀ os fx s (Q : α → Shared → Prop), St h₀ L os m nw fx s → (∀ a tk, V a → Q a { s with toks := tk }) → wpAny (model prog w) A t Q (fun _ _ => False) s) :
    Run prog w A h₀ L m nw t (fun a m' nw' => V a ∧ m' = m ∧ nw' = nw) := fun os fx s hs => h os fx s _ hs fun _ _ hv => ⟨m, nw, hs.toks, hv, rfl, rfl⟩

theorem ex_local {x : Str} {pos : Pos} {v : Value} (hl : env.locals = L) (hk : env.scope.kind = .function) (hx : env.kindOf x = some .local) (hv : m x = some v) (hd : (x == ("__debug__" : Str)) = false := by decide) :
    Ex prog w A h₀ L env m nw (.Name x pos) (Is (· = v) m nw) := fun os fx s hs => by
  have n := hs.F.ns
  rw [← hl] at n
  exact wpAny_Name (wpAny_loadName_local hk hx n hv ⟨m, nw, hs, rfl, rfl, rfl⟩) hd
theorem ex_global {x : Str} {pos : Pos} {v : Value} (M : Fm K mg mb r A h₀ L) (hg : env.globals = mainGlobals) (hk : env.scope.kind = .function) (hx : env.kindOf x = some .globalImplicit) (hv : nsIn K mainGlobals x = some (some v)) (hd : (x == ("__debug__" : Str)) = false := by decide) :
    Ex prog w A h₀ L env m nw (.Name x pos) (Is (· = v) m nw) := fun os fx s hs => by
  have G := hs.gr M.gr
  have n := G.g
  rw [← hg] at n
  exact Name_function_global hk hx (loadGlobal_global n (mg_of G.X G.g hv) ⟨m, nw, hs, rfl, rfl, rfl⟩) hd
theorem ex_builtin {x : Str} {pos : Pos} {v : Value} (M : Fm K mg mb r A h₀ L) (hg : env.globals = mainGlobals) (hb : env.builtins = builtinsNs) (hk : env.scope.kind = .function) (hx : env.kindOf x = some .globalImplicit) (hn : nsIn K mainGlobals x = some none) (hv : bootBuiltins x = some v) (hn' : x ≠ "__name__") (hd : (x == ("__debug__" : Str)) = false := by decide) :
    Ex prog w A h₀ L env m nw (.Name x pos) (Is (· = v) m nw) := fun os fx s hs => by
  have G := hs.gr M.gr
  have n := G.g
  rw [← hg] at n
  have b := G.b
  rw [← hb] at b
  exact Name_function_global hk hx (loadGlobal_builtin n (mg_none_of G.X G.g hn) b ((G.bi x hn').trans hv) ⟨m, nw, hs, rfl, rfl, rfl⟩) hd
abbrev cellO (v : Value) : Obj := { cls := .type "cell", data := .cell (some v) }
theorem ex_cell {x : Str} {pos : Pos} {v : Value} {c : Addr} {o : Obj} (hk : env.scope.kind = .function) (hx : env.kindOf x = some .cell) (hc : env.cells.lookup x = some c) (hm : (c, o) ∈ nw) (ho : o.data = .cell (some v)) (hd : (x == ("__debug__" : Str)) = false := by decide) :
    Ex prog w A h₀ L env m nw (.Name x pos) (Is (· = v) m nw) := fun os fx s hs =>
  wpAny_Name (wpAny_loadName_cell hk hx hc ⟨_, hs.get hm, ho⟩ ⟨m, nw, hs, rfl, rfl, rfl⟩) hd
theorem ex_free {x : Str} {pos : Pos} {v : Value} {c : Addr} {o : Obj} (hk : env.scope.kind = .function) (hx : env.kindOf x = some .free) (hc : env.cells.lookup x = some c) (hm : (c, o) ∈ nw) (ho : o.data = .cell (some v)) (hd : (x == ("__debug__" : Str)) = false := by decide) (hn : (x == ("__classdict__" : Str)) = false := by decide) :
    Ex prog w A h₀ L env m nw (.Name x pos) (Is (· = v) m nw) := fun os fx s hs =>
  wpAny_Name (wpAny_loadName_free hk hx hc ⟨_, hs.get hm, ho⟩ ⟨m, nw, hs, rfl, rfl, rfl⟩ hn) hd
theorem ex_int {i : Int} {k pos} : Ex prog w A h₀ L env m nw (.Constant (.int i) k pos) (Is (fun v => ∃ t, v = .int i t) m nw) :=
  fun os fx s hs => wpAny_Constant_int ⟨m, nw, hs.toks, ⟨_, rfl⟩, rfl, rfl⟩
theorem ex_str {x : Str} {k pos} : Ex prog w A h₀ L env m nw (.Constant (.str x) k pos) (Is (fun v => ∃ t, v = .str x t) m nw) :=
  fun os fx s hs => wpAny_Constant_str ⟨m, nw, hs.toks, ⟨_, rfl⟩, rfl, rfl⟩
theorem ex_none {k pos} : Ex prog w A h₀ L env m nw (.Constant .none k pos) (Is (· = .none) m nw) :=
  fun os fx s hs => wpAny_Constant_none ⟨m, nw, hs, rfl, rfl, rfl⟩
theorem ex_bool {b k pos} : Ex prog w A h₀ L env m nw (.Constant (.bool b) k pos) (Is (· = .bool b) m nw) :=
  fun os fx s hs => wpAny_Constant_bool ⟨m, nw, hs, rfl, rfl, rfl⟩

theorem ex_binop {l r' : Expr} {op : Operator} {pos : Pos} {P : Value → Loc → Led → Prop} {P2 : Value → Value → Loc → Led → Prop} {Q : Value → Loc → Led → Prop} (hl : Ex prog w A h₀ L env m nw l P) (hr : ∀ a m' nw', P a m' nw' → Ex prog w A h₀ L env m' nw' r' (P2 a))
    (ho : ∀ a b m' nw', P2 a b m' nw' → Run prog w A h₀ L m' nw' (binaryOp op a b) Q) : Ex prog w A h₀ L env m nw (.BinOp l op r' pos) Q :=
  fun os fx s hs => wpAny_BinOp (wpAny_mono (hl os fx s hs) (fun a s₁ ⟨m', nw', hs', hp⟩ => wpAny_mono (hr a m' nw' hp os fx s₁ hs') (fun b s₂ ⟨m'', nw'', hs'', hp2⟩ => ho a b m'' nw'' hp2 os fx s₂ hs'') fun _ _ x => x) fun _ _ x => x)
theorem ex_cmp {l r' : Expr} {op : CmpOp} {pos : Pos} {P : Value → Loc → Led → Prop} {P2 : Value → Value → Loc → Led → Prop} {Q : Value → Loc → Led → Prop} (hl : Ex prog w A h₀ L env m nw l P) (hr : ∀ a m' nw', P a m' nw' → Ex prog w A h₀ L env m' nw' r' (P2 a))
    (ho : ∀ a b m' nw', P2 a b m' nw' → Run prog w A h₀ L m' nw' (compareOp op a b) Q) (hm : behindInMarks op r' = false := by with_unfolding_all rfl) : Ex prog w A h₀ L env m nw (.Compare l [op] [r'] pos) Q :=
  fun os fx s hs => wpAny_Compare1 (wpAny_mono (hl os fx s hs) (fun a s₁ ⟨m', nw', hs', hp⟩ => wpAny_mono (hr a m' nw' hp os fx s₁ hs') (fun b s₂ ⟨m'', nw'', hs'', hp2⟩ => ho a b m'' nw'' hp2 os fx s₂ hs'') fun _ _ x => x) fun _ _ x => x) hm
theorem ex_attr {value : Expr} {attr : Str} {pos : Pos} {P Q : Value → Loc → Led → Prop} (hv : Ex prog w A h₀ L env m nw value P) (k : ∀ o m' nw', P o m' nw' → Run prog w A h₀ L m' nw' (getAttr o attr true) Q)
    (he : eval (.Attribute value attr pos) env = (do
        let o ← eval value env
        standAt pos.atName
        let r ← holding [o] (getAttr o attr true)
        letTemporaryGo value o r
        pure r) := by with_unfolding_all rfl) : Ex prog w A h₀ L env m nw (.Attribute value attr pos) Q :=
  fun os fx s hs => Attribute_any_ (wpAny_mono (hv os fx s hs) (fun o s₁ ⟨m', nw', hs', hp⟩ => k o m' nw' hp os fx s₁ hs') fun _ _ x => x) he

/-- arguments -/
theorem args_nil {pos : Pos} {Q : List Value → Loc → Led → Prop} (h : Q [] m nw) : Run prog w A h₀ L m nw (spliced (backTo pos (starEach [] env))) Q := fun _ _ _ hs => spliced_nil ⟨m, nw, hs, h⟩
theorem args_cons {pos : Pos} {e : Expr} {rest : List Expr} {P : Value → Loc → Led → Prop} {Q : List Value → Loc → Led → Prop} (h : Ex prog w A h₀ L env m nw e P)
    (k : ∀ v m' nw', P v m' nw' → Run prog w A h₀ L m' nw' (spliced (backTo pos (starEach rest env))) (fun vs => Q (v :: vs)))
    (he : starEach (e :: rest) env = (false, eval e env) :: starEach rest env := by rfl) : Run prog w A h₀ L m nw (spliced (backTo pos (starEach (e :: rest) env))) Q := by
  intro os fx s hs
  rw [he]
  exact spliced_cons (wpAny_mono (h os fx s hs) (fun v s₁ ⟨m', nw', hs', hp⟩ => k v m' nw' hp os fx s₁ hs') fun _ _ x => x)
end
end Mine

-- B3
open PySem PySem.W PySem.Calls PyProof.Rows
set_option maxRecDepth 100000
set_option linter.unusedVariables false
namespace Mine
section
variable {prog : Program} {w : World} {A : Around} {h₀ : Heap} {L : Addr} {α β : Type} {m : Loc} {nw : Led} {K : Frag} {mg mb : Loc} {r : Nat} {env : Env}

def Fn (prog : Program) (w : World) (K : Frag) (mg mb : Loc) (d : Nat) (f : Value) (args : List Value) (nw : Led) (P : Value → Led → Prop) : Prop :=
  ∀ r A h₀ L m os fx s, d ≤ r → Fm K mg mb r A h₀ L → St h₀ L os m nw fx s →
    codeAny (model prog w) A (.call f ⟨args, []⟩) (fun res s' => ∃ v nw', res = .ok (.ret v) ∧ St h₀ L os m nw' fx s' ∧ P v nw') s

theorem Fn.mono {d d' f args nw P P'} (h : Fn prog w K mg mb d f args nw P) (hd : d ≤ d') (hP : ∀ v nw', P v nw' → P' v nw') : Fn prog w K mg mb d' f args nw P' :=
  fun r A h₀ L m os fx s hr M hs => codeAny_mono (h r A h₀ L m os fx s (Nat.le_trans hd hr) M hs) fun _ _ ⟨v, nw', e, x, y⟩ => ⟨v, nw', e, x, hP _ _ y⟩

theorem Fm.deeper {env' : Env} {base : Heap} {outer' : List Env} (M : Fm K mg mb (r + 1) A h₀ L) {g : Heap} {L' : Addr} (hb : Below A base outer' g) (hA : A.frames = some outer') (hg : Gr K mg mb g) (hf : env'.frame = some L') (hk : env'.scope.kind = .function) : Fm K mg mb r (A.deeper env') g L' := by
  refine ⟨⟨A, base, outer', env', hb, ?_, hf, hk⟩, M.hnd, hg, ?_, ?_⟩
  · simp only [Around.deeper, hA, Option.map_some]
  · have := M.room
    show A.depth + 1 + r < recursionLimit
    omega
  · have := M.units
    show A.units + 3 + 30 * r < cLine
    omega

/-- the body of a def without cells -/
theorem Fn.intro {d : Nat} {f : Addr} {oc : Value} {od : Option Addr} {osl : Array (Option Value)} {name qual : Str} {params : Arguments} {body : List Stmt} {scope : Scope} {dV kV doc pm cdv ct : Value} {an : Option Addr} {args : List Value} {binds : List (Str × Value)} {P : Value → Led → Prop}
    (ho : K.lookup f = some ⟨oc, od, .func (fnOf name qual params body scope dV kV doc pm an cdv ct), osl⟩) (hcd : codeIn K cdv qual = true)
    (hbind : ∀ s, BindsTo s (fnOf name qual params body scope dV kV doc pm an cdv ct) ⟨args, []⟩ binds) (hloc : ∀ y ∈ binds, scope.names.lookup y.1 = some .local)
    (hcell : ∀ x ∈ scope.names, x.2 ≠ .cell) (hco : scope.isCoroutine = false) (hgen : scope.isGenerator = false) (hk : scope.kind = .function)
    (h : ∀ r A h₀ L, d ≤ r → Fm K mg mb r A h₀ L → Run prog w A h₀ L (fun y => binds.reverse.lookup y) nw (execs body (envX qual scope L f cdv [])) (fun fl _ nw' => P (match fl with | .ret v => v | _ => .none) nw')) :
    Fn prog w K mg mb (d + 1) (.ref f) args nw P := by
  intro r A h₀ L m os fx s hr M hs
  obtain ⟨A₀, base, outer, fe, B, hA, hf, hke⟩ := M.below
  have X : K.In s.heap := hs.inK M
  obtain ⟨r', rfl⟩ : ∃ r', r = r' + 1 := ⟨r - 1, by omega⟩
  refine callX_plain (cl := []) B hs.F hs.N M.gr.nolimit hA hf hke (X _ _ ho) rfl (codeRec_of X hcd) (by have := M.room; omega) (hbind s) hloc (fun g L' h₁ FG F' N' BG st _ => ?_) hcell hco hgen hk
  have M' : Fm K mg mb r' (A.deeper (envX qual scope L' f cdv [])) g L' := Fm.deeper M BG hA (M.gr.keeps st) rfl hk
  refine wpAny_mono (h r' _ g L' (by omega) M' os fx _ ⟨F', N', hs.D, hs.os, hs.bare⟩) (fun fl s' ⟨m', nw', hs', hp⟩ => ?_) fun _ _ x => x.elim
  exact ⟨L', m', nw' ++ fx, hs'.F, hs'.N, fun F N => ⟨_, nw', rfl, ⟨F, N, hs'.D, hs'.os, hs'.bare⟩, hp⟩⟩

theorem run_call {d : Nat} {f : Value} {args : List Value} {P : Value → Led → Prop} {Q : Value → Loc → Led → Prop} (hf : Fn prog w K mg mb d f args nw P) (M : Fm K mg mb r A h₀ L) (hd : d ≤ r) (k : ∀ v nw', P v nw' → Q v m nw') :
    Run prog w A h₀ L m nw (call f args) Q := fun os fx s hs =>
  wpAny_call (codeAny_mono (hf r A h₀ L m os fx s hd M hs) fun _ _ ⟨v, nw', e, x, y⟩ => by subst e; exact ⟨m, nw', x, k _ _ y⟩)

/-- statements -/
abbrev Sx (prog : Program) (w : World) (A : Around) (h₀ : Heap) (L : Addr) (env : Env) (m : Loc) (nw : Led) (ss : List Stmt) (R : Flow → Loc → Led → Prop) : Prop := Run prog w A h₀ L m nw (execs ss env) R
def Co (prog : Program) (w : World) (A : Around) (h₀ : Heap) (L : Addr) (env : Env) (rest : List Stmt) (R : Flow → Loc → Led → Prop) : Flow → Loc → Led → Prop
  | .next, m, nw => Run prog w A h₀ L m nw (execs rest env) R
  | f, m, nw => R f m nw

theorem sx_nil {R : Flow → Loc → Led → Prop} (h : R .next m nw) : Sx prog w A h₀ L env m nw [] R := fun _ _ _ hs => wpAny_execs_nil ⟨m, nw, hs, h⟩
theorem sx_cons {st rest} {R : Flow → Loc → Led → Prop} (h : Run prog w A h₀ L m nw (exec st env) (Co prog w A h₀ L env rest R)) : Sx prog w A h₀ L env m nw (st :: rest) R := fun os fx s hs =>
  wpAny_execs_cons (wpAny_mono (h os fx s hs) (fun f s' ⟨m', nw', hs', hc⟩ => by
    cases f with
    | next => exact hc os fx s' hs'
    | brk => exact ⟨m', nw', hs', hc⟩
    | cont => exact ⟨m', nw', hs', hc⟩
    | ret v => exact ⟨m', nw', hs', hc⟩) fun _ _ x => x)
theorem sx_ret {e pos rest} {P : Value → Loc → Led → Prop} {R : Flow → Loc → Led → Prop} (h : Ex prog w A h₀ L env m nw e P) (k : ∀ v m' nw', P v m' nw' → R (.ret v) m' nw') : Sx prog w A h₀ L env m nw (.Return (some e) pos :: rest) R :=
  sx_cons fun os fx s hs => wpAny_Return_some (wpAny_mono (h os fx s hs) (fun v s' ⟨m', nw', hs', hp⟩ => ⟨m', nw', hs', k v m' nw' hp⟩) fun _ _ x => x)
theorem run_store {x : Str} {v : Value} {Q : Unit → Loc → Led → Prop} (hl : env.locals = L) (hk : env.scope.kind = .function) (hx : env.kindOf x = some .local) (h : Q () (upd m x v) nw) : Run prog w A h₀ L m nw (storeName env x v) Q := fun os fx s hs => by
  have n := hs.F.ns
  rw [← hl] at n
  refine wpAny_storeName_local hx n (fun h' hn hsb => ?_) (by rw [hk]; rfl)
  rw [hl] at hn hsb
  exact ⟨upd m x v, nw, ⟨hs.F.set hn hsb, hs.N.set hsb, hs.D, hs.os, hs.bare⟩, h⟩
theorem sx_assign {x : Str} {pos' : Pos} {e pos rest} {P : Value → Loc → Led → Prop} {R : Flow → Loc → Led → Prop} (hl : env.locals = L) (hk : env.scope.kind = .function) (hx : env.kindOf x = some .local) (h : Ex prog w A h₀ L env m nw e P)
    (k : ∀ v m' nw', P v m' nw' → Sx prog w A h₀ L env (upd m' x v) nw' rest R) (hs : swapsWith e (some (.Name x pos')) pos.line env = pure false := by rfl) : Sx prog w A h₀ L env m nw (.Assign [.Name x pos'] e pos :: rest) R :=
  sx_cons fun os fx s hs' => wpAny_Assign_Name (wpAny_mono (h os fx s hs') (fun v s' ⟨m', nw', hs', hp⟩ => run_store hl hk hx (Q := fun _ m nw => Co prog w A h₀ L env rest R .next m nw) (k v m' nw' hp) os fx s' hs') fun _ _ x => x) hs

/-- a test -/
abbrev Tx (prog : Program) (w : World) (A : Around) (h₀ : Heap) (L : Addr) (env : Env) (m : Loc) (nw : Led) (e : Expr) (P : Bool → Loc → Led → Prop) : Prop := Run prog w A h₀ L m nw (isTrue e env (eval e env)) P
theorem sx_if {test body orelse pos rest} {P : Bool → Loc → Led → Prop} {R : Flow → Loc → Led → Prop} (h : Tx prog w A h₀ L env m nw test P)
    (k1 : ∀ m' nw', P true m' nw' → Sx prog w A h₀ L env m' nw' body (Co prog w A h₀ L env rest R)) (k2 : ∀ m' nw', P false m' nw' → Sx prog w A h₀ L env m' nw' orelse (Co prog w A h₀ L env rest R)) :
    Sx prog w A h₀ L env m nw (.If test body orelse pos :: rest) R :=
  sx_cons fun os fx s hs => wpAny_If (wpAny_mono (h os fx s hs) (fun b s' ⟨m', nw', hs', hp⟩ => by
    cases b with
    | true => exact k1 m' nw' hp os fx s' hs'
    | false => exact k2 m' nw' hp os fx s' hs') fun _ _ x => x)
theorem tx_cmp {l r' : Expr} {op : CmpOp} {pos : Pos} {whole : Sem Value} {P : Value → Loc → Led → Prop} {P2 : Value → Value → Loc → Led → Prop} {P3 : Value → Loc → Led → Prop} {Q : Bool → Loc → Led → Prop} (hl : Ex prog w A h₀ L env m nw l P) (hr : ∀ a m' nw', P a m' nw' → Ex prog w A h₀ L env m' nw' r' (P2 a))
    (ho : ∀ a b m' nw', P2 a b m' nw' → Run prog w A h₀ L m' nw' (compareOp op a b) P3) (ht : ∀ c m' nw', P3 c m' nw' → Run prog w A h₀ L m' nw' (truthy c) Q) (hm : behindInMarks op r' = false := by with_unfolding_all rfl) : Run prog w A h₀ L m nw (isTrue (.Compare l [op] [r'] pos) env whole) Q :=
  fun os fx s hs => wpAny_isTrue_Compare1 (wpAny_mono (hl os fx s hs) (fun a s₁ ⟨m', nw', hs', hp⟩ => wpAny_mono (hr a m' nw' hp os fx s₁ hs') (fun b s₂ ⟨m'', nw'', hs'', hp2⟩ => (ho a b m'' nw'' hp2).next ht hs'') fun _ _ x => x) fun _ _ x => x) hm
theorem tx_not {x : Expr} {pos : Pos} {whole : Sem Value} {Q : Bool → Loc → Led → Prop} (h : Tx prog w A h₀ L env m nw x (fun b => Q (!b))) : Run prog w A h₀ L m nw (isTrue (.UnaryOp .Not x pos) env whole) Q :=
  fun os fx s hs => wpAny_isTrue_Not (h os fx s hs)
theorem tx_val {e : Expr} {P : Value → Loc → Led → Prop} {Q : Bool → Loc → Led → Prop} (h : Ex prog w A h₀ L env m nw e P) (k : ∀ v m' nw', P v m' nw' → Run prog w A h₀ L m' nw' (truthy v) Q)
    (he : isTrue e env (eval e env) = (do let v ← eval e env; standAt e.pos; holding [v] (truthy v)) := by rfl) : Tx prog w A h₀ L env m nw e Q := by
  intro os fx s hs
  show wpAny (model prog w) A (isTrue e env (eval e env)) _ _ s
  rw [he]
  exact wpAny_bind (wpAny_mono (h os fx s hs) (fun v s₁ ⟨m', nw', hs', hp⟩ => wpAny_bind (wpAny_standAt (wpAny_holding (k v m' nw' hp os fx s₁ hs')))) fun _ _ x => x)
theorem run_truthy_bool {b : Bool} {Q : Bool → Loc → Led → Prop} (h : Q b m nw) : Run prog w A h₀ L m nw (truthy (.bool b)) Q := fun _ _ _ hs => wpAny_truthy_bool ⟨m, nw, hs, h⟩
end
end Mine

-- B4
open PySem PySem.W PySem.Calls PyProof.Rows
set_option maxRecDepth 100000
set_option linter.unusedVariables false
namespace Mine
section
variable {prog : Program} {w : World} {A : Around} {h₀ : Heap} {L : Addr} {α β : Type} {m : Loc} {nw : Led} {K : Frag} {mg mb : Loc} {r : Nat} {env : Env}

/-- an object, of the ledger or of the top -/
structure Ins (K : Frag) (nw : Led) (x C : Addr) (ox : Obj) (od : Obj) : Prop where
  cls : ox.cls = .ref C
  no : notCls ox = true
  at_ : ∃ dx, ox.dict = some dx ∧ (((x, ox) ∈ nw ∧ (dx, od) ∈ nw) ∨ (K.lookup x = some ox ∧ K.lookup dx = some od))
theorem Ins.inst {x C ox od os fx s} (I : Ins K nw x C ox od) (hs : St h₀ L os m nw fx s) (M : Fm K mg mb r A h₀ L) : InstAt s.heap x ox C (some od) := by
  obtain ⟨dx, e, h⟩ := I.at_
  have h2 : s.heap.get? x = some ox ∧ s.heap.get? dx = some od := by
    rcases h with ⟨a, b⟩ | ⟨a, b⟩
    · exact ⟨hs.get a, hs.get b⟩
    · exact ⟨hs.inK M _ _ a, hs.inK M _ _ b⟩
  refine ⟨h2.1, I.cls, I.no, ?_⟩
  rw [e]; exact h2.2
theorem Ins.keep {x C ox od nw' W} (I : Ins K nw x C ox od) (k : Kp W nw nw') (h1 : x ∉ W) (h2 : ∀ dx, ox.dict = some dx → dx ∉ W) : Ins K nw' x C ox od := by
  obtain ⟨dx, e, h⟩ := I.at_
  refine ⟨I.cls, I.no, dx, e, ?_⟩
  rcases h with ⟨a, b⟩ | h
  · exact .inl ⟨k _ a h1, k _ b (h2 _ e)⟩
  · exact .inr h
theorem Ins.keep0 {x C ox od nw'} (I : Ins K nw x C ox od) (k : Kp [] nw nw') : Ins K nw' x C ox od := I.keep k (fun q => nomatch q) fun _ _ q => nomatch q

structure OwnAttr (K : Frag) (C : Addr) (name : Str) : Prop where
  g : plainGet K C name = true
  d : hasDictIn K C = true
  a : ∃ attr, findIn K (.ref C) name = some attr ∧ noGet K attr = true
structure SlotAttr (K : Frag) (C : Addr) (name : Str) (i : Nat) : Prop where
  g : plainGet K C name = true
  d : isClsIn K C = true
  a : ∃ p, findIn K (.ref C) name = some (some (.ref p)) ∧ specialIn K (.ref p) "__get__" = some (some (.builtin "member_descriptor.__get__")) ∧ takesIn K (.ref p) = some true ∧ slotIn K p C = some i
structure SlotSet (K : Frag) (C : Addr) (name : Str) (i : Nat) : Prop where
  s : findIn K (.ref C) "__setattr__" = some (some (.builtin "object.__setattr__"))
  o : plainOver K C = true
  a : ∃ p, takerIn K C name = some (some (.ref p)) ∧ typeIn K (.ref p) = some (.type "member_descriptor") ∧ slotIn K p C = some i
  z : i < 1000
structure DictSet (K : Frag) (C : Addr) (name : Str) : Prop where
  s : findIn K (.ref C) "__setattr__" = some (some (.builtin "object.__setattr__"))
  o : plainOver K C = true
  a : takerIn K C name = some none
  d : hasDictIn K C = true
structure PropAttr (K : Frag) (C : Addr) (name : Str) (f : Addr) : Prop where
  g : plainGet K C name = true
  d : isClsIn K C = true
  a : ∃ p rest, findIn K (.ref C) name = some (some (.ref p)) ∧ specialIn K (.ref p) "__get__" = some (some (.builtin "property.__get__")) ∧ takesIn K (.ref p) = some true ∧ recIn K p "property" = some (.ref f :: rest)
structure MethAttr (K : Frag) (C : Addr) (name : Str) (f : Addr) : Prop where
  g : plainGet K C name = true
  a : findIn K (.ref C) name = some (some (.ref f))
  f : isFn K (.ref f) = true
structure ClsAttr (K : Frag) (C : Addr) (name : Str) (v : Value) : Prop where
  g : plainGet K C name = true
  d : hasDictIn K C = true
  a : findIn K (.ref C) name = some (some v)
  n : specialIn K v "__get__" = some none
  h : handedIn v = true
  c : copiedNames.contains name = false

theorem run_own {x C ox es n name v} {expr : Bool} {Q : Value → Loc → Led → Prop} (M : Fm K mg mb r A h₀ L) (I : Ins K nw x C ox (dictOf es n)) (a : OwnAttr K C name) (hl : getL name es = some (some v)) (hh : handedIn v = true) (h : Q v m nw) :
    Run prog w A h₀ L m nw (getAttr (.ref x) name expr) Q := fun os fx s hs => by
  obtain ⟨attr, h1, h2⟩ := a.a
  exact get_own hs.F M.gr.X (I.inst hs M) a.g a.d h1 h2 hl hh ⟨m, nw, hs.toks, h⟩
theorem run_slot {x C ox od i name v} {expr : Bool} {Q : Value → Loc → Led → Prop} (M : Fm K mg mb r A h₀ L) (I : Ins K nw x C ox od) (a : SlotAttr K C name i) (hv : (ox.slots[i]?).join = some v) (hh : handedIn v = true) (h : Q v m nw) :
    Run prog w A h₀ L m nw (getAttr (.ref x) name expr) Q := fun os fx s hs => by
  obtain ⟨p, h1, h2, h3, h4⟩ := a.a
  exact get_slot hs.F M.gr.X (I.inst hs M) a.g a.d h1 h2 h3 h4 hv hh ⟨m, nw, hs.toks, h⟩
theorem run_cls {x C ox es n name v} {expr : Bool} {Q : Value → Loc → Led → Prop} (M : Fm K mg mb r A h₀ L) (I : Ins K nw x C ox (dictOf es n)) (a : ClsAttr K C name v) (hl : getL name es = some none) (h : Q v m nw) :
    Run prog w A h₀ L m nw (getAttr (.ref x) name expr) Q := fun os fx s hs =>
  get_cls hs.F M.gr.X (I.inst hs M) a.g a.d a.a a.n a.h a.c hl ⟨m, nw, hs.toks, h⟩
theorem Fm.in1 (M : Fm K mg mb (r + 1) A h₀ L) : Fm K mg mb r A.in1 h₀ L := by
  obtain ⟨A₀, base, outer, fe, B, hA, hf, hke⟩ := M.below
  refine ⟨⟨A₀, base, outer, fe, B, hA, hf, hke⟩, M.hnd, M.gr, ?_, ?_⟩
  · have := M.room; show A.depth + r < recursionLimit; omega
  · have := M.units; show A.units + 1 + 30 * r < cLine; omega
theorem Fm.less {r'} (M : Fm K mg mb r A h₀ L) (h : r' ≤ r) : Fm K mg mb r' A h₀ L :=
  ⟨M.below, M.hnd, M.gr, by have := M.room; omega, by have := M.units; omega⟩
theorem run_prop {x C ox od f name d} {expr : Bool} {P : Value → Led → Prop} {Q : Value → Loc → Led → Prop} (M : Fm K mg mb r A h₀ L) (I : Ins K nw x C ox od) (a : PropAttr K C name f) (hf : Fn prog w K mg mb d (.ref f) [.ref x] nw P) (hd : d + 1 ≤ r)
    (k : ∀ v nw', P v nw' → handedIn v = true ∧ Q v m nw') : Run prog w A h₀ L m nw (getAttr (.ref x) name expr) Q := fun os fx s hs => by
  obtain ⟨p, rest, h1, h2, h3, h4⟩ := a.a
  obtain ⟨r', rfl⟩ : ∃ r', r = r' + 1 := ⟨r - 1, by omega⟩
  refine get_bind (hs.inK M) (I.inst hs M) (plainGet_of a.g).1 (findObj_data a.d h1 h2 h3) (plainGet_of a.g).2 (wpAny_call (prop_get (s := { s with toks := s.toks + 1 }) (hs.inK M) h4 (codeAny_mono (hf r' A.in1 h₀ L m os fx { s with toks := s.toks + 1 } (by omega) M.in1 hs.toks) fun res s' ⟨v, nw', e, x, y⟩ => ?_)))
  subst e
  obtain ⟨hh, q⟩ := k v nw' y
  exact handed_on hh ⟨m, nw', x, q⟩
theorem run_method {x C ox es n f name} {pl : Sem Bool} {Q : Value × List Value → Loc → Led → Prop} (M : Fm K mg mb r A h₀ L) (I : Ins K nw x C ox (dictOf es n)) (a : MethAttr K C name f) (hl : getL name es = some none) (h : Q (.ref f, [.ref x]) m nw) :
    Run prog w A h₀ L m nw (getMethod (.ref x) name pl) Q := fun os fx s hs =>
  method_inst hs.F M.gr.X (I.inst hs M) a.g a.a a.f hl ⟨m, nw, hs, h⟩
theorem run_set_slot {x C ox od i name v} {Q : Unit → Loc → Led → Prop} (M : Fm K mg mb r A h₀ L) (hx : (x, ox) ∈ nw) (I : Ins K nw x C ox od) (a : SlotSet K C name i) {ox' : Obj}
    (e : { ox with slots := (ox.slots ++ Array.replicate (i + 1 - ox.slots.size) none).setIfInBounds i (some v) } = ox') (hf : ox'.isFreed = false) (h : Q () m (setL nw x ox')) :
    Run prog w A h₀ L m nw (setAttr (.ref x) name v) Q := fun os fx s hs => by
  obtain ⟨p, h1, h2, h3⟩ := a.a
  have hn := hs.D
  rw [List.map_append] at hn
  obtain ⟨n1, n2, n3⟩ := List.nodup_append.mp hn
  have U : Upd x ox ox' (nw ++ fx) (setL nw x ox' ++ fx) := upd_append (setL_upd n1 hx) fun p hp e => n3 _ (List.mem_map_of_mem (f := (·.1)) hx) _ (List.mem_map_of_mem (f := (·.1)) hp) e.symm
  exact set_slot hs.F M.gr.X hs.N (I.inst hs M) a.s a.o h1 h2 h3 a.z e hf U fun h' F' N' => ⟨m, _, ⟨F', N', by rw [List.map_append, setL_keys, ← List.map_append]; exact hs.D, hs.os, hs.bare⟩, h⟩
theorem run_set_dict {x C ox es n dx name v} {Q : Unit → Loc → Led → Prop} (M : Fm K mg mb r A h₀ L) (hd : ox.dict = some dx) (hx : (dx, dictOf es n) ∈ nw) (I : Ins K nw x C ox (dictOf es n)) (a : DictSet K C name) (hl : (getL name es).isSome = true)
    (hz : es.length < 1000)
    (h : ∀ tk es' n', (putL name (PyData.keyHash w.params name) (.str name tk) v es, putN name es n) = (es', n') → Q () m (setL nw dx (dictOf es' n'))) :
    Run prog w A h₀ L m nw (setAttr (.ref x) name v) Q := fun os fx s hs => by
  have hn := hs.D
  rw [List.map_append] at hn
  obtain ⟨n1, n2, n3⟩ := List.nodup_append.mp hn
  have U := fun o' : Obj => (upd_append (setL_upd (o' := o') n1 hx) fun p hp e => n3 _ (List.mem_map_of_mem (f := (·.1)) hx) _ (List.mem_map_of_mem (f := (·.1)) hp) e.symm : Upd dx (dictOf es n) o' (nw ++ fx) (setL nw dx o' ++ fx))
  have hlen : ∀ hsh key, (putL name hsh key v es).length ≤ es.length + 1 := by
    intro hsh key
    have : ∀ es : List DictEntry, (putL name hsh key v es).length ≤ es.length + 1 := by
      intro es
      induction es with
      | nil => simp [putL]
      | cons e r ih => unfold putL; split <;> simp <;> omega
    exact this es
  refine set_dict hs.F M.gr.X hs.N (I.inst hs M) hd a.s a.o a.a a.d hl rfl (U _) (by have := hlen (PyData.keyHash w.params name) (.str name (s.toks + 1)); omega) fun h' F' N' => ⟨m, _, ⟨F', N', by rw [List.map_append, setL_keys, ← List.map_append]; exact hs.D, hs.os, hs.bare⟩, h (s.toks + 1) _ _ rfl⟩

/-- calls -/
theorem ex_call {func : Expr} {args : List Expr} {pos : Pos} {P Q : Value → Loc → Led → Prop} (hf : Ex prog w A h₀ L env m nw func P)
    (k : ∀ f m' nw', P f m' nw' → Run prog w A h₀ L m' nw' (callWith pos f [] (backTo pos (starEach args env)) []) Q)
    (he : eval (.Call func args [] pos) env = (do callWith pos (← eval func env) [] (backTo pos (starEach args env)) (backToKw pos (keywordEach [] env))) := by rfl) :
    Ex prog w A h₀ L env m nw (.Call func args [] pos) Q := fun os fx s hs => Call_ (hf.next k hs) he
theorem ex_method {o : Expr} {name : Str} {apos pos : Pos} {args : List Expr} {pl : Sem Bool} {P : Value → Loc → Led → Prop} {P2 : Value × List Value → Loc → Led → Prop} {Q : Value → Loc → Led → Prop} (ho : Ex prog w A h₀ L env m nw o P)
    (hm : ∀ ov m' nw', P ov m' nw' → Run prog w A h₀ L m' nw' (getMethod ov name pl) P2)
    (k : ∀ fx m' nw', P2 fx m' nw' → Run prog w A h₀ L m' nw' (callWith pos fx.1 fx.2 (backTo pos (starEach args env)) []) Q)
    (he : eval (.Call (.Attribute o name apos) args [] pos) env = (do
      let ov ← eval o env
      standAt apos.atName
      let (f, first) ← holding [ov] (getMethod ov name pl)
      callWith pos f first (backTo pos (starEach args env)) (backToKw pos (keywordEach [] env))) := by rfl) :
    Ex prog w A h₀ L env m nw (.Call (.Attribute o name apos) args [] pos) Q := fun os fx s hs =>
  methodCall_KW (wpAny_mono (ho os fx s hs) (fun ov s₁ ⟨m', nw', hs', hp⟩ => (hm ov m' nw' hp).next k hs') fun _ _ x => x) he
theorem cw_builtin {pos : Pos} {id : String} {first : List Value} {e : Expr} {rest : List Expr} {P : List Value → Loc → Led → Prop} {Q : Value → Loc → Led → Prop} (h : Run prog w A h₀ L m nw (spliced (backTo pos (starEach (e :: rest) env))) P)
    (k : ∀ vs m' nw', P vs m' nw' → Run prog w A h₀ L m' nw' (call (.builtin id) (first ++ vs)) Q)
    (he : starEach (e :: rest) env = (false, eval e env) :: starEach rest env := by rfl) (hplain : (backTo pos (starEach rest env)).any (·.1) = false := by rfl) :
    Run prog w A h₀ L m nw (callWith pos (.builtin id) first (backTo pos (starEach (e :: rest) env)) []) Q := by
  intro os fx s hs
  have h' := h.next k hs
  rw [he] at h' ⊢
  exact callWith_builtin (by show (false || (backTo pos (starEach rest env)).any (·.1)) = false; rw [hplain]; rfl) (evalArgs_plain h')
theorem cw_builtin0 {pos : Pos} {id : String} {first : List Value} {Q : Value → Loc → Led → Prop} (k : Run prog w A h₀ L m nw (call (.builtin id) first) Q) :
    Run prog w A h₀ L m nw (callWith pos (.builtin id) first (backTo pos (starEach [] env)) []) Q := fun os fx s hs =>
  callWith_builtin rfl (PySem.evalArgs_none (by rw [List.append_nil]; exact k os fx s hs))
theorem cw_type {pos : Pos} {T : String} {e : Expr} {rest : List Expr} {P : List Value → Loc → Led → Prop} {Q : Value → Loc → Led → Prop} (h : Run prog w A h₀ L m nw (spliced (backTo pos (starEach (e :: rest) env))) P)
    (k : ∀ vs m' nw', P vs m' nw' → Run prog w A h₀ L m' nw' (call (.type T) vs) Q)
    (he : starEach (e :: rest) env = (false, eval e env) :: starEach rest env := by rfl) (hplain : (backTo pos (starEach rest env)).any (·.1) = false := by rfl) :
    Run prog w A h₀ L m nw (callWith pos (.type T) [] (backTo pos (starEach (e :: rest) env)) []) Q := by
  intro os fx s hs
  exact PyProof.Rows.callWith_type1 (h.next k hs) he hplain
theorem cw_K {pos : Pos} {f : Value} {first : List Value} {e : Expr} {rest : List Expr} {P : List Value → Loc → Led → Prop} {Q : Value → Loc → Led → Prop} (M : Fm K mg mb r A h₀ L) (hk : keepIn K f = true) (h : Run prog w A h₀ L m nw (spliced (backTo pos (starEach (e :: rest) env))) P)
    (k : ∀ vs m' nw', P vs m' nw' → Run prog w A h₀ L m' nw' (call f (first ++ vs)) Q)
    (he : starEach (e :: rest) env = (false, eval e env) :: starEach rest env := by rfl) (hplain : (backTo pos (starEach rest env)).any (·.1) = false := by rfl) :
    Run prog w A h₀ L m nw (callWith pos f first (backTo pos (starEach (e :: rest) env)) []) Q := by
  intro os fx s hs
  exact callWith_K M.gr.X hk (wpAny_mono (h os fx s hs) (fun vs s₁ ⟨m', nw', hs', hp⟩ => ⟨hs'.inK M, k vs m' nw' hp os fx s₁ hs'⟩) fun _ _ x => x) he hplain
theorem cw_K0 {pos : Pos} {f : Value} {first : List Value} {Q : Value → Loc → Led → Prop} (M : Fm K mg mb r A h₀ L) (hk : keepIn K f = true)
    (k : Run prog w A h₀ L m nw (call f first) Q) : Run prog w A h₀ L m nw (callWith pos f first (backTo pos (starEach [] env)) []) Q := by
  intro os fx s hs
  exact callWith_K0 (hs.inK M) hk (by rw [List.append_nil]; exact k os fx s hs)
end
end Mine

-- B5
open PySem PySem.W PySem.Calls PyProof.Rows
set_option maxRecDepth 100000
set_option linter.unusedVariables false
namespace Mine
section
variable {prog : Program} {w : World} {A : Around} {h₀ : Heap} {L : Addr} {α β : Type} {m : Loc} {nw : Led} {K : Frag} {mg mb : Loc} {r : Nat} {env : Env}

theorem St.fixed {os fx s p} (hs : St h₀ L os m nw fx s) (hp : p ∈ fx) : s.heap.get? p.1 = some p.2 ∧ p.1 ≠ L ∧ h₀.get? p.1 = none := hs.N p (List.mem_append_right _ hp)
theorem St.apart {os fx s p q} (hs : St h₀ L os m nw fx s) (hp : p ∈ nw) (hq : q ∈ fx) : p.1 ≠ q.1 := by
  have := hs.D
  rw [List.map_append] at this
  exact (List.nodup_append.mp this).2.2 _ (List.mem_map_of_mem (f := (·.1)) hp) _ (List.mem_map_of_mem (f := (·.1)) hq)
theorem St.touch {os fx s I o o' h' tk} (hs : St h₀ L os m nw ((I, o) :: fx) s) (hsb : Heap.SameBut I s.heap h') (ho : h'.get? I = some o') : St h₀ L os m nw ((I, o') :: fx) { s with heap := h', toks := tk } := by
  obtain ⟨_, hL, h0⟩ := hs.fixed (.head _)
  have hD := hs.D
  have hne : ∀ p ∈ nw ++ fx, p.1 ≠ I := by
    intro p hp
    rcases List.mem_append.mp hp with h | h
    · exact hs.apart h (.head _)
    · rw [List.map_append, List.map_cons] at hD
      have := (List.nodup_append.mp hD).2.1
      rw [List.nodup_cons] at this
      exact fun e => this.1 (e ▸ List.mem_map_of_mem (f := (·.1)) h)
  refine ⟨hs.F.change hsb hL h0, fun p hp => ?_, ?_, hs.os, hs.bare⟩
  · rcases List.mem_append.mp hp with h | h
    · exact ⟨(hsb.2 _ (hne p (List.mem_append_left _ h))).trans (hs.N p (List.mem_append_left _ h)).1, (hs.N p (List.mem_append_left _ h)).2⟩
    · rcases List.mem_cons.mp h with rfl | h
      · exact ⟨ho, hL, h0⟩
      · have q := hs.N p (List.mem_append_right _ (.tail _ h))
        exact ⟨(hsb.2 _ (hne p (List.mem_append_right _ h))).trans q.1, q.2⟩
  · simpa only [List.map_append, List.map_cons] using hD
theorem St.drop {os fx s I o} (hs : St h₀ L os m nw ((I, o) :: fx) s) : St h₀ L os m nw fx s := by
  refine ⟨hs.F, fun p hp => hs.N p ?_, ?_, hs.os, hs.bare⟩
  · exact (List.mem_append.mp hp).elim (List.mem_append_left _) fun h => List.mem_append_right _ (.tail _ h)
  · have := hs.D
    rw [List.map_append, List.map_cons] at this
    rw [List.map_append]
    exact this.sublist (List.Sublist.append (List.Sublist.refl _) (List.sublist_cons_self _ _))
theorem St.ext {os fx s I o h' tk} (hs : St h₀ L os m nw ((I, o) :: fx) s) (he : Heap.ExtBut I s.heap h') : St h₀ L os m nw fx { s with heap := h', toks := tk } := by
  obtain ⟨_, hL, h0⟩ := hs.fixed (.head _)
  have hD := hs.D
  have hne : ∀ p ∈ nw ++ fx, p.1 ≠ I := by
    intro p hp
    rcases List.mem_append.mp hp with h | h
    · exact hs.apart h (.head _)
    · rw [List.map_append, List.map_cons] at hD
      have := (List.nodup_append.mp hD).2.1
      rw [List.nodup_cons] at this
      exact fun e => this.1 (e ▸ List.mem_map_of_mem (f := (·.1)) h)
  have d := hs.drop
  refine ⟨⟨d.F.ns.extBut he hL.symm, fun b x e => he b x (fun q => by rw [q, h0] at e; cases e) (d.F.keep b x e), d.F.above⟩, fun p hp => ⟨he _ _ (hne p hp) (d.N p hp).1, (d.N p hp).2⟩, d.D, d.os, d.bare⟩
theorem St.grow {os fx s h' tk} (hs : St h₀ L os m nw fx s) (k : ∀ b o, s.heap.get? b = some o → h'.get? b = some o) : St h₀ L os m nw fx { s with heap := h', toks := tk } :=
  ⟨hs.F.grownK k, hs.N.grown k, hs.D, hs.os, hs.bare⟩
theorem St.fix {os fx s I o} (hs : St h₀ L os m ((I, o) :: nw) fx s) : St h₀ L os m nw ((I, o) :: fx) s := by
  have e : List.Perm ((I, o) :: (nw ++ fx)) (nw ++ (I, o) :: fx) := List.perm_middle.symm
  refine ⟨hs.F, fun p hp => hs.N p (e.mem_iff.mpr hp), ?_, hs.os, hs.bare⟩
  exact (List.Perm.nodup_iff (e.map (·.1))).mp hs.D
theorem St.unfix {os fx s I o} (hs : St h₀ L os m nw ((I, o) :: fx) s) : St h₀ L os m ((I, o) :: nw) fx s := by
  have e : List.Perm ((I, o) :: (nw ++ fx)) (nw ++ (I, o) :: fx) := List.perm_middle.symm
  refine ⟨hs.F, fun p hp => hs.N p (e.mem_iff.mp hp), ?_, hs.os, hs.bare⟩
  exact (List.Perm.nodup_iff (e.map (·.1))).mpr hs.D
/-- one entry of the ledger turned -/
theorem St.set {os fx s d o o' h' tk} (hs : St h₀ L os m nw fx s) (hm : (d, o) ∈ nw) (hsb : Heap.SameBut d s.heap h') (ho : h'.get? d = some o') : St h₀ L os m (setL nw d o') fx { s with heap := h', toks := tk } := by
  have z := hs.N _ (List.mem_append_left _ hm)
  have hn := hs.D
  rw [List.map_append] at hn
  obtain ⟨n1, n2, n3⟩ := List.nodup_append.mp hn
  have U : Upd d o o' (nw ++ fx) (setL nw d o' ++ fx) := upd_append (setL_upd n1 hm) fun p hp e => n3 _ (List.mem_map_of_mem (f := (·.1)) hm) _ (List.mem_map_of_mem (f := (·.1)) hp) e.symm
  obtain ⟨pre, post, e1, e2, a, b⟩ := U.split
  have N := hs.N
  rw [e1] at N
  refine ⟨hs.F.change hsb z.2.1 z.2.2, ?_, ?_, hs.os, hs.bare⟩
  · rw [e2]; exact news_set N a b hsb ho
  · rw [List.map_append, setL_keys, ← List.map_append]; exact hs.D

/-- what an iterator does -/
structure Stepper (prog : Program) (w : World) (A : Around) (It : Nat → Obj → Prop) (n : Nat) (V : Nat → Value → Prop) (need : Led → Prop) : Prop where
  item : ∀ i h₀ L os m nw fx s I o Q, i < n → St h₀ L os m nw ((I, o) :: fx) s → It i o → need nw → (∀ v o' s', V i v → It (i + 1) o' → St h₀ L os m nw ((I, o') :: fx) s' → Q (some v) s') → wpAny (model prog w) A (pyNext (.ref I)) Q (fun _ _ => False) s
  done : ∀ h₀ L os m nw fx s I o Q, St h₀ L os m nw ((I, o) :: fx) s → It n o → need nw → (∀ s', St h₀ L os m nw fx s' → Q none s') → wpAny (model prog w) A (pyNext (.ref I)) Q (fun _ _ => False) s

theorem stepper_list {l : Addr} {items : Array Value} (hh : A.handled = none) : Stepper prog w A (fun i o => o.cls = .type "list_iterator" ∧ o.data = .fields #[.ref l, .int i 0]) items.size (fun i v => items[i]? = some v) (fun nw => ∃ lo n, (l, lo) ∈ nw ∧ lo.cls = .type "list" ∧ lo.data = .seq items n) where
  item := fun i h₀ L os m nw fx s I o Q hi hs ho ⟨lo, n, hl, hc, hd⟩ hQ => by
    refine wpAny_pyNext_list_item ⟨o, (hs.fixed (.head _)).1, ho.1, ho.2⟩ ⟨lo, hs.get hl, hc, n, hd⟩ (x := items[i]) (by simp [hi]) fun h' hit hsb => ?_
    obtain ⟨o', ho', c', d'⟩ := hit
    exact hQ _ o' { s with heap := h' } (by simp [hi]) ⟨c', d'⟩ (hs.touch (tk := s.toks) hsb ho')
  done := fun h₀ L os m nw fx s I o Q hs ho ⟨lo, n, hl, hc, hd⟩ hQ => by
    refine wpAny_pyNext_list_end hh ⟨o, (hs.fixed (.head _)).1, ho.1, ho.2⟩ ⟨lo, hs.get hl, hc, n, hd⟩ (by simp) fun h' he => ?_
    exact hQ _ (hs.ext (tk := s.toks) he)
theorem stepper_tuple {l : Addr} {items : Array Value} (hh : A.handled = none) : Stepper prog w A (fun i o => o.cls = .type "tuple_iterator" ∧ o.data = .fields #[.ref l, .int i 0]) items.size (fun i v => items[i]? = some v) (fun nw => ∃ lo n, (l, lo) ∈ nw ∧ lo.cls = .type "tuple" ∧ lo.data = .seq items n) where
  item := fun i h₀ L os m nw fx s I o Q hi hs ho ⟨lo, n, hl, hc, hd⟩ hQ => by
    refine wpAny_pyNext_tuple_item ⟨o, (hs.fixed (.head _)).1, ho.1, ho.2⟩ ⟨lo, hs.get hl, hc, n, hd⟩ (x := items[i]) (by simp [hi]) fun h' hit hsb => ?_
    obtain ⟨o', ho', c', d'⟩ := hit
    exact hQ _ o' { s with heap := h' } (by simp [hi]) ⟨c', d'⟩ (hs.touch (tk := s.toks) hsb ho')
  done := fun h₀ L os m nw fx s I o Q hs ho ⟨lo, n, hl, hc, hd⟩ hQ => by
    refine wpAny_pyNext_tuple_end hh ⟨o, (hs.fixed (.head _)).1, ho.1, ho.2⟩ ⟨lo, hs.get hl, hc, n, hd⟩ (by simp) fun h' he => ?_
    exact hQ _ (hs.ext (tk := s.toks) he)
theorem stepper_range {n : Nat} (hh : A.handled = none) : Stepper prog w A (fun i o => o = { cls := .type "range_iterator", dict := none, data := .fields #[rawInt (i : Int), rawInt ((n : Int) - i), rawInt 1], slots := #[] }) n (fun i v => ∃ t, v = .int i t) (fun _ => True) where
  item := fun i h₀ L os m nw fx s I o Q hi hs ho _ hQ => by
    subst ho
    refine wpAny_pyNext_range_item (x := i) (left := (n : Int) - i) (step := 1) (hs.fixed (.head _)).1 (by omega) fun h' hit hsb => ?_
    refine hQ _ _ _ ⟨_, rfl⟩ ?_ (hs.touch (tk := s.toks + 1) hsb hit)
    simp only [Int.natCast_add, Int.natCast_one]
    rw [show (n : Int) - i - 1 = n - (i + 1) by omega]
  done := fun h₀ L os m nw fx s I o Q hs ho _ hQ => by
    subst ho
    refine wpAny_pyNext_range_end hh (x := n) (left := (n : Int) - n) (step := 1) (hs.fixed (.head _)).1 (by omega) fun h' he => ?_
    exact hQ _ (hs.ext (tk := s.toks) he)

/-- for x in iter: body -/
theorem sx_for {x : Str} {px : Pos} {iter : Expr} {body : List Stmt} {pos : Pos} {rest : List Stmt} {P : Value → Loc → Led → Prop} {R : Flow → Loc → Led → Prop} {It : Value → Nat → Obj → Prop} {n : Value → Nat} {V : Value → Nat → Value → Prop} {need : Value → Led → Prop} (J : Value → Nat → Loc → Led → Prop)
    (hl : env.locals = L) (hk : env.scope.kind = .function) (hx : env.kindOf x = some .local) (hiter : Ex prog w A h₀ L env m nw iter P)
    (hstart : ∀ v m' nw' os fx s Q, P v m' nw' → St h₀ L os m' nw' fx s → (∀ I o s', It v 0 o → St h₀ L os m' nw' ((I, o) :: fx) s' → Q (.ref I) s') → wpAny (model prog w) A (pyIter v) Q (fun _ _ => False) s)
    (W : ∀ v m' nw', P v m' nw' → Stepper prog w A (It v) (n v) (V v) (need v))
    (h0 : ∀ v m' nw', P v m' nw' → J v 0 m' nw') (hneed : ∀ v i m' nw', J v i m' nw' → need v nw')
    (turn : ∀ v i u m₁ nw₁, i < n v → V v i u → J v i m₁ nw₁ → Sx prog w A h₀ L env (upd m₁ x u) nw₁ body (fun f m' nw' => match f with | .next => J v (i + 1) m' nw' | .cont => J v (i + 1) m' nw' | .brk => Co prog w A h₀ L env rest R .next m' nw' | .ret u => R (.ret u) m' nw'))
    (done : ∀ v m' nw', J v (n v) m' nw' → Sx prog w A h₀ L env m' nw' rest R)
    (hs : ∀ x, foldedSetIterable iter env x = pure x := by intro _; rfl) :
    Sx prog w A h₀ L env m nw (.For (.Name x px) iter body [] pos :: rest) R := by
  refine sx_cons fun os fx s hst => wpAny_For (wpAny_mono (hiter os fx s hst) (fun v s₁ ⟨m', nw', hs', hp⟩ => ?_) fun _ _ e => e.elim) hs
  refine wpAny_mono (hstart v m' nw' os fx s₁ (fun it s₂ => ∃ I o, it = .ref I ∧ It v 0 o ∧ St h₀ L os m' nw' ((I, o) :: fx) s₂) hp hs' fun I o s' hi hs2 => ⟨I, o, rfl, hi, hs2⟩) (fun it s₂ h₂ => ?_) fun _ _ e => e.elim
  obtain ⟨I, o, rfl, hi0, hs2⟩ := h₂
  refine codeAny_forLoop (fun k s' => ∃ i m₁ nw₁ o, St h₀ L os m₁ nw₁ ((I, o) :: fx) s' ∧ It v i o ∧ J v i m₁ nw₁ ∧ i ≤ n v ∧ k = n v + 1 - i) ?_ (n v + 1) ⟨0, m', nw', o, hs2, hi0, h0 v m' nw' hp, Nat.zero_le _, rfl⟩
  rintro k s' ⟨i, m₁, nw₁, o₁, hs₁, hi₁, hJ, hle, rfl⟩
  by_cases hlt : i < n v
  · refine wpAny_noRaise ((W v m' nw' hp).item i h₀ L os m₁ nw₁ fx s' I o₁ _ hlt hs₁ hi₁ (hneed v i m₁ nw₁ hJ) fun u o' s₃ hv ho' hs₃ => ?_)
    refine wpAny_noRaise (wpAny_assign_Name ?_)
    have h3 := (run_store (prog := prog) (w := w) (A := A) (h₀ := h₀) (L := L) (m := m₁) (nw := nw₁) (x := x) (v := u) (Q := fun _ m nw => m = upd m₁ x u ∧ nw = nw₁) hl hk hx ⟨rfl, rfl⟩) os _ s₃ hs₃
    refine wpAny_mono h3 (fun _ s₄ ⟨m₄, nw₄, hs₄, e1, e2⟩ => ?_) fun _ _ e => e.elim
    subst e1; subst e2
    refine wpAny_noRaise (wpAny_mono (turn v i u m₁ nw₄ hlt hv hJ os _ s₄ hs₄) (fun f s₅ ⟨m₅, nw₅, hs₅, hf⟩ => ?_) fun _ _ e => e)
    cases f with
    | next => exact ⟨n v + 1 - (i + 1), by omega, i + 1, m₅, nw₅, o', hs₅, ho', hf, hlt, rfl⟩
    | cont => exact ⟨n v + 1 - (i + 1), by omega, i + 1, m₅, nw₅, o', hs₅, ho', hf, hlt, rfl⟩
    | brk => exact ⟨m₅, nw₅, hs₅.drop, hf⟩
    | ret u => exact ⟨m₅, nw₅, hs₅.drop, hf⟩
  · have e : i = n v := by omega
    subst e
    refine wpAny_noRaise ((W v m' nw' hp).done h₀ L os m₁ nw₁ fx s' I o₁ _ hs₁ hi₁ (hneed v _ m₁ nw₁ hJ) fun s₃ hs₃ => ?_)
    exact wpAny_execs_nil ⟨m₁, nw₁, hs₃, done v m₁ nw₁ hJ⟩
theorem start_list {l : Addr} {items : Array Value} {lo : Obj} {k : Nat} (hl : (l, lo) ∈ nw) (hc : lo.cls = .type "list") (hd : lo.data = .seq items k) {os fx s Q} (hs : St h₀ L os m nw fx s)
    (h : ∀ I o s', (o.cls = .type "list_iterator" ∧ o.data = .fields #[.ref l, .int ((0 : Nat) : Int) 0]) → St h₀ L os m nw ((I, o) :: fx) s' → Q (.ref I) s') : wpAny (model prog w) A (pyIter (.ref l)) Q (fun _ _ => False) s :=
  wpAny_pyIter_list ⟨lo, hs.get hl, hc, k, hd⟩ (h _ _ _ ⟨rfl, rfl⟩ (hs.push _ rfl).fix)
theorem start_tuple {l : Addr} {items : Array Value} {lo : Obj} {k : Nat} (hl : (l, lo) ∈ nw) (hc : lo.cls = .type "tuple") (hd : lo.data = .seq items k) {os fx s Q} (hs : St h₀ L os m nw fx s)
    (h : ∀ I o s', (o.cls = .type "tuple_iterator" ∧ o.data = .fields #[.ref l, .int ((0 : Nat) : Int) 0]) → St h₀ L os m nw ((I, o) :: fx) s' → Q (.ref I) s') : wpAny (model prog w) A (pyIter (.ref l)) Q (fun _ _ => False) s :=
  wpAny_pyIter_tuple ⟨lo, hs.get hl, hc, k, hd⟩ (h _ _ _ ⟨rfl, rfl⟩ (hs.push _ rfl).fix)
abbrev rangeO (n : Int) (t u v : Tok) : Obj := { cls := .type "range", dict := none, data := .fields #[.int 0 t, .int n u, .int 1 v], slots := #[] }
theorem start_range {l : Addr} {n : Nat} {t u v : Tok} (hl : (l, rangeO n t u v) ∈ nw) (hn : n < 2 ^ 40) {os fx s Q} (hs : St h₀ L os m nw fx s)
    (h : ∀ I o s', o = ({ cls := .type "range_iterator", dict := none, data := .fields #[rawInt ((0 : Nat) : Int), rawInt ((n : Int) - ((0 : Nat) : Int)), rawInt 1], slots := #[] } : Obj) → St h₀ L os m nw ((I, o) :: fx) s' → Q (.ref I) s') : wpAny (model prog w) A (pyIter (.ref l)) Q (fun _ _ => False) s := by
  refine wpAny_pyIter_range (hs.get hl) (small_one (by decide) (by decide) (by omega) (by omega)) (h _ _ _ ?_ (hs.push _ rfl).fix)
  rw [rangeSize_one]
  congr 4
  simp only [Int.natCast_zero, Int.sub_zero]
  by_cases e : (0 : Int) < n
  · rw [if_pos e]
  · rw [if_neg e]; rw [show (n : Int) = 0 by omega]
end
end Mine

-- B6
open PySem PySem.W PySem.Calls PyProof.Rows
set_option maxRecDepth 100000
set_option linter.unusedVariables false
namespace Mine
/-- the keys of the paths -/
inductive Key where
  | a | b | c | d | z | y
  deriving DecidableEq
def Key.str : Key → Str
  | .a => "a" | .b => "b" | .c => "c" | .d => "d" | .z => "" | .y => "z"
def Key.val : Key → Tok → Value
  | .a, t => .str "a" t | .b, t => .str "b" t | .c, t => .str "c" t | .d, t => .str "d" t | .z, t => .int 0 t | .y, t => .str "z" t
def Key.data : Key → PyData
  | .a => .str "a" | .b => .str "b" | .c => .str "c" | .d => .str "d" | .z => .int 0 | .y => .str "z"
def vkey : Value → Option Key
  | .str s _ => if s = "a" then some .a else if s = "b" then some .b else if s = "c" then some .c else if s = "d" then some .d else if s = "z" then some .y else none
  | .int i _ => if i = 0 then some .z else none
  | _ => none
theorem vkey_val (k : Key) (t : Tok) : vkey (k.val t) = some k := by cases k <;> rfl
theorem vkey_of {v : Value} {k : Key} (h : vkey v = some k) : ∃ t, v = k.val t := by
  unfold vkey at h
  split at h
  · rename_i s t
    split at h
    · cases h; subst_vars; exact ⟨t, rfl⟩
    split at h
    · cases h; subst_vars; exact ⟨t, rfl⟩
    split at h
    · cases h; subst_vars; exact ⟨t, rfl⟩
    split at h
    · cases h; subst_vars; exact ⟨t, rfl⟩
    split at h
    · cases h; subst_vars; exact ⟨t, rfl⟩
    · cases h
  · split at h
    · cases h; subst_vars; exact ⟨_, rfl⟩
    · cases h
  · cases h
abbrev KVs (items : List Value) (p : List Key) : Prop := items.map vkey = p.map some
theorem KVs.length {items p} (h : KVs items p) : items.length = p.length := by have := congrArg List.length h; simpa using this
theorem KVs.get {items : List Value} {p : List Key} (h : KVs items p) {i : Nat} {v : Value} (hv : items[i]? = some v) : ∃ k, p[i]? = some k ∧ vkey v = some k := by
  have h1 : (items.map vkey)[i]? = some (vkey v) := by rw [List.getElem?_map, hv]; rfl
  have h2 : (items.map vkey)[i]? = (p.map some)[i]? := by rw [h]
  rw [h1, List.getElem?_map] at h2
  cases e : p[i]? with
  | none => rw [e] at h2; cases h2
  | some k => rw [e] at h2; exact ⟨k, rfl, Option.some.inj h2⟩
theorem KVs.take {items p} (h : KVs items p) (n : Nat) : KVs (items.take n) (p.take n) := by
  show (items.take n).map vkey = (p.take n).map some
  rw [List.map_take, List.map_take, h]
theorem KVs.append {items p items' p'} (h : KVs items p) (h' : KVs items' p') : KVs (items ++ items') (p ++ p') := by
  show (items ++ items').map vkey = (p ++ p').map some
  rw [List.map_append, List.map_append, h, h']
theorem KVs.key {k : Key} {v : Value} (h : vkey v = some k) : KVs [v] [k] := by show [vkey v] = [some k]; rw [h]
theorem Key.reads {h : Heap} {v : Value} {k : Key} (e : vkey v = some k) : PySem.Reads h v k.data [] := by
  obtain ⟨t, rfl⟩ := vkey_of e
  cases k <;> first | exact .str _ _ | exact .int _ _
theorem KVs.readsAll {h : Heap} : ∀ {items : List Value} {p : List Key}, KVs items p → ReadsAll h items (p.map Key.data) []
  | [], [], _ => .nil
  | v :: vs, k :: ks, e => by
    have e1 := (List.cons.inj e).1
    have e2 : KVs vs ks := (List.cons.inj e).2
    exact readsAll_cons_val (Key.reads e1) e2.readsAll
  | [], _ :: _, e => by cases e
  | _ :: _, [], e => by cases e
def pd (p : List Key) : PyData := .tuple (p.map Key.data)
theorem key_eqv (k k' : Key) : PyData.eqv k.data k'.data = decide (k = k') := by cases k <;> cases k' <;> rfl
theorem keys_eqv : ∀ p q : List Key, PyData.eqvAll (p.map Key.data) (q.map Key.data) = decide (p = q)
  | [], [] => by simp [PyData.eqvAll]
  | [], _ :: _ => by simp [PyData.eqvAll]
  | _ :: _, [] => by simp [PyData.eqvAll]
  | a :: r, b :: t => by
    simp only [List.map_cons, PyData.eqvAll, key_eqv, keys_eqv r t]
    by_cases h : a = b <;> by_cases h' : r = t <;> simp [h, h']
theorem pd_eqv (p q : List Key) : PyData.eqv (pd p) (pd q) = decide (p = q) := by
  unfold pd
  rw [PyData.eqv, keys_eqv]
theorem key_canLay (k : Key) : k.data.canLay0 = true ∧ k.data.depth = 0 := by cases k <;> exact ⟨by decide +kernel, rfl⟩
theorem keys_canLay : ∀ p : List Key, PyData.canLayAll0 (p.map Key.data) = true ∧ PyData.depthAll (p.map Key.data) = 0
  | [] => ⟨rfl, rfl⟩
  | k :: ks => by
    have h1 := key_canLay k
    have h2 := keys_canLay ks
    simp only [List.map_cons, PyData.canLayAll0, PyData.depthAll, h1.1, h2.1, h1.2, h2.2]
    exact ⟨rfl, rfl⟩
theorem pd_shaped (p : List Key) : SeqAt.shaped (pd p) = true := by
  have := keys_canLay p
  simp only [SeqAt.shaped, pd, PyData.canLay0, PyData.depth, this.1, this.2, Bool.true_and, decide_eq_true_eq]
  decide

/-- a path in the ledger -/
def PathAt (nw : Led) (a : Addr) (p : List Key) : Prop := ∃ items n, (a, tupO items n) ∈ nw ∧ KVs items p
theorem PathAt.keep {nw nw' : Led} {W a p} (h : PathAt nw a p) (k : Kp W nw nw') (ha : a ∉ W) : PathAt nw' a p :=
  let ⟨items, n, hm, hk⟩ := h; ⟨items, n, k _ hm ha, hk⟩
theorem PathAt.keep0 {nw nw' : Led} {a p} (h : PathAt nw a p) (k : Kp [] nw nw') : PathAt nw' a p := h.keep k (fun q => nomatch q)

section
variable {prog : Program} {w : World} {A : Around} {h₀ : Heap} {L : Addr} {α β : Type} {m : Loc} {nw : Led} {K : Frag} {mg mb : Loc} {r : Nat} {env : Env}

theorem PathAt.reads {os fx s a p} (h : PathAt nw a p) (hs : St h₀ L os m nw fx s) : PySem.Reads s.heap (.ref a) (pd p) [] := by
  obtain ⟨items, n, hm, hk⟩ := h
  exact reads_tuple_at (hs.get hm) rfl rfl (by simpa using hk.readsAll)
theorem run_eq_path {a b : Addr} {p q : List Key} {Q : Value → Loc → Led → Prop} (M : Fm K mg mb (r + 3) A h₀ L) (ha : PathAt nw a p) (hb : PathAt nw b q) (h : Q (.bool (decide (p = q))) m nw) : Run prog w A h₀ L m nw (compareOp .Eq (.ref a) (.ref b)) Q := fun os fx s hs =>
  eq_dataH (ha.reads hs) (hb.reads hs) (pd_shaped p) (pd_shaped q) (by have := M.units; omega) (by rw [pd_eqv]; exact ⟨m, nw, hs, h⟩)
theorem run_ne_path {a b : Addr} {p q : List Key} {Q : Value → Loc → Led → Prop} (M : Fm K mg mb (r + 3) A h₀ L) (ha : PathAt nw a p) (hb : PathAt nw b q) (h : Q (.bool (!decide (p = q))) m nw) : Run prog w A h₀ L m nw (compareOp .NotEq (.ref a) (.ref b)) Q := fun os fx s hs =>
  ne_dataH (ha.reads hs) (hb.reads hs) (pd_shaped p) (pd_shaped q) (by have := M.units; omega) (by rw [pd_eqv]; exact ⟨m, nw, hs, h⟩)
theorem run_eq_key {u v : Value} {k k' : Key} {Q : Value → Loc → Led → Prop} (M : Fm K mg mb (r + 3) A h₀ L) (hu : vkey u = some k) (hv : vkey v = some k') (h : Q (.bool (decide (k = k'))) m nw) : Run prog w A h₀ L m nw (compareOp .Eq u v) Q := fun os fx s hs =>
  eq_dataH (Key.reads hu) (Key.reads hv) (by cases k <;> decide +kernel) (by cases k' <;> decide +kernel) (by have := M.units; omega) (by rw [key_eqv]; exact ⟨m, nw, hs, h⟩)
theorem run_lt_int {a b : Int} {t u : Tok} {Q : Value → Loc → Led → Prop} (h : Q (.bool (decide (a < b))) m nw) : Run prog w A h₀ L m nw (compareOp .Lt (.int a t) (.int b u)) Q := fun os fx s hs => PyProof.Rows.lt_int ⟨m, nw, hs, h⟩
theorem run_eq_int {a b : Int} {t u : Tok} {Q : Value → Loc → Led → Prop} (h : Q (.bool (a == b)) m nw) : Run prog w A h₀ L m nw (compareOp .Eq (.int a t) (.int b u)) Q := fun os fx s hs => PyProof.Rows.eq_int ⟨m, nw, hs, h⟩
theorem run_lt_str {a b : Str} {t u : Tok} {Q : Value → Loc → Led → Prop} (h : ∀ x, Q (.bool x) m nw) : Run prog w A h₀ L m nw (compareOp .Lt (.str a t) (.str b u)) Q := fun os fx s hs => PyProof.Rows.lt_str ⟨m, nw, hs, h _⟩
theorem run_len_tuple {a : Addr} {items : List Value} {n : Nat} {Q : Value → Loc → Led → Prop} (ha : (a, tupO items n) ∈ nw) (hz : items.length < 2 ^ 24) (h : ∀ t, Q (.int items.length t) m nw) : Run prog w A h₀ L m nw (call (.builtin "len") [.ref a]) Q := fun os fx s hs =>
  PyProof.Rows.len_tuple (items := items.toArray) ⟨_, hs.get ha, rfl, n, rfl⟩ (by simp; omega) ⟨m, nw, hs.toks, by simpa using h _⟩
theorem run_min {a b : Int} {t u : Tok} {Q : Value → Loc → Led → Prop} (hh : A.handled = none) (h : ∀ t, Q (.int (if b < a then b else a) t) m nw) : Run prog w A h₀ L m nw (call (.builtin "min") [.int a t, .int b u]) Q := fun os fx s hs =>
  min_two_N hh hs.F hs.N fun h' tk F' N' => ⟨m, nw, ⟨F', N', hs.D, hs.os, hs.bare⟩, h _⟩
theorem ex_sub {value slice : Expr} {pos : Pos} {P : Value → Loc → Led → Prop} {P2 : Value → Value → Loc → Led → Prop} {Q : Value → Loc → Led → Prop} (hv : Ex prog w A h₀ L env m nw value P) (hs : ∀ o m' nw', P o m' nw' → Ex prog w A h₀ L env m' nw' slice (P2 o))
    (k : ∀ o i m' nw', P2 o i m' nw' → Run prog w A h₀ L m' nw' (subscriptTail value slice o i) Q) : Ex prog w A h₀ L env m nw (.Subscript value slice pos) Q :=
  fun os fx s hst => Subscript_ (wpAny_mono (hv os fx s hst) (fun o s₁ ⟨m', nw', hs', hp⟩ => (hs o m' nw' hp).next (fun i m'' nw'' h2 => k o i m'' nw'' h2) hs') fun _ _ x => x)
theorem run_item_tuple {value slice : Expr} {a : Addr} {items : List Value} {n : Nat} {k : Int} {u : Tok} {x : Value} {Q : Value → Loc → Led → Prop} (ha : (a, tupO items n) ∈ nw) (h0 : 0 ≤ k) (h1 : k < 2 ^ 30) (hx : items[k.toNat]? = some x) (h : Q x m nw)
    (hs : subscripted slice false (.ref a) (.int k u) = operate [.ref a, .int k u] (getItem (.ref a) (.int k u)) := by with_unfolding_all rfl) : Run prog w A h₀ L m nw (subscriptTail value slice (.ref a) (.int k u)) Q := fun os fx s hst => by
  have hlt : k.toNat < items.length := (List.getElem?_eq_some_iff.mp hx).1
  refine item_tupleT (l := items) ⟨_, hst.get ha, rfl, n, rfl⟩ (by omega) (by omega) (j := k.toNat) ?_ hx ⟨m, nw, hst, h⟩ hs
  unfold seqIndex?
  simp only [show ¬ (k < 0) by omega, if_false]
  first | (rw [if_pos (by simp; omega)]) | (simp; omega)
abbrev sliceO (l u s : Value) : Obj := { cls := .type "slice", data := .fields #[l, u, s] }
theorem ex_slice_to {e : Expr} {p : Pos} {P Q : Value → Loc → Led → Prop} (h : Ex prog w A h₀ L env m nw e P) (k : ∀ v m' nw' a, P v m' nw' → Q (.ref a) m' ((a, sliceO .none v .none) :: nw')) : Ex prog w A h₀ L env m nw (.Slice none (some e) none p) Q := fun os fx s hs =>
  wpAny_Slice (by rw [evalPart_none, evalPart_some]; exact wpAny_pure (wpAny_mono (h os fx s hs) (fun v s₁ ⟨m', nw', hs', hp⟩ => wpAny_pure ⟨m', _, hs'.push _ rfl, k v m' nw' _ hp⟩) fun _ _ x => x))
theorem adjust_to (a n : Nat) (ha : a ≤ n) : Builtin.Slice.sliceAdjust none (some (a : Int)) 1 (n : Int) = ((0 : Int), (a : Int)) := by
  unfold Builtin.Slice.sliceAdjust
  have h1 : ¬ ((1 : Int) < 0) := by omega
  have h2 : ¬ ((a : Int) < 0) := by omega
  simp only [h1, h2, if_false]
  congr 1
  omega
theorem places_to (a : Nat) : Builtin.Slice.slicePlaces 0 (a : Int) 1 = a := by
  unfold Builtin.Slice.slicePlaces
  simp only [show (1 : Int) > 0 by omega, if_true, Int.ediv_one]
  split <;> omega
theorem applied_to {s : Shared} {E : Value → Shared → Prop} {sl : Addr} {a n : Nat} {u : Tok} {Q : Int × Int × Nat → Shared → Prop} (hs : s.heap.IsSliceOf sl .none (.int a u) .none) (ha : a ≤ n) (h : Q ((0 : Int), 1, a) s) :
    wpAny (model prog w) A (Builtin.Slice.sliceApplied (.ref sl) (pure (n : Int))) Q E s := by
  obtain ⟨os, hos, hcs, hds⟩ := id hs
  unfold Builtin.Slice.sliceApplied Builtin.Slice.sliceFields
  refine wpAny_bind (wpAny_bind (wpAny_field hos hds (x := .none) rfl (wpAny_bind (wpAny_field hos hds (x := .int a u) rfl (wpAny_bind (wpAny_field hos hds (x := .none) rfl (wpAny_pure ?_)))))))
  refine wpAny_bind (slicePart_none ?_)
  show wpAny _ _ (if ((1 : Int) == 0) = true then _ else _) _ _ s
  rw [if_neg (by decide)]
  refine wpAny_bind (slicePart_none (wpAny_bind (slicePart_int (wpAny_bind (wpAny_pure ?_)))))
  show wpAny _ _ (match Builtin.Slice.sliceAdjust none (some (a : Int)) 1 (n : Int) with | (lo, hi) => pure (lo, (1 : Int), Builtin.Slice.slicePlaces lo hi 1)) _ _ s
  rw [adjust_to a n ha]
  show wpAny _ _ (pure ((0 : Int), (1 : Int), Builtin.Slice.slicePlaces 0 (a : Int) 1)) _ _ s
  rw [places_to]
  exact wpAny_pure h
theorem pick_to (xs : Array Value) (a : Nat) : ((List.range a).filterMap fun (k : Nat) => xs[((0 : Int) + (k : Int) * 1).toNat]?).toArray = (xs.toList.take a).toArray := by
  have e : (fun (k : Nat) => xs[((0 : Int) + (k : Int) * 1).toNat]?) = fun k => xs[0 + k]? := by
    funext k
    have : ((0 : Int) + (k : Int) * 1).toNat = 0 + k := by omega
    rw [this]
  rw [e]
  have := pick_run xs 0 a
  rw [List.filterMap_map] at this
  have e2 : ((fun x => xs[x]?) ∘ fun x => 0 + x) = fun k => xs[0 + k]? := rfl
  rw [e2] at this
  rw [this]; rfl
theorem run_slice_to {value e : Expr} {p : Pos} {t sl : Addr} {items : List Value} {n a : Nat} {u : Tok} {Q : Value → Loc → Led → Prop} (ht : (t, tupO items n) ∈ nw) (hsl : (sl, sliceO .none (.int a u) .none) ∈ nw) (ha : a ≤ items.length) (hz : items.length < 2 ^ 24)
    (h1 : a = items.length → Q (.ref t) m nw) (h2 : a < items.length → ∀ b, Q (.ref b) m ((b, tupO (items.take a) 0) :: nw))
    (hs : subscripted (.Slice none (some e) none p) false (.ref t) (.ref sl) = operate [.ref sl, .ref t] (getItem (.ref t) (.ref sl)) := by with_unfolding_all rfl) :
    Run prog w A h₀ L m nw (subscriptTail value (.Slice none (some e) none p) (.ref t) (.ref sl)) Q := fun os fx s hst => by
  have ht' : IsTup s.heap t items.toArray := ⟨_, hst.get ht, rfl, n, rfl⟩
  have hs' : s.heap.IsSliceOf sl .none (.int a u) .none := ⟨_, hst.get hsl, rfl, rfl⟩
  have hTs : s.TypeIs (.ref sl) "slice" := ⟨_, hst.get hsl, rfl⟩
  refine tail_any ht'.typeIs slot_tuple_getitem.lookup ?_ hs
  unfold getItem
  try with_reducible refine wpAny_holding ?_
  first | refine wpAny_bind (wpAny_pure ?_) | skip
  refine wpAny_bind (wpAny_sequenceKey ht'.typeIs (by decide) ?_)
  refine wpAny_bind (wpAny_callSpecial?_slot (name := Str.ofString "__getitem__") ht'.typeIs slot_tuple_getitem
    (wpAny_call_entry slot_tuple_getitem ht'.typeIs entry_tuple_getitem ?_ (args_tuple_getitem _ _)))
  show wpAny _ _ (Builtin.Tuple.tupleItemsOf (.ref t) >>= _) _ _ s
  refine wpAny_bind (tupleItemsOf_ ht' ?_)
  refine wpAny_bind (wpAny_typeOf hTs ?_)
  rw [if_pos (by decide)]
  refine wpAny_bind (applied_to hs' (by simpa using ha) ?_)
  show wpAny _ _ (if ((0 : Int) == 0 && (1 : Int) == 1 && a == items.toArray.size) = true then _ else _) _ _ s
  by_cases c : a = items.length
  · rw [if_pos (by simp [c])]
    refine wpAny_bind (m := Builtin.Tuple.tupleIsExact (.ref t)) (wpAny_bind (wpAny_typeOf ht'.typeIs (wpAny_pure ?_)))
    rw [if_pos (by decide)]
    exact wpAny_bind (wpAny_rule (wpAny_pure ⟨_, rfl, wpAny_pure ⟨m, nw, hst, h1 c⟩⟩))
  · rw [if_neg (by simp [c]), pick_to]
    have hz' : sizeOk (.seq (items.toArray.toList.take a).toArray) := by
      show (items.toArray.toList.take a).toArray.size ≤ sizeLine
      simp only [List.size_toArray, List.length_take]
      have : sizeLine = 2 ^ 24 := rfl
      omega
    refine wpAny_bind (m := Builtin.Tuple.tupleExact _) (wpAny_newObj_type (wpAny_pure ⟨_, rfl, wpAny_pure ⟨m, _, hst.push _ rfl, ?_⟩⟩) hz')
    exact h2 (by omega) _
end
end Mine

-- B7
open PySem PySem.W PySem.Calls PyProof.Rows
set_option maxRecDepth 100000
set_option linter.unusedVariables false
namespace Mine
section
variable {prog : Program} {w : World} {A : Around} {h₀ : Heap} {L : Addr} {α β : Type} {m : Loc} {nw : Led} {K : Frag} {mg mb : Loc} {r : Nat} {env : Env}

/-- what an expression is worth, nothing turned -/
abbrev Ev (prog : Program) (w : World) (A : Around) (h₀ : Heap) (L : Addr) (env : Env) (m : Loc) (nw : Led) (e : Expr) (V : Value → Prop) : Prop := Ex prog w A h₀ L env m nw e (Is V m nw)
abbrev Rv (prog : Program) (w : World) (A : Around) (h₀ : Heap) (L : Addr) (m : Loc) (nw : Led) (t : Sem Value) (V : Value → Prop) : Prop := Run prog w A h₀ L m nw t (Is V m nw)
abbrev Tv (prog : Program) (w : World) (A : Around) (h₀ : Heap) (L : Addr) (env : Env) (m : Loc) (nw : Led) (e : Expr) (B : Bool → Prop) : Prop := Tx prog w A h₀ L env m nw e (fun b m' nw' => B b ∧ m' = m ∧ nw' = nw)

theorem Is.elim {V : Value → Prop} {Q : Value → Loc → Led → Prop} {a m' nw'} (h : Is V m nw a m' nw') (k : ∀ a, V a → Q a m nw) : Q a m' nw' := by
  obtain ⟨h1, rfl, rfl⟩ := h; exact k a h1
theorem ev_mono {e V V'} (h : Ev prog w A h₀ L env m nw e V) (k : ∀ v, V v → V' v) : Ev prog w A h₀ L env m nw e V' := h.mono fun a m' nw' ⟨x, y, z⟩ => ⟨k a x, y, z⟩
/-- after a value -/
theorem ev_then {e : Expr} {V : Value → Prop} {f : Value → Sem α} {Q : α → Loc → Led → Prop} {os fx s} (h : Ev prog w A h₀ L env m nw e V) (k : ∀ v, V v → Run prog w A h₀ L m nw (f v) Q) (hs : St h₀ L os m nw fx s) :
    wpAny (model prog w) A (eval e env) (fun a s₁ => wpAny (model prog w) A (f a) (fun b s' => ∃ m' nw', St h₀ L os m' nw' fx s' ∧ Q b m' nw') (fun _ _ => False) s₁) (fun _ _ => False) s :=
  Run.next (f := f) h (fun a m' nw' ⟨x, y, z⟩ => by subst y; subst z; exact k a x) hs
theorem ev_attr {value : Expr} {attr : Str} {pos : Pos} {V : Value → Prop} {Q : Value → Loc → Led → Prop} (hv : Ev prog w A h₀ L env m nw value V) (k : ∀ o, V o → Run prog w A h₀ L m nw (getAttr o attr true) Q)
    (he : eval (.Attribute value attr pos) env = (do
        let o ← eval value env
        standAt pos.atName
        let r ← holding [o] (getAttr o attr true)
        letTemporaryGo value o r
        pure r) := by with_unfolding_all rfl) : Ex prog w A h₀ L env m nw (.Attribute value attr pos) Q :=
  ex_attr hv (fun o m' nw' ⟨x, y, z⟩ => by subst y; subst z; exact k o x) he
theorem ev_cmp {l r' : Expr} {op : CmpOp} {pos : Pos} {V V' : Value → Prop} {Q : Value → Loc → Led → Prop} (hl : Ev prog w A h₀ L env m nw l V) (hr : Ev prog w A h₀ L env m nw r' V')
    (ho : ∀ a b, V a → V' b → Run prog w A h₀ L m nw (compareOp op a b) Q) (hm : behindInMarks op r' = false := by with_unfolding_all rfl) : Ex prog w A h₀ L env m nw (.Compare l [op] [r'] pos) Q :=
  ex_cmp (P2 := fun a b m' nw' => V a ∧ Is V' m nw b m' nw') hl (fun a m' nw' ⟨x, y, z⟩ => by subst y; subst z; exact hr.mono fun b m'' nw'' h => ⟨x, h⟩) (fun a b m' nw' ⟨x, x', y, z⟩ => by subst y; subst z; exact ho a b x x') hm
theorem ev_binop {l r' : Expr} {op : Operator} {pos : Pos} {V V' : Value → Prop} {Q : Value → Loc → Led → Prop} (hl : Ev prog w A h₀ L env m nw l V) (hr : Ev prog w A h₀ L env m nw r' V')
    (ho : ∀ a b, V a → V' b → Run prog w A h₀ L m nw (binaryOp op a b) Q) : Ex prog w A h₀ L env m nw (.BinOp l op r' pos) Q :=
  ex_binop (P2 := fun a b m' nw' => V a ∧ Is V' m nw b m' nw') hl (fun a m' nw' ⟨x, y, z⟩ => by subst y; subst z; exact hr.mono fun b m'' nw'' h => ⟨x, h⟩) (fun a b m' nw' ⟨x, x', y, z⟩ => by subst y; subst z; exact ho a b x x')
theorem ev_sub {value slice : Expr} {pos : Pos} {V V' : Value → Prop} {Q : Value → Loc → Led → Prop} (hv : Ev prog w A h₀ L env m nw value V) (hs : Ev prog w A h₀ L env m nw slice V')
    (k : ∀ o i, V o → V' i → Run prog w A h₀ L m nw (subscriptTail value slice o i) Q) : Ex prog w A h₀ L env m nw (.Subscript value slice pos) Q :=
  ex_sub (P2 := fun a b m' nw' => V a ∧ Is V' m nw b m' nw') hv (fun a m' nw' ⟨x, y, z⟩ => by subst y; subst z; exact hs.mono fun b m'' nw'' h => ⟨x, h⟩) (fun a b m' nw' ⟨x, x', y, z⟩ => by subst y; subst z; exact k a b x x')
theorem tv_cmp {l r' : Expr} {op : CmpOp} {pos : Pos} {whole : Sem Value} {V V' : Value → Prop} {Q : Bool → Loc → Led → Prop} (hl : Ev prog w A h₀ L env m nw l V) (hr : Ev prog w A h₀ L env m nw r' V')
    (ho : ∀ a b, V a → V' b → Run prog w A h₀ L m nw (compareOp op a b) (fun c m' nw' => ∃ x, c = .bool x ∧ Q x m' nw')) (hm : behindInMarks op r' = false := by with_unfolding_all rfl) : Run prog w A h₀ L m nw (isTrue (.Compare l [op] [r'] pos) env whole) Q :=
  tx_cmp (P2 := fun a b m' nw' => V a ∧ Is V' m nw b m' nw') (P3 := fun c m' nw' => ∃ x, c = .bool x ∧ Q x m' nw') hl (fun a m' nw' ⟨x, y, z⟩ => by subst y; subst z; exact hr.mono fun b m'' nw'' h => ⟨x, h⟩) (fun a b m' nw' ⟨x, x', y, z⟩ => by subst y; subst z; exact ho a b x x')
    (fun c m' nw' ⟨x, e, q⟩ => by subst e; exact run_truthy_bool q) hm
theorem tv_val {e : Expr} {Q : Bool → Loc → Led → Prop} (h : Ex prog w A h₀ L env m nw e (fun c m' nw' => ∃ x, c = .bool x ∧ Q x m' nw'))
    (he : isTrue e env (eval e env) = (do let v ← eval e env; standAt e.pos; holding [v] (truthy v)) := by rfl) : Tx prog w A h₀ L env m nw e Q :=
  tx_val h (fun v m' nw' ⟨x, e, q⟩ => by subst e; exact run_truthy_bool q) he
/-- a call of a name, its arguments pure -/
theorem ev_call1 {func e : Expr} {pos : Pos} {id : String} {V : Value → Prop} {Q : Value → Loc → Led → Prop} (hf : Ev prog w A h₀ L env m nw func (· = .builtin id)) (h : Ev prog w A h₀ L env m nw e V) (k : ∀ v, V v → Run prog w A h₀ L m nw (call (.builtin id) [v]) Q)
    (he : eval (.Call func [e] [] pos) env = (do callWith pos (← eval func env) [] (backTo pos (starEach [e] env)) (backToKw pos (keywordEach [] env))) := by rfl)
    (hs : starEach [e] env = [(false, eval e env)] := by rfl) :
    Ex prog w A h₀ L env m nw (.Call func [e] [] pos) Q :=
  ex_call hf (fun f m' nw' ⟨x, y, z⟩ => by
    subst x; subst y; subst z
    exact cw_builtin (P := fun vs m'' nw'' => ∃ v, vs = [v] ∧ V v ∧ m'' = m' ∧ nw'' = nw') (args_cons h (fun v m'' nw'' ⟨a, b, c⟩ => by subst b; subst c; exact args_nil ⟨v, rfl, a, rfl, rfl⟩) hs) (fun vs m'' nw'' ⟨v, a, b, c, d⟩ => by subst a; subst c; subst d; exact k v b) hs) he
theorem ev_call2 {func e e' : Expr} {pos : Pos} {id : String} {V V' : Value → Prop} {Q : Value → Loc → Led → Prop} (hf : Ev prog w A h₀ L env m nw func (· = .builtin id)) (h : Ev prog w A h₀ L env m nw e V) (h' : Ev prog w A h₀ L env m nw e' V') (k : ∀ v v', V v → V' v' → Run prog w A h₀ L m nw (call (.builtin id) [v, v']) Q)
    (he : eval (.Call func [e, e'] [] pos) env = (do callWith pos (← eval func env) [] (backTo pos (starEach [e, e'] env)) (backToKw pos (keywordEach [] env))) := by rfl)
    (hs : starEach [e, e'] env = [(false, eval e env), (false, eval e' env)] := by rfl) (hs' : starEach [e'] env = [(false, eval e' env)] := by rfl) :
    Ex prog w A h₀ L env m nw (.Call func [e, e'] [] pos) Q :=
  ex_call hf (fun f m' nw' ⟨x, y, z⟩ => by
    subst x; subst y; subst z
    exact cw_builtin (P := fun vs m'' nw'' => ∃ v v', vs = [v, v'] ∧ V v ∧ V' v' ∧ m'' = m' ∧ nw'' = nw') (args_cons h (fun v m'' nw'' ⟨a, b, c⟩ => by
        subst b; subst c
        exact args_cons h' (fun v' m'' nw'' ⟨a', b, c⟩ => by subst b; subst c; exact args_nil ⟨v, v', rfl, a, a', rfl, rfl⟩) hs') (by rw [hs, hs'])) (fun vs m'' nw'' ⟨v, v', a, b, b', c, d⟩ => by subst a; subst c; subst d; exact k v v' b b') (by rw [hs, hs']) (by rw [hs']; rfl)) he
/-- a method without arguments, one argument -/
theorem ev_meth0 {o : Expr} {name : Str} {apos pos : Pos} {pl : Sem Bool} {V : Value → Prop} {W : Value × List Value → Prop} {Q : Value → Loc → Led → Prop} (ho : Ev prog w A h₀ L env m nw o V)
    (hm : ∀ ov, V ov → Run prog w A h₀ L m nw (getMethod ov name pl) (fun fx m' nw' => W fx ∧ m' = m ∧ nw' = nw))
    (k : ∀ fx, W fx → Run prog w A h₀ L m nw (callWith pos fx.1 fx.2 (backTo pos (starEach [] env)) []) Q)
    (he : eval (.Call (.Attribute o name apos) [] [] pos) env = (do
      let ov ← eval o env
      standAt apos.atName
      let (f, first) ← holding [ov] (getMethod ov name pl)
      callWith pos f first (backTo pos (starEach [] env)) (backToKw pos (keywordEach [] env))) := by rfl) :
    Ex prog w A h₀ L env m nw (.Call (.Attribute o name apos) [] [] pos) Q :=
  ex_method (P2 := fun fx m' nw' => W fx ∧ m' = m ∧ nw' = nw) ho (fun ov m' nw' ⟨x, y, z⟩ => by subst y; subst z; exact hm ov x) (fun fx m' nw' ⟨x, y, z⟩ => by subst y; subst z; exact k fx x) he
theorem ev_methN {o : Expr} {name : Str} {apos pos : Pos} {args : List Expr} {pl : Sem Bool} {V : Value → Prop} {W : Value × List Value → Prop} {Q : Value → Loc → Led → Prop} (ho : Ev prog w A h₀ L env m nw o V)
    (hm : ∀ ov, V ov → Run prog w A h₀ L m nw (getMethod ov name pl) (fun fx m' nw' => W fx ∧ m' = m ∧ nw' = nw))
    (k : ∀ fx, W fx → Run prog w A h₀ L m nw (callWith pos fx.1 fx.2 (backTo pos (starEach args env)) []) Q)
    (he : eval (.Call (.Attribute o name apos) args [] pos) env = (do
      let ov ← eval o env
      standAt apos.atName
      let (f, first) ← holding [ov] (getMethod ov name pl)
      callWith pos f first (backTo pos (starEach args env)) (backToKw pos (keywordEach [] env))) := by rfl) :
    Ex prog w A h₀ L env m nw (.Call (.Attribute o name apos) args [] pos) Q :=
  ex_method (P2 := fun fx m' nw' => W fx ∧ m' = m ∧ nw' = nw) ho (fun ov m' nw' ⟨x, y, z⟩ => by subst y; subst z; exact hm ov x) (fun fx m' nw' ⟨x, y, z⟩ => by subst y; subst z; exact k fx x) he
theorem arg1 {e : Expr} {pos : Pos} {V : Value → Prop} (h : Ev prog w A h₀ L env m nw e V) (hs : starEach [e] env = [(false, eval e env)] := by rfl) :
    Run prog w A h₀ L m nw (spliced (backTo pos (starEach [e] env))) (fun vs m' nw' => ∃ v, vs = [v] ∧ V v ∧ m' = m ∧ nw' = nw) :=
  args_cons h (fun v m'' nw'' ⟨a, b, c⟩ => by subst b; subst c; exact args_nil ⟨v, rfl, a, rfl, rfl⟩) hs
theorem arg2 {e e' : Expr} {pos : Pos} {V V' : Value → Prop} (h : Ev prog w A h₀ L env m nw e V) (h' : Ev prog w A h₀ L env m nw e' V') (hs : starEach [e, e'] env = [(false, eval e env), (false, eval e' env)] := by rfl) (hs' : starEach [e'] env = [(false, eval e' env)] := by rfl) :
    Run prog w A h₀ L m nw (spliced (backTo pos (starEach [e, e'] env))) (fun vs m' nw' => ∃ v v', vs = [v, v'] ∧ V v ∧ V' v' ∧ m' = m ∧ nw' = nw) :=
  args_cons h (fun v m'' nw'' ⟨a, b, c⟩ => by
    subst b; subst c
    exact args_cons h' (fun v' m'' nw'' ⟨a', b, c⟩ => by subst b; subst c; exact args_nil ⟨v, v', rfl, a, a', rfl, rfl⟩) hs') (by rw [hs, hs'])
/-- statements upon pure values -/
theorem sv_assign {x : Str} {pos' : Pos} {e pos rest} {V : Value → Prop} {R : Flow → Loc → Led → Prop} (hl : env.locals = L) (hk : env.scope.kind = .function) (hx : env.kindOf x = some .local) (h : Ev prog w A h₀ L env m nw e V)
    (k : ∀ v, V v → Sx prog w A h₀ L env (upd m x v) nw rest R) (hs : swapsWith e (some (.Name x pos')) pos.line env = pure false := by rfl) : Sx prog w A h₀ L env m nw (.Assign [.Name x pos'] e pos :: rest) R :=
  sx_assign hl hk hx h (fun v m' nw' ⟨a, b, c⟩ => by subst b; subst c; exact k v a) hs
theorem sv_ret {e pos rest} {V : Value → Prop} {R : Flow → Loc → Led → Prop} (h : Ev prog w A h₀ L env m nw e V) (k : ∀ v, V v → R (.ret v) m nw) : Sx prog w A h₀ L env m nw (.Return (some e) pos :: rest) R :=
  sx_ret h (fun v m' nw' ⟨a, b, c⟩ => by subst b; subst c; exact k v a)
theorem sv_if {test body orelse pos rest} {B : Bool → Prop} {R : Flow → Loc → Led → Prop} (h : Tv prog w A h₀ L env m nw test B)
    (k1 : B true → Sx prog w A h₀ L env m nw body (Co prog w A h₀ L env rest R)) (k2 : B false → Sx prog w A h₀ L env m nw orelse (Co prog w A h₀ L env rest R)) :
    Sx prog w A h₀ L env m nw (.If test body orelse pos :: rest) R :=
  sx_if h (fun m' nw' ⟨a, b, c⟩ => by subst b; subst c; exact k1 a) (fun m' nw' ⟨a, b, c⟩ => by subst b; subst c; exact k2 a)
theorem sx_brk {pos rest} {R : Flow → Loc → Led → Prop} (h : R .brk m nw) : Sx prog w A h₀ L env m nw (.Break pos :: rest) R := sx_cons fun os fx s hs => wpAny_Break ⟨m, nw, hs, h⟩
theorem sx_cont {pos rest} {R : Flow → Loc → Led → Prop} (h : R .cont m nw) : Sx prog w A h₀ L env m nw (.Continue pos :: rest) R := sx_cons fun os fx s hs => wpAny_Continue ⟨m, nw, hs, h⟩
/-- a new tuple, a new list -/
theorem ex_tuple {elts : List Expr} {k : Nat} {pos : Pos} {P : List Value → Loc → Led → Prop} {Q : Value → Loc → Led → Prop} (h : Run prog w A h₀ L m nw (spliced (backTo pos (starEach elts env))) P)
    (hz : ∀ vs m' nw', P vs m' nw' → vs.length < 1000) (hk : ∀ vs m' nw' a, P vs m' nw' → Q (.ref a) m' ((a, tupO vs 0) :: nw')) : Ex prog w A h₀ L env m nw (.Tuple elts k pos) Q := fun os fx s hs =>
  Tuple_ (wpAny_mono (h os fx s hs) (fun vs s₁ ⟨m', nw', hs', hp⟩ => wpAny_newObj_type ⟨m', _, hs'.push _ rfl, hk vs m' nw' _ hp⟩ (by
    show vs.toArray.size ≤ sizeLine
    have := hz vs m' nw' hp
    rw [List.size_toArray]
    have e : sizeLine = 2 ^ 24 := rfl
    omega)) fun _ _ x => x)
theorem ex_list {elts : List Expr} {pos : Pos} {P : List Value → Loc → Led → Prop} {Q : Value → Loc → Led → Prop} (h : Run prog w A h₀ L m nw (spliced (backTo pos (starEach elts env))) P)
    (hz : ∀ vs m' nw', P vs m' nw' → vs.length < 1000) (hk : ∀ vs m' nw' a, P vs m' nw' → Q (.ref a) m' ((a, listOf vs.toArray 0) :: nw')) : Ex prog w A h₀ L env m nw (.List elts pos) Q := fun os fx s hs =>
  List_ (wpAny_mono (h os fx s hs) (fun vs s₁ ⟨m', nw', hs', hp⟩ => wpAny_newObj_type ⟨m', _, hs'.push _ rfl, hk vs m' nw' _ hp⟩ (by
    show vs.toArray.size ≤ sizeLine
    have := hz vs m' nw' hp
    rw [List.size_toArray]
    have e : sizeLine = 2 ^ 24 := rfl
    omega)) fun _ _ x => x)
/-- dropping what is no longer asked for -/
theorem Run.weaken {t : Sem α} {P : α → Loc → Led → Prop} {nw₁ : Led} (hs : nw₁.Sublist nw) (h : Run prog w A h₀ L m nw₁ t P) : Run prog w A h₀ L m nw t P := fun os fx s hst =>
  h os fx s ⟨hst.F, fun p hp => hst.N p ((List.Sublist.append hs (List.Sublist.refl _)).subset hp), hst.D.sublist (List.Sublist.map _ (List.Sublist.append hs (List.Sublist.refl _))), hst.os, hst.bare⟩
/-- a call of two names swapped into two -/
theorem sx_two {x y : Str} {px py k tpos value pos rest} {P : List Value → Loc → Led → Prop} {R : Flow → Loc → Led → Prop} (hh : A.handled = none) (hl : env.locals = L) (hk : env.scope.kind = .function) (hx : env.kindOf x = some .local) (hy : env.kindOf y = some .local)
    (h : Ex prog w A h₀ L env m nw value (fun v m' nw' => ∃ a u u', v = .ref a ∧ P [u, u'] m' nw' ∧ (a, tupO [u, u'] 0) ∈ nw'))
    (kk : ∀ u u' m' nw', P [u, u'] m' nw' → Sx prog w A h₀ L env (upd (upd m' y u') x u) nw' rest R)
    (hs : swapsWithSole [.Tuple [.Name x px, .Name y py] k tpos] value pos.line env = pure false := by rfl)
    (hw : swappedStores [.Tuple [.Name x px, .Name y py] k tpos] value env = pure (some [x, y]) := by rfl) :
    Sx prog w A h₀ L env m nw (.Assign [.Tuple [.Name x px, .Name y py] k tpos] value pos :: rest) R :=
  sx_cons fun os fx s hst => Assign_Tuple_swapped (wpAny_mono (h os fx s hst) (fun v s₁ ⟨m', nw', hs', a, u, u', e, hp, hm⟩ => by
    subst e
    refine unpackItems_tuple (items := #[u, u']) hh ⟨_, hs'.get hm, rfl, 0, rfl⟩ fun h' he => ?_
    have hs2 : St h₀ L os m' nw' fx { s₁ with heap := h' } := ⟨hs'.F.extBut he (Nat.le_refl _), fun p hp => by
      have z := hs'.N p hp
      exact ⟨he _ _ (Nat.ne_of_lt (Heap.lt_size z.1)) z.1, z.2⟩, hs'.D, hs'.os, hs'.bare⟩
    show wpAny (model prog w) A (do holding [u] (bindName env y u'); assignInOrder [fun n => bindName env x n] [u]) _ _ _
    refine wpAny_bind (wpAny_holding (bindName_ ?_))
    refine wpAny_mono ((run_store (Q := fun _ m'' nw'' => m'' = upd m' y u' ∧ nw'' = nw') hl hk hy ⟨rfl, rfl⟩) os fx _ hs2) (fun _ s₃ ⟨m3, nw3, hs3, e1, e2⟩ => ?_) fun _ _ e => e
    subst e1; subst e2
    show wpAny (model prog w) A (do holding [] (bindName env x u); assignInOrder [] []) _ _ _
    refine wpAny_bind (wpAny_holding (bindName_ ?_))
    refine wpAny_mono ((run_store (Q := fun _ m'' nw'' => m'' = upd (upd m' y u') x u ∧ nw'' = nw3) hl hk hx ⟨rfl, rfl⟩) os fx _ hs3) (fun _ s₄ ⟨m4, nw4, hs4, e1, e2⟩ => ?_) fun _ _ e => e
    subst e1; subst e2
    exact wpAny_pure ⟨_, _, hs4, kk u u' m' nw4 hp⟩) fun _ _ x => x) hs hw
/-- what was made on the way is no longer asked for -/
theorem Run.drop {t : Sem α} {P : α → Loc → Led → Prop} {V : α → Prop} (h : Run prog w A h₀ L m nw t P) (k : ∀ a m' nw', P a m' nw' → V a ∧ m' = m ∧ Kp [] nw nw') : Run prog w A h₀ L m nw t (fun a m' nw' => V a ∧ m' = m ∧ nw' = nw) := fun os fx s hs =>
  wpAny_mono (h os fx s hs) (fun a s' ⟨m', nw', hs', hp⟩ => by
    obtain ⟨hv, e, hk⟩ := k a m' nw' hp
    subst e
    refine ⟨m', nw, ⟨hs'.F, fun p hp => hs'.N p ?_, hs.D, hs'.os, hs'.bare⟩, hv, rfl, rfl⟩
    exact (List.mem_append.mp hp).elim (fun q => List.mem_append_left _ (hk.get q)) (List.mem_append_right _)) fun _ _ x => x
/-- a def that turns nothing -/
abbrev Fp (prog : Program) (w : World) (K : Frag) (mg mb : Loc) (d : Nat) (f : Value) (args : List Value) (nw : Led) (V : Value → Prop) : Prop := Fn prog w K mg mb d f args nw (fun v nw' => V v ∧ Kp [] nw nw')
theorem run_fp {d : Nat} {f : Value} {args : List Value} {V : Value → Prop} (M : Fm K mg mb r A h₀ L) (hf : Fp prog w K mg mb d f args nw V) (hd : d ≤ r) : Rv prog w A h₀ L m nw (call f args) V :=
  Run.drop (run_call (Q := fun v m' nw' => V v ∧ m' = m ∧ Kp [] nw nw') hf M hd fun v nw' ⟨a, b⟩ => ⟨a, rfl, b⟩) fun _ _ _ h => h
/-- what is made stands beside, all else as it was -/
abbrev Kt (m : Loc) (nw : Led) {α : Type} (V : α → Led → Prop) : α → Loc → Led → Prop := fun v m' nw' => m' = m ∧ Kp [] nw nw' ∧ V v nw'
theorem tk_cmp {l r' : Expr} {op : CmpOp} {pos : Pos} {whole : Sem Value} {V : Value → Led → Prop} {V' : Value → Value → Led → Prop} {B : Bool → Prop} (hl : Ex prog w A h₀ L env m nw l (Kt m nw V))
    (hr : ∀ a nw', Kp [] nw nw' → V a nw' → Ex prog w A h₀ L env m nw' r' (Kt m nw' (V' a)))
    (ho : ∀ a b nw', Kp [] nw nw' → V' a b nw' → Run prog w A h₀ L m nw' (compareOp op a b) (Kt m nw' fun c _ => ∃ x, c = .bool x ∧ B x)) (hm : behindInMarks op r' = false := by with_unfolding_all rfl) :
    Run prog w A h₀ L m nw (isTrue (.Compare l [op] [r'] pos) env whole) (fun b m' nw' => B b ∧ m' = m ∧ nw' = nw) :=
  Run.drop (P := fun b m' nw' => B b ∧ m' = m ∧ Kp [] nw nw') (tx_cmp (P := Kt m nw V) (P2 := fun a b m' nw' => m' = m ∧ Kp [] nw nw' ∧ V' a b nw') (P3 := fun c m' nw' => m' = m ∧ Kp [] nw nw' ∧ ∃ x, c = .bool x ∧ B x) hl
    (fun a m' nw' ⟨e, k, v⟩ => by subst e; exact (hr a nw' k v).mono fun b m'' nw'' ⟨e', k', v'⟩ => ⟨e', k.trans k', v'⟩)
    (fun a b m' nw' ⟨e, k, v⟩ => by subst e; exact (ho a b nw' k v).mono fun c m'' nw'' ⟨e', k', x⟩ => ⟨e', k.trans k', x⟩)
    (fun c m' nw' ⟨e, k, x, e2, hb⟩ => by subst e; subst e2; exact run_truthy_bool ⟨hb, rfl, k⟩) hm) fun _ _ _ h => h
theorem ek_cmp {l r' : Expr} {op : CmpOp} {pos : Pos} {V : Value → Led → Prop} {V' : Value → Value → Led → Prop} {W : Value → Prop} (hl : Ex prog w A h₀ L env m nw l (Kt m nw V))
    (hr : ∀ a nw', Kp [] nw nw' → V a nw' → Ex prog w A h₀ L env m nw' r' (Kt m nw' (V' a)))
    (ho : ∀ a b nw', Kp [] nw nw' → V' a b nw' → Run prog w A h₀ L m nw' (compareOp op a b) (Kt m nw' fun c _ => W c)) (hm : behindInMarks op r' = false := by with_unfolding_all rfl) :
    Ev prog w A h₀ L env m nw (.Compare l [op] [r'] pos) W :=
  Run.drop (P := fun b m' nw' => W b ∧ m' = m ∧ Kp [] nw nw') (ex_cmp (P := Kt m nw V) (P2 := fun a b m' nw' => m' = m ∧ Kp [] nw nw' ∧ V' a b nw') hl
    (fun a m' nw' ⟨e, k, v⟩ => by subst e; exact (hr a nw' k v).mono fun b m'' nw'' ⟨e', k', v'⟩ => ⟨e', k.trans k', v'⟩)
    (fun a b m' nw' ⟨e, k, v⟩ => by subst e; exact (ho a b nw' k v).mono fun c m'' nw'' ⟨e', k', x⟩ => ⟨x, e', k.trans k'⟩) hm) fun _ _ _ h => h
theorem Ev.kt {e : Expr} {V : Value → Prop} (h : Ev prog w A h₀ L env m nw e V) : Ex prog w A h₀ L env m nw e (Kt m nw fun v _ => V v) := h.mono fun a m' nw' ⟨x, y, z⟩ => ⟨y, by subst z; exact Kp.refl, x⟩
end
end Mine

-- KF
open PySem PySem.W PySem.Calls PyProof.Rows
set_option maxRecDepth 100000
set_option linter.unusedVariables false
namespace Mine
section
variable {K : Frag} {C p f : Addr} {name : Str} {i : Nat} {v : Value}
def propB (K : Frag) (C : Addr) (name : Str) (p f : Addr) : Bool := plainGet K C name && isClsIn K C && (findIn K (.ref C) name == some (some (.ref p))) && (specialIn K (.ref p) "__get__" == some (some (.builtin "property.__get__"))) && (takesIn K (.ref p) == some true) && (match recIn K p "property" with | some (.ref g :: _) => g == f | _ => false)
theorem PropAttr.of (h : propB K C name p f = true) : PropAttr K C name f := by
  simp only [propB, Bool.and_eq_true, beq_iff_eq] at h
  obtain ⟨⟨⟨⟨⟨h1, h2⟩, h3⟩, h4⟩, h5⟩, h6⟩ := h
  split at h6
  · rename_i g rest e
    rw [beq_iff_eq] at h6
    subst h6
    exact ⟨h1, h2, p, rest, h3, h4, h5, e⟩
  · cases h6
def slotB (K : Frag) (C : Addr) (name : Str) (p : Addr) (i : Nat) : Bool := plainGet K C name && isClsIn K C && (findIn K (.ref C) name == some (some (.ref p))) && (specialIn K (.ref p) "__get__" == some (some (.builtin "member_descriptor.__get__"))) && (takesIn K (.ref p) == some true) && (slotIn K p C == some i)
theorem SlotAttr.of (h : slotB K C name p i = true) : SlotAttr K C name i := by
  simp only [slotB, Bool.and_eq_true, beq_iff_eq] at h
  obtain ⟨⟨⟨⟨⟨h1, h2⟩, h3⟩, h4⟩, h5⟩, h6⟩ := h
  exact ⟨h1, h2, p, h3, h4, h5, h6⟩
def slotSetB (K : Frag) (C : Addr) (name : Str) (p : Addr) (i : Nat) : Bool := (findIn K (.ref C) "__setattr__" == some (some (.builtin "object.__setattr__"))) && plainOver K C && (takerIn K C name == some (some (.ref p))) && (typeIn K (.ref p) == some (.type "member_descriptor")) && (slotIn K p C == some i) && decide (i < 1000)
theorem SlotSet.of (h : slotSetB K C name p i = true) : SlotSet K C name i := by
  simp only [slotSetB, Bool.and_eq_true, beq_iff_eq, decide_eq_true_eq] at h
  obtain ⟨⟨⟨⟨⟨h1, h2⟩, h3⟩, h4⟩, h5⟩, h6⟩ := h
  exact ⟨h1, h2, ⟨p, h3, h4, h5⟩, h6⟩
def ownB (K : Frag) (C : Addr) (name : Str) : Bool := plainGet K C name && hasDictIn K C && (match findIn K (.ref C) name with | some a => noGet K a | none => false)
theorem OwnAttr.of (h : ownB K C name = true) : OwnAttr K C name := by
  simp only [ownB, Bool.and_eq_true] at h
  obtain ⟨⟨h1, h2⟩, h3⟩ := h
  split at h3
  · rename_i a e; exact ⟨h1, h2, a, e, h3⟩
  · cases h3
def dictSetB (K : Frag) (C : Addr) (name : Str) : Bool := (findIn K (.ref C) "__setattr__" == some (some (.builtin "object.__setattr__"))) && plainOver K C && (takerIn K C name == some none) && hasDictIn K C
theorem DictSet.of (h : dictSetB K C name = true) : DictSet K C name := by
  simp only [dictSetB, Bool.and_eq_true, beq_iff_eq] at h
  obtain ⟨⟨⟨h1, h2⟩, h3⟩, h4⟩ := h
  exact ⟨h1, h2, h3, h4⟩
def methB (K : Frag) (C : Addr) (name : Str) (f : Addr) : Bool := plainGet K C name && (findIn K (.ref C) name == some (some (.ref f))) && isFn K (.ref f)
theorem MethAttr.of (h : methB K C name f = true) : MethAttr K C name f := by
  simp only [methB, Bool.and_eq_true, beq_iff_eq] at h
  exact ⟨h.1.1, h.1.2, h.2⟩
def clsB (K : Frag) (C : Addr) (name : Str) (v : Value) : Bool := plainGet K C name && hasDictIn K C && (findIn K (.ref C) name == some (some v)) && (specialIn K v "__get__" == some none) && handedIn v && !copiedNames.contains name
theorem ClsAttr.of (h : clsB K C name v = true) : ClsAttr K C name v := by
  simp only [clsB, Bool.and_eq_true, beq_iff_eq, Bool.not_eq_true'] at h
  obtain ⟨⟨⟨⟨⟨h1, h2⟩, h3⟩, h4⟩, h5⟩, h6⟩ := h
  exact ⟨h1, h2, h3, h4, h5, h6⟩
end
variable {P : Params}
@[reducible] noncomputable def KH (P : Params) : Frag := hd.heap_39 P
theorem kf_slot_descendants_342 : SlotAttr (KH P) 342 "descendants" 0 := .of (p := 343) (by kernel_rfl)
theorem kf_set_descendants_342 : SlotSet (KH P) 342 "descendants" 0 := .of (p := 343) (by kernel_rfl)
theorem kf_slot_errors_342 : SlotAttr (KH P) 342 "errors" 1 := .of (p := 344) (by kernel_rfl)
theorem kf_set_errors_342 : SlotSet (KH P) 342 "errors" 1 := .of (p := 344) (by kernel_rfl)
theorem kf_slot_parent_node_342 : SlotAttr (KH P) 342 "parent_node" 2 := .of (p := 345) (by kernel_rfl)
theorem kf_set_parent_node_342 : SlotSet (KH P) 342 "parent_node" 2 := .of (p := 345) (by kernel_rfl)
theorem kf_slot_path_342 : SlotAttr (KH P) 342 "path" 3 := .of (p := 346) (by kernel_rfl)
theorem kf_set_path_342 : SlotSet (KH P) 342 "path" 3 := .of (p := 346) (by kernel_rfl)
theorem kf_slot_tree_root_342 : SlotAttr (KH P) 342 "tree_root" 4 := .of (p := 347) (by kernel_rfl)
theorem kf_set_tree_root_342 : SlotSet (KH P) 342 "tree_root" 4 := .of (p := 347) (by kernel_rfl)
theorem kf_depth_342 : PropAttr (KH P) 342 "depth" 315 := .of (p := 316) (by kernel_rfl)
theorem kf_path_of_342 : MethAttr (KH P) 342 "_path_of_" 338 := .of (by kernel_rfl)
theorem kf_setitem_342 : findIn (KH P) (.ref 342) "__setitem__" = some (some (.ref 308)) := by kernel_rfl
theorem kf_getitem_342 : findIn (KH P) (.ref 342) "__getitem__" = some (some (.ref 294)) := by kernel_rfl
theorem kf_iter_342 : findIn (KH P) (.ref 342) "__iter__" = some (some (.ref 287)) := by kernel_rfl
theorem kf_len_342 : findIn (KH P) (.ref 342) "__len__" = some (some (.ref 301)) := by kernel_rfl
theorem kf_slot_descendants_405 : SlotAttr (KH P) 405 "descendants" 0 := .of (p := 343) (by kernel_rfl)
theorem kf_set_descendants_405 : SlotSet (KH P) 405 "descendants" 0 := .of (p := 343) (by kernel_rfl)
theorem kf_slot_errors_405 : SlotAttr (KH P) 405 "errors" 1 := .of (p := 344) (by kernel_rfl)
theorem kf_set_errors_405 : SlotSet (KH P) 405 "errors" 1 := .of (p := 344) (by kernel_rfl)
theorem kf_slot_parent_node_405 : SlotAttr (KH P) 405 "parent_node" 2 := .of (p := 345) (by kernel_rfl)
theorem kf_set_parent_node_405 : SlotSet (KH P) 405 "parent_node" 2 := .of (p := 345) (by kernel_rfl)
theorem kf_slot_path_405 : SlotAttr (KH P) 405 "path" 3 := .of (p := 346) (by kernel_rfl)
theorem kf_set_path_405 : SlotSet (KH P) 405 "path" 3 := .of (p := 346) (by kernel_rfl)
theorem kf_slot_tree_root_405 : SlotAttr (KH P) 405 "tree_root" 4 := .of (p := 347) (by kernel_rfl)
theorem kf_set_tree_root_405 : SlotSet (KH P) 405 "tree_root" 4 := .of (p := 347) (by kernel_rfl)
theorem kf_depth_405 : PropAttr (KH P) 405 "depth" 315 := .of (p := 316) (by kernel_rfl)
theorem kf_path_of_405 : MethAttr (KH P) 405 "_path_of_" 338 := .of (by kernel_rfl)
theorem kf_setitem_405 : findIn (KH P) (.ref 405) "__setitem__" = some (some (.ref 308)) := by kernel_rfl
theorem kf_getitem_405 : findIn (KH P) (.ref 405) "__getitem__" = some (some (.ref 294)) := by kernel_rfl
theorem kf_iter_405 : findIn (KH P) (.ref 405) "__iter__" = some (some (.ref 287)) := by kernel_rfl
theorem kf_len_405 : findIn (KH P) (.ref 405) "__len__" = some (some (.ref 301)) := by kernel_rfl
theorem kf_slot_descendants_417 : SlotAttr (KH P) 417 "descendants" 0 := .of (p := 343) (by kernel_rfl)
theorem kf_set_descendants_417 : SlotSet (KH P) 417 "descendants" 0 := .of (p := 343) (by kernel_rfl)
theorem kf_slot_errors_417 : SlotAttr (KH P) 417 "errors" 1 := .of (p := 344) (by kernel_rfl)
theorem kf_set_errors_417 : SlotSet (KH P) 417 "errors" 1 := .of (p := 344) (by kernel_rfl)
theorem kf_slot_parent_node_417 : SlotAttr (KH P) 417 "parent_node" 2 := .of (p := 345) (by kernel_rfl)
theorem kf_set_parent_node_417 : SlotSet (KH P) 417 "parent_node" 2 := .of (p := 345) (by kernel_rfl)
theorem kf_slot_path_417 : SlotAttr (KH P) 417 "path" 3 := .of (p := 346) (by kernel_rfl)
theorem kf_set_path_417 : SlotSet (KH P) 417 "path" 3 := .of (p := 346) (by kernel_rfl)
theorem kf_slot_tree_root_417 : SlotAttr (KH P) 417 "tree_root" 4 := .of (p := 347) (by kernel_rfl)
theorem kf_set_tree_root_417 : SlotSet (KH P) 417 "tree_root" 4 := .of (p := 347) (by kernel_rfl)
theorem kf_depth_417 : PropAttr (KH P) 417 "depth" 315 := .of (p := 316) (by kernel_rfl)
theorem kf_path_of_417 : MethAttr (KH P) 417 "_path_of_" 338 := .of (by kernel_rfl)
theorem kf_setitem_417 : findIn (KH P) (.ref 417) "__setitem__" = some (some (.ref 308)) := by kernel_rfl
theorem kf_getitem_417 : findIn (KH P) (.ref 417) "__getitem__" = some (some (.ref 294)) := by kernel_rfl
theorem kf_iter_417 : findIn (KH P) (.ref 417) "__iter__" = some (some (.ref 287)) := by kernel_rfl
theorem kf_len_417 : findIn (KH P) (.ref 417) "__len__" = some (some (.ref 301)) := by kernel_rfl
theorem kf_tree_type_342 : PropAttr (KH P) 342 "tree_type" 323 := .of (p := 324) (by kernel_rfl)
theorem kf_tree_type_405 : ClsAttr (KH P) 405 "tree_type" (.str "document" 936) := .of (by kernel_rfl)
theorem kf_tree_type_417 : ClsAttr (KH P) 417 "tree_type" (.str "schema" 954) := .of (by kernel_rfl)
theorem kf_add_342 : MethAttr (KH P) 342 "add" 331 := .of (by kernel_rfl)
theorem kf_add_405 : MethAttr (KH P) 405 "add" 374 := .of (by kernel_rfl)
theorem kf_fetch_405 : MethAttr (KH P) 405 "fetch_node_from" 388 := .of (by kernel_rfl)
theorem kf_add_417 : MethAttr (KH P) 417 "add" 374 := .of (by kernel_rfl)
theorem kf_fetch_417 : MethAttr (KH P) 417 "fetch_node_from" 388 := .of (by kernel_rfl)
theorem kf_own_document_path : OwnAttr (KH P) 240 "document_path" := .of (by kernel_rfl)
theorem kf_dset_document_path : DictSet (KH P) 240 "document_path" := .of (by kernel_rfl)
theorem kf_own_schema_path : OwnAttr (KH P) 240 "schema_path" := .of (by kernel_rfl)
theorem kf_dset_schema_path : DictSet (KH P) 240 "schema_path" := .of (by kernel_rfl)
theorem kf_own_code : OwnAttr (KH P) 240 "code" := .of (by kernel_rfl)
theorem kf_dset_code : DictSet (KH P) 240 "code" := .of (by kernel_rfl)
theorem kf_own_rule : OwnAttr (KH P) 240 "rule" := .of (by kernel_rfl)
theorem kf_dset_rule : DictSet (KH P) 240 "rule" := .of (by kernel_rfl)
theorem kf_own_constraint : OwnAttr (KH P) 240 "constraint" := .of (by kernel_rfl)
theorem kf_dset_constraint : DictSet (KH P) 240 "constraint" := .of (by kernel_rfl)
theorem kf_own_value : OwnAttr (KH P) 240 "value" := .of (by kernel_rfl)
theorem kf_dset_value : DictSet (KH P) 240 "value" := .of (by kernel_rfl)
theorem kf_own_info : OwnAttr (KH P) 240 "info" := .of (by kernel_rfl)
theorem kf_dset_info : DictSet (KH P) 240 "info" := .of (by kernel_rfl)
theorem kf_def_code : OwnAttr (KH P) 53 "code" := .of (by kernel_rfl)
theorem kf_def_rule : OwnAttr (KH P) 53 "rule" := .of (by kernel_rfl)
theorem kf_child_errors : PropAttr (KH P) 240 "child_errors" 196 := .of (p := 197) (by kernel_rfl)
theorem kf_definitions_errors : PropAttr (KH P) 240 "definitions_errors" 204 := .of (p := 205) (by kernel_rfl)
theorem kf_is_group_error : PropAttr (KH P) 240 "is_group_error" 220 := .of (p := 221) (by kernel_rfl)
theorem kf_is_logic_error : PropAttr (KH P) 240 "is_logic_error" 228 := .of (p := 229) (by kernel_rfl)
theorem kf_is_normalization_error : PropAttr (KH P) 240 "is_normalization_error" 236 := .of (p := 237) (by kernel_rfl)
theorem kf_lt_240 : findIn (KH P) (.ref 240) "__lt__" = some (some (.ref 189)) := by kernel_rfl
theorem kg_compare_paths_lt : nsIn (KH P) mainGlobals "compare_paths_lt" = some (some (.ref 36)) := by kernel_rfl
theorem kk_compare_paths_lt : keepIn (KH P) (.ref 36) = true := by kernel_rfl
theorem kg_pe_name : nsIn (KH P) mainGlobals "_pe_name" = some (some (.ref 28)) := by kernel_rfl
theorem kk_pe_name : keepIn (KH P) (.ref 28) = true := by kernel_rfl
theorem kg_int_types : nsIn (KH P) mainGlobals "_int_types" = some (some (.ref 29)) := by kernel_rfl
theorem kg_ErrorDefinition : nsIn (KH P) mainGlobals "ErrorDefinition" = some (some (.ref 53)) := by kernel_rfl
theorem kk_ErrorDefinition : keepIn (KH P) (.ref 53) = true := by kernel_rfl
theorem kg_ValidationError : nsIn (KH P) mainGlobals "ValidationError" = some (some (.ref 240)) := by kernel_rfl
theorem kk_ValidationError : keepIn (KH P) (.ref 240) = true := by kernel_rfl
theorem kg_ErrorList : nsIn (KH P) mainGlobals "ErrorList" = some (some (.ref 261)) := by kernel_rfl
theorem kk_ErrorList : keepIn (KH P) (.ref 261) = true := by kernel_rfl
theorem kg_ErrorTreeNode : nsIn (KH P) mainGlobals "ErrorTreeNode" = some (some (.ref 342)) := by kernel_rfl
theorem kk_ErrorTreeNode : keepIn (KH P) (.ref 342) = true := by kernel_rfl
theorem kg_ErrorTree : nsIn (KH P) mainGlobals "ErrorTree" = some (some (.ref 391)) := by kernel_rfl
theorem kk_ErrorTree : keepIn (KH P) (.ref 391) = true := by kernel_rfl
theorem kg_DocumentErrorTree : nsIn (KH P) mainGlobals "DocumentErrorTree" = some (some (.ref 405)) := by kernel_rfl
theorem kk_DocumentErrorTree : keepIn (KH P) (.ref 405) = true := by kernel_rfl
theorem kg_SchemaErrorTree : nsIn (KH P) mainGlobals "SchemaErrorTree" = some (some (.ref 417)) := by kernel_rfl
theorem kk_SchemaErrorTree : keepIn (KH P) (.ref 417) = true := by kernel_rfl
theorem kg_law_rest : nsIn (KH P) mainGlobals "_law_rest" = some (some (.ref 426)) := by kernel_rfl
theorem kk_law_rest : keepIn (KH P) (.ref 426) = true := by kernel_rfl
theorem kg_law_table : nsIn (KH P) mainGlobals "_law_table" = some (some (.ref 433)) := by kernel_rfl
theorem kk_law_table : keepIn (KH P) (.ref 433) = true := by kernel_rfl
theorem kg_law_flags : nsIn (KH P) mainGlobals "_law_flags" = some (some (.ref 440)) := by kernel_rfl
theorem kk_law_flags : keepIn (KH P) (.ref 440) = true := by kernel_rfl
theorem kg_law_path : nsIn (KH P) mainGlobals "_law_path" = some (some (.ref 445)) := by kernel_rfl
theorem kk_law_path : keepIn (KH P) (.ref 445) = true := by kernel_rfl
theorem kg_law_refuses : nsIn (KH P) mainGlobals "_law_refuses" = some (some (.ref 452)) := by kernel_rfl
theorem kk_law_refuses : keepIn (KH P) (.ref 452) = true := by kernel_rfl
theorem kg_law_walk : nsIn (KH P) mainGlobals "_law_walk" = some (some (.ref 457)) := by kernel_rfl
theorem kk_law_walk : keepIn (KH P) (.ref 457) = true := by kernel_rfl
theorem kg_law_fronts : nsIn (KH P) mainGlobals "_law_fronts" = some (some (.ref 464)) := by kernel_rfl
theorem kk_law_fronts : keepIn (KH P) (.ref 464) = true := by kernel_rfl
theorem kg_ITEMS_LENGTH : nsIn (KH P) mainGlobals "ITEMS_LENGTH" = some (some (.ref 89)) := by kernel_rfl
theorem kg_MIN_VALUE : nsIn (KH P) mainGlobals "MIN_VALUE" = some (some (.ref 101)) := by kernel_rfl
theorem kg_ERROR_GROUP : nsIn (KH P) mainGlobals "ERROR_GROUP" = some (some (.ref 137)) := by kernel_rfl
theorem kg_LOGICAL : nsIn (KH P) mainGlobals "LOGICAL" = some (some (.ref 155)) := by kernel_rfl
theorem kg_NORMALIZATION : nsIn (KH P) mainGlobals "NORMALIZATION" = some (some (.ref 122)) := by kernel_rfl
theorem kg_str_type : nsIn (KH P) mainGlobals "_str_type" = some (some (.type "str")) := by kernel_rfl
theorem kb_len : nsIn (KH P) mainGlobals "len" = some none := by kernel_rfl
theorem kb_min : nsIn (KH P) mainGlobals "min" = some none := by kernel_rfl
theorem kb_range : nsIn (KH P) mainGlobals "range" = some none := by kernel_rfl
theorem kb_isinstance : nsIn (KH P) mainGlobals "isinstance" = some none := by kernel_rfl
theorem kb_tuple : nsIn (KH P) mainGlobals "tuple" = some none := by kernel_rfl
theorem kb_RuntimeError : nsIn (KH P) mainGlobals "RuntimeError" = some none := by kernel_rfl
theorem kb_bool : nsIn (KH P) mainGlobals "bool" = some none := by kernel_rfl
theorem kb_getattr : nsIn (KH P) mainGlobals "getattr" = some none := by kernel_rfl
theorem kb_iter : nsIn (KH P) mainGlobals "iter" = some none := by kernel_rfl
theorem kb_any : nsIn (KH P) mainGlobals "any" = some none := by kernel_rfl
theorem kb_TypeError : nsIn (KH P) mainGlobals "TypeError" = some none := by kernel_rfl
theorem kb_type : nsIn (KH P) mainGlobals "type" = some none := by kernel_rfl
theorem kb_super : nsIn (KH P) mainGlobals "super" = some none := by kernel_rfl
end Mine

-- F1
open PySem PySem.W PySem.Calls PyProof.Rows
set_option maxRecDepth 100000
set_option linter.unusedVariables false
namespace Mine
section
variable {prog : Program} {w : World} {A : Around} {h₀ : Heap} {L : Addr} {m : Loc} {nw : Led} {mg mb : Loc} {r : Nat} {env : Env}

/-- x[:k] of a path -/
theorem ev_front {value : Expr} {x : Addr} {xs : List Value} {n k : Nat} {ex : Expr} {p pos : Pos} (hv : Ev prog w A h₀ L env m nw value (· = .ref x)) (hx : (x, tupO xs n) ∈ nw) (hk : Ev prog w A h₀ L env m nw ex (fun v => ∃ t, v = .int k t)) (hle : k ≤ xs.length) (hz : xs.length < 100)
    (hs : ∀ sl, subscripted (.Slice none (some ex) none p) false (.ref x) (.ref sl) = operate [.ref sl, .ref x] (getItem (.ref x) (.ref sl)) := by intro _; with_unfolding_all rfl) :
    Ex prog w A h₀ L env m nw (.Subscript value (.Slice none (some ex) none p) pos) (Kt m nw fun v nw' => ∃ b n', v = .ref b ∧ (b, tupO (xs.take k) n') ∈ nw') :=
  ex_sub (P2 := fun o i m' nw' => o = .ref x ∧ m' = m ∧ ∃ sl t, i = .ref sl ∧ nw' = (sl, sliceO .none (.int k t) .none) :: nw) hv
    (fun o m' nw' ⟨a, b, c⟩ => by subst b; subst c; exact ex_slice_to hk fun v m'' nw'' sl ⟨⟨t, e⟩, b, c⟩ => by subst b; subst c; subst e; exact ⟨a, rfl, sl, t, rfl, rfl⟩)
    (fun o i m' nw' ⟨a, b, sl, t, c, d⟩ => by
      subst a; subst b; subst c; subst d
      refine run_slice_to (.tail _ hx) (.head _) hle (by omega) (fun e => ⟨rfl, Kp.cons, x, n, rfl, .tail _ ?_⟩) (fun hlt b => ⟨rfl, Kp.cons.trans Kp.cons, b, 0, rfl, .head _⟩) (hs sl)
      rw [e, List.take_length]; exact hx)

theorem isi_int_types {v : Value} {k : Key} (hk : vkey v = some k) {s : Shared} {Q : Value → Shared → Prop} {E : Value → Shared → Prop} (hX : (KH w.params).In s.heap) (h : ∀ tk, Q (.bool (decide (k = .z))) { s with toks := tk }) :
    wpAny (model prog w) A (call (.builtin "isinstance") [v, .ref 29]) Q E s := by
  obtain ⟨t, rfl⟩ := vkey_of hk
  have ho : s.heap.get? 29 = some { cls := .type "tuple", data := .seq [Value.type "int"].toArray } := hX _ _ (by kernel_rfl)
  cases k with
  | z => exact call_isinstance (isinstance_tuple (Tx := "int") (vs := [true]) (.cons (Answers.of_true F.isi_meta_int F.isi_self_int) .nil)) ⟨rfl, ho, h⟩
  | _ => exact call_isinstance (isinstance_tuple (Tx := "str") (vs := [false]) (.cons (Answers.of_false_str (by decide) F.isi_meta_int F.sub_str_int) .nil)) ⟨rfl, ho, h⟩

theorem isi_str {v : Value} {k : Key} (hk : vkey v = some k) {V : Value → Prop} (h : V (.bool (decide (k ≠ .z)))) : Rv prog w A h₀ L m nw (call (.builtin "isinstance") [v, .type "str"]) V := fun os fx s hs => by
  obtain ⟨t, rfl⟩ := vkey_of hk
  cases k with
  | z => exact IsiPair.int_str ⟨m, nw, hs.toks, h, rfl, rfl⟩
  | _ => exact IsiPair.str_str ⟨m, nw, hs, h, rfl, rfl⟩
theorem isi_ints {v : Value} {k : Key} (M : Fm (KH w.params) mg mb r A h₀ L) (hk : vkey v = some k) {V : Value → Prop} (h : V (.bool (decide (k = .z)))) : Rv prog w A h₀ L m nw (call (.builtin "isinstance") [v, .ref 29]) V := fun os fx s hs =>
  isi_int_types hk (hs.inK M) fun tk => ⟨m, nw, hs.toks, h, rfl, rfl⟩
theorem key_shape (k : Key) (t : Tok) : (k = .z ∧ k.val t = .int 0 t) ∨ (k ≠ .z ∧ ∃ s, k.val t = .str s t) := by
  cases k with
  | z => exact .inl ⟨rfl, rfl⟩
  | _ => exact .inr ⟨nofun, _, rfl⟩
theorem run_lt_key {u v : Value} {k k' : Key} (hu : vkey u = some k) (hv : vkey v = some k') (h : k = .z ↔ k' = .z) : Rv prog w A h₀ L m nw (compareOp .Lt u v) (fun c => ∃ b, c = .bool b) := by
  obtain ⟨t, rfl⟩ := vkey_of hu
  obtain ⟨t', rfl⟩ := vkey_of hv
  rcases key_shape k t with ⟨e, e'⟩ | ⟨e, s, e'⟩ <;> rcases key_shape k' t' with ⟨f, f'⟩ | ⟨f, s', f'⟩
  · rw [e', f']; exact run_lt_int ⟨⟨_, rfl⟩, rfl, rfl⟩
  · exact absurd (h.mp e) f
  · exact absurd (h.mpr f) e
  · rw [e', f']; exact run_lt_str fun b => ⟨⟨b, rfl⟩, rfl, rfl⟩
abbrev VI (i : Int) : Value → Prop := fun v => ∃ t, v = .int i t
abbrev VS (s : Str) : Value → Prop := fun v => ∃ t, v = .str s t
theorem ev_len_tuple {e : Expr} {p pos : Pos} {x : Addr} {xs : List Value} {n : Nat} (M : Fm (KH w.params) mg mb r A h₀ L) (hg : env.globals = mainGlobals) (hb : env.builtins = builtinsNs) (hk : env.scope.kind = .function) (hn : env.kindOf "len" = some .globalImplicit) (h : Ev prog w A h₀ L env m nw e (· = .ref x)) (hx : (x, tupO xs n) ∈ nw) (hz : xs.length < 2 ^ 24)
    (he : eval (.Call (.Name "len" p) [e] [] pos) env = (do callWith pos (← eval (.Name "len" p) env) [] (backTo pos (starEach [e] env)) (backToKw pos (keywordEach [] env))) := by rfl)
    (hs : starEach [e] env = [(false, eval e env)] := by rfl) : Ev prog w A h₀ L env m nw (.Call (.Name "len" p) [e] [] pos) (VI xs.length) :=
  ev_call1 (V := (· = .ref x)) (ex_builtin M hg hb hk hn kb_len rfl (by decide)) h (fun v hv => by subst hv; exact run_len_tuple hx hz fun t => ⟨⟨t, rfl⟩, rfl, rfl⟩) he hs
theorem ev_isi_ints {e e' : Expr} {p pos : Pos} {k : Key} (M : Fm (KH w.params) mg mb r A h₀ L) (hg : env.globals = mainGlobals) (hb : env.builtins = builtinsNs) (hk : env.scope.kind = .function) (hn : env.kindOf "isinstance" = some .globalImplicit) (h : Ev prog w A h₀ L env m nw e (fun v => vkey v = some k)) (h' : Ev prog w A h₀ L env m nw e' (· = .ref 29))
    (he : eval (.Call (.Name "isinstance" p) [e, e'] [] pos) env = (do callWith pos (← eval (.Name "isinstance" p) env) [] (backTo pos (starEach [e, e'] env)) (backToKw pos (keywordEach [] env))) := by rfl)
    (hs : starEach [e, e'] env = [(false, eval e env), (false, eval e' env)] := by rfl) (hs' : starEach [e'] env = [(false, eval e' env)] := by rfl) : Ev prog w A h₀ L env m nw (.Call (.Name "isinstance" p) [e, e'] [] pos) (· = .bool (decide (k = .z))) :=
  ev_call2 (V := fun v => vkey v = some k) (V' := (· = .ref 29)) (ex_builtin M hg hb hk hn kb_isinstance rfl (by decide)) h h' (fun v v' hv hv' => by subst hv'; exact isi_ints M hv rfl) he hs hs'
theorem ev_isi_str {e e' : Expr} {p pos : Pos} {k : Key} (M : Fm (KH w.params) mg mb r A h₀ L) (hg : env.globals = mainGlobals) (hb : env.builtins = builtinsNs) (hk : env.scope.kind = .function) (hn : env.kindOf "isinstance" = some .globalImplicit) (h : Ev prog w A h₀ L env m nw e (fun v => vkey v = some k)) (h' : Ev prog w A h₀ L env m nw e' (· = .type "str"))
    (he : eval (.Call (.Name "isinstance" p) [e, e'] [] pos) env = (do callWith pos (← eval (.Name "isinstance" p) env) [] (backTo pos (starEach [e, e'] env)) (backToKw pos (keywordEach [] env))) := by rfl)
    (hs : starEach [e, e'] env = [(false, eval e env), (false, eval e' env)] := by rfl) (hs' : starEach [e'] env = [(false, eval e' env)] := by rfl) : Ev prog w A h₀ L env m nw (.Call (.Name "isinstance" p) [e, e'] [] pos) (· = .bool (decide (k ≠ .z))) :=
  ev_call2 (V := fun v => vkey v = some k) (V' := (· = .type "str")) (ex_builtin M hg hb hk hn kb_isinstance rfl (by decide)) h h' (fun v v' hv hv' => by subst hv'; exact isi_str hv rfl) he hs hs'

theorem sx_forB {x : Str} {px : Pos} {iter : Expr} {body : List Stmt} {pos : Pos} {rest : List Stmt} {P : Value → Loc → Led → Prop} {R : Flow → Loc → Led → Prop} {It : Value → Nat → Obj → Prop} {n : Value → Nat} {V : Value → Nat → Value → Prop} {need : Value → Led → Prop} (J : Value → Nat → Loc → Led → Prop) (B : Loc → Led → Prop)
    (hl : env.locals = L) (hk : env.scope.kind = .function) (hx : env.kindOf x = some .local) (hiter : Ex prog w A h₀ L env m nw iter P)
    (hstart : ∀ v m' nw' os fx s Q, P v m' nw' → St h₀ L os m' nw' fx s → (∀ I o s', It v 0 o → St h₀ L os m' nw' ((I, o) :: fx) s' → Q (.ref I) s') → wpAny (model prog w) A (pyIter v) Q (fun _ _ => False) s)
    (W : ∀ v m' nw', P v m' nw' → Stepper prog w A (It v) (n v) (V v) (need v))
    (h0 : ∀ v m' nw', P v m' nw' → J v 0 m' nw') (hneed : ∀ v i m' nw', J v i m' nw' → need v nw')
    (turn : ∀ v i u m₁ nw₁, i < n v → V v i u → J v i m₁ nw₁ → Sx prog w A h₀ L env (upd m₁ x u) nw₁ body (fun f m' nw' => match f with | .next => J v (i + 1) m' nw' | .cont => J v (i + 1) m' nw' | .brk => B m' nw' | .ret u => R (.ret u) m' nw'))
    (brk : ∀ m' nw', B m' nw' → Sx prog w A h₀ L env m' nw' rest R)
    (done : ∀ v m' nw', J v (n v) m' nw' → Sx prog w A h₀ L env m' nw' rest R)
    (hs : ∀ x, foldedSetIterable iter env x = pure x := by intro _; rfl) :
    Sx prog w A h₀ L env m nw (.For (.Name x px) iter body [] pos :: rest) R :=
  sx_for J hl hk hx hiter hstart W h0 hneed (fun v i u m₁ nw₁ hi hv hJ => Run.mono (turn v i u m₁ nw₁ hi hv hJ) fun f m' nw' h => by
    cases f with
    | next => exact h
    | cont => exact h
    | brk => exact brk m' nw' h
    | ret u => exact h) done hs
theorem run_range {n : Int} {t : Tok} {Q : Value → Loc → Led → Prop} (h : ∀ a t u v, Q (.ref a) m ((a, rangeO n t u v) :: nw)) : Run prog w A h₀ L m nw (call (.type "range") [.int n t]) Q := fun os fx s hs =>
  call_range_1 ⟨m, _, (hs.push (rangeO n s.toks t (s.toks + 1)) rfl).toks (tk := s.toks + 1 + 1), h _ _ _ _⟩
theorem ex_range {e : Expr} {p pos : Pos} {n : Int} (M : Fm (KH w.params) mg mb r A h₀ L) (hg : env.globals = mainGlobals) (hb : env.builtins = builtinsNs) (hk : env.scope.kind = .function) (hn : env.kindOf "range" = some .globalImplicit) (h : Ev prog w A h₀ L env m nw e (VI n))
    (he : eval (.Call (.Name "range" p) [e] [] pos) env = (do callWith pos (← eval (.Name "range" p) env) [] (backTo pos (starEach [e] env)) (backToKw pos (keywordEach [] env))) := by rfl)
    (hs : starEach [e] env = [(false, eval e env)] := by rfl) :
    Ex prog w A h₀ L env m nw (.Call (.Name "range" p) [e] [] pos) (Kt m nw fun v nw' => ∃ a t u v', v = .ref a ∧ (a, rangeO n t u v') ∈ nw') :=
  ex_call (ex_builtin M hg hb hk hn kb_range rfl (by decide)) (fun f m' nw' ⟨a, b, c⟩ => by
    subst a; subst b; subst c
    exact cw_type (arg1 h hs) (fun vs m'' nw'' ⟨v, a, ⟨t, e⟩, c, d⟩ => by subst a; subst c; subst d; subst e; exact run_range fun a t u v => ⟨rfl, Kp.cons, a, t, u, v, rfl, .head _⟩) hs rfl) he
theorem sx_range {x : Str} {px : Pos} {e : Expr} {body : List Stmt} {pos p pos' : Pos} {rest : List Stmt} {R : Flow → Loc → Led → Prop} {n : Nat} (J : Nat → Loc → Led → Prop) (B : Loc → Led → Prop) (M : Fm (KH w.params) mg mb r A h₀ L)
    (hl : env.locals = L) (hg : env.globals = mainGlobals) (hb : env.builtins = builtinsNs) (hk : env.scope.kind = .function) (hx : env.kindOf x = some .local) (hn : env.kindOf "range" = some .globalImplicit) (h : Ev prog w A h₀ L env m nw e (VI n)) (hz : n < 2 ^ 40)
    (h0 : ∀ nw', Kp [] nw nw' → J 0 m nw')
    (turn : ∀ i t m₁ nw₁, i < n → J i m₁ nw₁ → Sx prog w A h₀ L env (upd m₁ x (.int i t)) nw₁ body (fun f m' nw' => match f with | .next => J (i + 1) m' nw' | .cont => J (i + 1) m' nw' | .brk => B m' nw' | .ret u => R (.ret u) m' nw'))
    (brk : ∀ m' nw', B m' nw' → Sx prog w A h₀ L env m' nw' rest R)
    (done : ∀ m' nw', J n m' nw' → Sx prog w A h₀ L env m' nw' rest R)
    (he : eval (.Call (.Name "range" p) [e] [] pos') env = (do callWith pos' (← eval (.Name "range" p) env) [] (backTo pos' (starEach [e] env)) (backToKw pos' (keywordEach [] env))) := by rfl)
    (hs : starEach [e] env = [(false, eval e env)] := by rfl) :
    Sx prog w A h₀ L env m nw (.For (.Name x px) (.Call (.Name "range" p) [e] [] pos') body [] pos :: rest) R :=
  sx_forB (P := Kt m nw fun v nw' => ∃ a t u v', v = .ref a ∧ (a, rangeO n t u v') ∈ nw') (It := fun v i o => o = { cls := .type "range_iterator", dict := none, data := .fields #[rawInt (i : Int), rawInt ((n : Int) - i), rawInt 1], slots := #[] }) (n := fun _ => n) (V := fun _ i v => ∃ t, v = .int i t) (need := fun _ _ => True)
    (fun _ => J) B hl hk hx (ex_range M hg hb hk hn h he hs)
    (fun v m' nw' os fx s Q ⟨e, kk, a, t, u, v', e', hm⟩ hs hQ => by subst e'; exact start_range (n := n) hm hz hs hQ) (fun v m' nw' _ => stepper_range M.hnd)
    (fun v m' nw' ⟨e, kk, _⟩ => by subst e; exact h0 nw' kk) (fun _ _ _ _ _ => trivial) (fun v i u m₁ nw₁ hi ⟨t, e⟩ hJ => by subst e; exact turn i t m₁ nw₁ hi hJ) brk (fun _ => done)
theorem sx_forT {K : Frag} {x : Str} {px : Pos} {iter : Expr} {body : List Stmt} {pos : Pos} {rest : List Stmt} {P : Value → Loc → Led → Prop} {R : Flow → Loc → Led → Prop} {n : Nat} (items : List Value) (J : Addr → Nat → Loc → Led → Prop) (B : Loc → Led → Prop) (M : Fm K mg mb r A h₀ L)
    (hl : env.locals = L) (hk : env.scope.kind = .function) (hx : env.kindOf x = some .local) (hiter : Ex prog w A h₀ L env m nw iter P)
    (hP : ∀ v m' nw', P v m' nw' → ∃ a, v = .ref a ∧ (a, tupO items n) ∈ nw' ∧ J a 0 m' nw') (hneed : ∀ a i m' nw', J a i m' nw' → (a, tupO items n) ∈ nw')
    (turn : ∀ a i u m₁ nw₁, items[i]? = some u → J a i m₁ nw₁ → Sx prog w A h₀ L env (upd m₁ x u) nw₁ body (fun f m' nw' => match f with | .next => J a (i + 1) m' nw' | .cont => J a (i + 1) m' nw' | .brk => B m' nw' | .ret u => R (.ret u) m' nw'))
    (brk : ∀ m' nw', B m' nw' → Sx prog w A h₀ L env m' nw' rest R)
    (done : ∀ a m' nw', J a items.length m' nw' → Sx prog w A h₀ L env m' nw' rest R)
    (hs : ∀ x, foldedSetIterable iter env x = pure x := by intro _; rfl) :
    Sx prog w A h₀ L env m nw (.For (.Name x px) iter body [] pos :: rest) R :=
  sx_forB (P := fun v m' nw' => ∃ a, v = .ref a ∧ (a, tupO items n) ∈ nw' ∧ J a 0 m' nw') (It := fun v i o => ∃ a, v = .ref a ∧ (o.cls = .type "tuple_iterator" ∧ o.data = .fields #[.ref a, .int i 0])) (n := fun _ => items.length) (V := fun _ i v => items[i]? = some v) (need := fun v nw => ∃ a, v = .ref a ∧ (a, tupO items n) ∈ nw)
    (fun v i m' nw' => ∃ a, v = .ref a ∧ J a i m' nw') B hl hk hx (hiter.mono hP)
    (fun v m' nw' os fx s Q ⟨a, e, hm, hj⟩ hs hQ => by subst e; exact start_tuple (items := items.toArray) hm rfl rfl hs fun I o s' h => hQ I o s' ⟨a, rfl, h⟩)
    (fun v m' nw' ⟨a, e, _⟩ => by
      subst e
      have S := stepper_tuple (prog := prog) (w := w) (A := A) (l := a) (items := items.toArray) M.hnd
      refine ⟨fun i h₀ L os m nw fx s I o Q hi hs ho hn hQ => S.item i h₀ L os m nw fx s I o Q (by simpa using hi) hs ?_ ?_ fun v o' s' hv ho' => hQ v o' s' (by simpa using hv) ⟨a, rfl, ho'⟩, fun h₀ L os m nw fx s I o Q hs ho hn hQ => S.done h₀ L os m nw fx s I o Q hs ?_ ?_ hQ⟩
      · obtain ⟨a', e, ho⟩ := ho; cases e; exact ho
      · obtain ⟨a', e, ho⟩ := hn; cases e; exact ⟨_, n, ho, rfl, rfl⟩
      · obtain ⟨a', e, ho⟩ := ho; cases e; simpa using ho
      · obtain ⟨a', e, ho⟩ := hn; cases e; exact ⟨_, n, ho, rfl, rfl⟩)
    (fun v m' nw' ⟨a, e, hm, hj⟩ => ⟨a, e, hj⟩) (fun v i m' nw' ⟨a, e, hj⟩ => ⟨a, e, hneed a i m' nw' hj⟩)
    (fun v i u m₁ nw₁ hi hv ⟨a, e, hJ⟩ => Run.mono (turn a i u m₁ nw₁ hv hJ) fun f m' nw' h => by
      cases f with
      | next => exact ⟨a, e, h⟩
      | cont => exact ⟨a, e, h⟩
      | brk => exact h
      | ret u => exact h) brk (fun v m' nw' ⟨a, e, hJ⟩ => done a m' nw' hJ) hs
theorem sx_forL {K : Frag} {x : Str} {px : Pos} {iter : Expr} {body : List Stmt} {pos : Pos} {rest : List Stmt} {P : Value → Loc → Led → Prop} {R : Flow → Loc → Led → Prop} {n : Nat} (items : List Value) (J : Addr → Nat → Loc → Led → Prop) (B : Loc → Led → Prop) (M : Fm K mg mb r A h₀ L)
    (hl : env.locals = L) (hk : env.scope.kind = .function) (hx : env.kindOf x = some .local) (hiter : Ex prog w A h₀ L env m nw iter P)
    (hP : ∀ v m' nw', P v m' nw' → ∃ a, v = .ref a ∧ (a, listOf items.toArray n) ∈ nw' ∧ J a 0 m' nw') (hneed : ∀ a i m' nw', J a i m' nw' → (a, listOf items.toArray n) ∈ nw')
    (turn : ∀ a i u m₁ nw₁, items[i]? = some u → J a i m₁ nw₁ → Sx prog w A h₀ L env (upd m₁ x u) nw₁ body (fun f m' nw' => match f with | .next => J a (i + 1) m' nw' | .cont => J a (i + 1) m' nw' | .brk => B m' nw' | .ret u => R (.ret u) m' nw'))
    (brk : ∀ m' nw', B m' nw' → Sx prog w A h₀ L env m' nw' rest R)
    (done : ∀ a m' nw', J a items.length m' nw' → Sx prog w A h₀ L env m' nw' rest R)
    (hs : ∀ x, foldedSetIterable iter env x = pure x := by intro _; rfl) :
    Sx prog w A h₀ L env m nw (.For (.Name x px) iter body [] pos :: rest) R :=
  sx_forB (P := fun v m' nw' => ∃ a, v = .ref a ∧ (a, listOf items.toArray n) ∈ nw' ∧ J a 0 m' nw') (It := fun v i o => ∃ a, v = .ref a ∧ (o.cls = .type "list_iterator" ∧ o.data = .fields #[.ref a, .int i 0])) (n := fun _ => items.length) (V := fun _ i v => items[i]? = some v) (need := fun v nw => ∃ a, v = .ref a ∧ (a, listOf items.toArray n) ∈ nw)
    (fun v i m' nw' => ∃ a, v = .ref a ∧ J a i m' nw') B hl hk hx (hiter.mono hP)
    (fun v m' nw' os fx s Q ⟨a, e, hm, hj⟩ hs hQ => by subst e; exact start_list (items := items.toArray) hm rfl rfl hs fun I o s' h => hQ I o s' ⟨a, rfl, h⟩)
    (fun v m' nw' ⟨a, e, _⟩ => by
      subst e
      have S := stepper_list (prog := prog) (w := w) (A := A) (l := a) (items := items.toArray) M.hnd
      refine ⟨fun i h₀ L os m nw fx s I o Q hi hs ho hn hQ => S.item i h₀ L os m nw fx s I o Q (by simpa using hi) hs ?_ ?_ fun v o' s' hv ho' => hQ v o' s' (by simpa using hv) ⟨a, rfl, ho'⟩, fun h₀ L os m nw fx s I o Q hs ho hn hQ => S.done h₀ L os m nw fx s I o Q hs ?_ ?_ hQ⟩
      · obtain ⟨a', e, ho⟩ := ho; cases e; exact ho
      · obtain ⟨a', e, ho⟩ := hn; cases e; exact ⟨_, n, ho, rfl, rfl⟩
      · obtain ⟨a', e, ho⟩ := ho; cases e; simpa using ho
      · obtain ⟨a', e, ho⟩ := hn; cases e; exact ⟨_, n, ho, rfl, rfl⟩)
    (fun v m' nw' ⟨a, e, hm, hj⟩ => ⟨a, e, hj⟩) (fun v i m' nw' ⟨a, e, hj⟩ => ⟨a, e, hneed a i m' nw' hj⟩)
    (fun v i u m₁ nw₁ hi hv ⟨a, e, hJ⟩ => Run.mono (turn a i u m₁ nw₁ hv hJ) fun f m' nw' h => by
      cases f with
      | next => exact ⟨a, e, h⟩
      | cont => exact ⟨a, e, h⟩
      | brk => exact h
      | ret u => exact h) brk (fun v m' nw' ⟨a, e, hJ⟩ => done a m' nw' hJ) hs
theorem list_take_ext {p q : List Key} {k : Nat} (hp : k ≤ p.length) (hq : k ≤ q.length) (h : ∀ j, j < k → p[j]? = q[j]?) : p.take k = q.take k := by
  apply List.ext_getElem?
  intro j
  rw [List.getElem?_take, List.getElem?_take]
  split
  · exact h j ‹_›
  · rfl

theorem args_ev {pos : Pos} {e : Expr} {rest : List Expr} {V : Value → Prop} {Q : List Value → Loc → Led → Prop} (h : Ev prog w A h₀ L env m nw e V)
    (k : ∀ v, V v → Run prog w A h₀ L m nw (spliced (backTo pos (starEach rest env))) (fun vs => Q (v :: vs)))
    (he : starEach (e :: rest) env = (false, eval e env) :: starEach rest env := by rfl) : Run prog w A h₀ L m nw (spliced (backTo pos (starEach (e :: rest) env))) Q :=
  args_cons h (fun v m' nw' ⟨a, b, c⟩ => by subst b; subst c; exact k v a) he
theorem t_cmp {x y : Addr} {p q : List Key} (hx : PathAt nw x p) (hy : PathAt nw y q) (hp : p.length < 100) (hq : q.length < 100) :
    Fp prog w (KH w.params) mg mb 9 (.ref 36) [.ref x, .ref y] nw (fun v => ∃ b, v = .bool b) := by
  obtain ⟨xs, nx, hx1, hx2⟩ := hx
  obtain ⟨ys, ny, hy1, hy2⟩ := hy
  have lx := hx2.length
  have ly := hy2.length
  refine Fn.intro (binds := [("x", .ref x), ("y", .ref y)]) (by with_unfolding_all exact rfl) (by kernel_rfl) (fun s => BindsTo.of_eq rfl) (locs rfl) (by decide) rfl rfl rfl ?_
  intro r A h₀ L hr M
  generalize hk : min xs.length ys.length = k
  refine sv_assign rfl rfl rfl (V := VI k) (ev_call2 (V := VI xs.length) (V' := VI ys.length) (ex_builtin M rfl rfl rfl rfl kb_min rfl (by decide))
    (ev_len_tuple M rfl rfl rfl rfl (ex_local rfl rfl rfl rfl) hx1 (by omega)) (ev_len_tuple M rfl rfl rfl rfl (ex_local rfl rfl rfl rfl) hy1 (by omega))
    (fun v v' ⟨t, e⟩ ⟨t', e'⟩ => by subst e; subst e'; exact run_min M.hnd fun t => ⟨⟨t, by congr 1; split <;> omega⟩, rfl, rfl⟩)) fun vm ⟨tm, em⟩ => ?_
  subst em
  have hkx : k ≤ xs.length := by omega
  have hky : k ≤ ys.length := by omega
  refine sv_if (B := fun b => b = decide (p.take k = q.take k)) (tk_cmp (V' := fun a b nw' => (∃ a', a = .ref a' ∧ PathAt nw' a' (p.take k)) ∧ ∃ b', b = .ref b' ∧ PathAt nw' b' (q.take k))
    (ev_front (ex_local rfl rfl rfl rfl) hx1 (ev_mono (ex_local (v := .int k tm) rfl rfl rfl rfl) fun v e => ⟨tm, e⟩) hkx (by omega)) ?_ ?_) ?_ ?_
  · rintro a nw' k1 ⟨b, n', rfl, hb⟩
    refine Run.mono (ev_front (ex_local rfl rfl rfl rfl) (k1.get hy1) (ev_mono (ex_local (v := .int k tm) rfl rfl rfl rfl) fun v e => ⟨tm, e⟩) hky (by omega)) ?_
    rintro c m'' nw'' ⟨rfl, k2, b', n'', rfl, hb'⟩
    exact ⟨rfl, k2, ⟨b, rfl, _, _, k2.get hb, hx2.take k⟩, b', rfl, _, _, hb', hy2.take k⟩
  · rintro a b nw' k1 ⟨⟨a', rfl, ha⟩, b', rfl, hb⟩
    exact run_eq_path (r := 5) (M.less (by omega)) ha hb ⟨rfl, Kp.refl, _, rfl, rfl⟩
  · intro _
    refine sv_ret (V := fun v => ∃ b, v = .bool b) (ev_cmp (V := VI xs.length) (V' := VI k)
      (ev_len_tuple M rfl rfl rfl rfl (ex_local rfl rfl rfl rfl) hx1 (by omega)) (ev_mono (ex_local rfl rfl rfl rfl) fun v e => ⟨tm, e⟩) fun a b ⟨t, e⟩ ⟨t', e'⟩ => by subst e; subst e'; exact run_eq_int ⟨⟨_, rfl⟩, rfl, rfl⟩) fun v hv => ⟨hv, Kp.refl⟩
  intro hne
  have hne' : p.take k ≠ q.take k := by simpa using hne.symm
  refine sx_nil ?_
  show Sx _ _ _ _ _ _ _ _ _ _
  refine sx_range (fun i m' nw' => (∀ j, j < i → p[j]? = q[j]?) ∧ Kp [] nw nw' ∧ m' "x" = some (.ref x) ∧ m' "y" = some (.ref y)) (fun _ _ => False) M rfl rfl rfl rfl rfl rfl (ev_mono (ex_local (v := .int k tm) rfl rfl rfl rfl) fun v e => ⟨tm, e⟩) (by omega)
    (fun nw' kk => ⟨fun j hj => absurd hj (Nat.not_lt_zero _), kk, rfl, rfl⟩) ?_ (fun _ _ h => h.elim) ?_
  · rintro i ti m₁ nw₁ hi ⟨hJ, kk, mx, my⟩
    obtain ⟨u, hu⟩ : ∃ u, xs[i]? = some u := ⟨_, List.getElem?_eq_getElem (by omega)⟩
    obtain ⟨u', hu'⟩ : ∃ u, ys[i]? = some u := ⟨_, List.getElem?_eq_getElem (by omega)⟩
    obtain ⟨ku, hku, hvu⟩ := hx2.get hu
    obtain ⟨kv, hkv, hvv⟩ := hy2.get hu'
    refine sx_two (P := fun vs m' nw' => vs = [u, u'] ∧ m' = upd m₁ "i" (.int i ti) ∧ Kp [] nw nw') M.hnd rfl rfl rfl rfl (ex_tuple (P := fun vs m' nw' => vs = [u, u'] ∧ m' = upd m₁ "i" (.int i ti) ∧ nw' = nw₁) ?_ ?_ ?_) ?_
    · refine Run.mono (arg2 (V := (· = u)) (V' := (· = u')) (ev_sub (V := (· = .ref x)) (V' := (· = .int i ti)) (ex_local rfl rfl rfl mx) (ex_local rfl rfl rfl rfl) fun o i' ho hi' => by subst ho; subst hi'; exact run_item_tuple (kk.get hx1) (by omega) (by omega) hu ⟨rfl, rfl, rfl⟩)
        (ev_sub (V := (· = .ref y)) (V' := (· = .int i ti)) (ex_local rfl rfl rfl my) (ex_local rfl rfl rfl rfl) fun o i' ho hi' => by subst ho; subst hi'; exact run_item_tuple (kk.get hy1) (by omega) (by omega) hu' ⟨rfl, rfl, rfl⟩)) ?_
      rintro vs m' nw' ⟨v, v', rfl, rfl, rfl, e, e'⟩
      exact ⟨rfl, e, e'⟩
    · rintro vs m' nw' ⟨rfl, _⟩; exact (show 2 < 1000 by decide)
    · rintro vs m' nw' a ⟨rfl, e, rfl⟩; exact ⟨a, u, u', rfl, ⟨rfl, e, kk.trans Kp.cons⟩, .head _⟩
    rintro w1 w2 m' nw2 ⟨e, rfl, kk2⟩
    obtain ⟨rfl, rfl⟩ : w1 = u ∧ w2 = u' := by simpa using e
    refine sx_forT [Value.ref 29, .type "str", .type "tuple"] (n := 0)
      (P := fun v m' nw' => ∃ a, v = .ref a ∧ (a, tupO [Value.ref 29, .type "str", .type "tuple"] 0) ∈ nw' ∧ m' = upd (upd (upd m₁ "i" (.int i ti)) "b" w2) "a" w1 ∧ Kp [] nw nw')
      (fun a j m' nw' => (a, tupO [Value.ref 29, .type "str", .type "tuple"] 0) ∈ nw' ∧ Kp [] nw nw' ∧ (j = 0 ∨ (j = 1 ∧ ku ≠ .z)) ∧ m' "x" = some (.ref x) ∧ m' "y" = some (.ref y) ∧ m' "a" = some w1 ∧ m' "b" = some w2)
      (fun m' nw' => Kp [] nw nw' ∧ (ku = .z ↔ kv = .z) ∧ m' "x" = some (.ref x) ∧ m' "y" = some (.ref y) ∧ m' "a" = some w1 ∧ m' "b" = some w2) M rfl rfl rfl ?_ ?_ (fun a i m' nw' h => h.1) ?_ ?_ ?_
    · refine ex_tuple (P := fun vs m' nw' => vs = [Value.ref 29, .type "str", .type "tuple"] ∧ m' = upd (upd (upd m₁ "i" (.int i ti)) "b" w2) "a" w1 ∧ nw' = nw2) (args_ev (ex_global M rfl rfl rfl kg_int_types) fun v e => args_ev (ex_global M rfl rfl rfl kg_str_type) fun v' e' => args_ev (ex_builtin M rfl rfl rfl rfl kb_tuple rfl (by decide)) fun v'' e'' => args_nil ⟨by subst e; subst e'; subst e''; rfl, rfl, rfl⟩) ?_ ?_
      · rintro vs m' nw' ⟨rfl, _⟩; exact (show 3 < 1000 by decide)
      · rintro vs m' nw' a ⟨rfl, e, rfl⟩; exact ⟨a, rfl, .head _, e, kk2.trans Kp.cons⟩
    · rintro v m' nw' ⟨a, rfl, h1, rfl, h2⟩
      exact ⟨a, rfl, h1, h1, h2, .inl rfl, mx, my, rfl, rfl⟩
    · rintro a j u m₂ nw₂ hju ⟨h1, h2, h3, h4, h5, h6, h7⟩
      rcases h3 with rfl | ⟨rfl, hz⟩
      · obtain rfl : Value.ref 29 = u := by simpa using hju
        refine sv_if (B := fun b => b = decide (ku = .z)) (tv_val (Run.mono (ev_isi_ints M rfl rfl rfl rfl (ev_mono (ex_local rfl rfl rfl h6) fun v e => by subst e; exact hvu) (ex_local rfl rfl rfl rfl)) fun c m' nw' ⟨e, e1, e2⟩ => ⟨_, e, rfl, e1, e2⟩)) (fun hb => ?_) (fun hb => ?_)
        · have hz : ku = .z := by simpa using hb.symm
          refine sv_if (B := fun b => b = decide (kv = .z)) (tv_val (Run.mono (ev_isi_ints M rfl rfl rfl rfl (ev_mono (ex_local rfl rfl rfl h7) fun v e => by subst e; exact hvv) (ex_local rfl rfl rfl rfl)) fun c m' nw' ⟨e, e1, e2⟩ => ⟨_, e, rfl, e1, e2⟩)) (fun hb => ?_) (fun hb => ?_)
          · have hz' : kv = .z := by simpa using hb.symm
            exact sx_brk ⟨h2, ⟨fun _ => hz', fun _ => hz⟩, h4, h5, h6, h7⟩
          · exact sv_ret ex_bool fun v e => ⟨⟨_, e⟩, h2⟩
        · have hz : ku ≠ .z := by simpa using hb.symm
          exact sx_nil (sx_nil ⟨h1, h2, .inr ⟨rfl, hz⟩, h4, h5, h6, h7⟩)
      · obtain rfl : Value.type "str" = u := by simpa using hju
        refine sv_if (B := fun b => b = decide (ku ≠ .z)) (tv_val (Run.mono (ev_isi_str M rfl rfl rfl rfl (ev_mono (ex_local rfl rfl rfl h6) fun v e => by subst e; exact hvu) (ex_local rfl rfl rfl rfl)) fun c m' nw' ⟨e, e1, e2⟩ => ⟨_, e, rfl, e1, e2⟩)) (fun hb => ?_) (fun hb => ?_)
        · refine sv_if (B := fun b => b = decide (kv ≠ .z)) (tv_val (Run.mono (ev_isi_str M rfl rfl rfl rfl (ev_mono (ex_local rfl rfl rfl h7) fun v e => by subst e; exact hvv) (ex_local rfl rfl rfl rfl)) fun c m' nw' ⟨e, e1, e2⟩ => ⟨_, e, rfl, e1, e2⟩)) (fun hb => ?_) (fun hb => ?_)
          · have hz' : kv ≠ .z := by simpa using hb.symm
            exact sx_brk ⟨h2, ⟨fun e => absurd e hz, fun e => absurd e hz'⟩, h4, h5, h6, h7⟩
          · exact sv_ret ex_bool fun v e => ⟨⟨_, e⟩, h2⟩
        · exact absurd (by simpa using hb.symm) hz
    · rintro m' nw' ⟨h2, hiff, h4, h5, h6, h7⟩
      refine sv_if (B := fun b => b = decide (ku = kv)) (tv_cmp (V := (· = w1)) (V' := (· = w2)) (ex_local rfl rfl rfl h6) (ex_local rfl rfl rfl h7) fun a b ha hb => by subst ha; subst hb; exact run_eq_key (r := 5) (M.less (by omega)) hvu hvv ⟨_, rfl, rfl, rfl, rfl⟩) (fun hb => ?_) (fun hb => ?_)
      · have e : ku = kv := by simpa using hb.symm
        refine sx_cont ⟨fun j hj => ?_, h2, h4, h5⟩
        rcases Nat.lt_succ_iff_lt_or_eq.mp hj with h | h
        · exact hJ j h
        · subst h; rw [hku, hkv, e]
      · refine sv_if (B := fun b => True) (tv_cmp (V := (· = w1)) (V' := (· = w2)) (ex_local rfl rfl rfl h6) (ex_local rfl rfl rfl h7) fun a b ha hb => by subst ha; subst hb; exact Run.mono (run_lt_key hvu hvv hiff) fun c m' nw' ⟨⟨b, e⟩, e1, e2⟩ => ⟨b, e, trivial, e1, e2⟩) (fun hb => ?_) (fun hb => ?_)
        · exact sv_ret ex_bool fun v e => ⟨⟨_, e⟩, h2⟩
        · exact sv_ret ex_bool fun v e => ⟨⟨_, e⟩, h2⟩
    · rintro a m' nw' ⟨h1, h2, h3, _⟩
      rcases h3 with h | ⟨h, _⟩ <;> exact absurd h (by decide)
  · rintro m' nw' ⟨hJ, _⟩
    exact absurd (list_take_ext (by omega) (by omega) hJ) hne'
end
end Mine

-- F2
open PySem PySem.W PySem.Calls PyProof.Rows
set_option maxRecDepth 100000
set_option linter.unusedVariables false
namespace Mine
/-- the definitions -/
def defB (K : Frag) (a : Addr) (c : Int) (r : Option Str) : Bool := match K.lookup a with
  | some ox => (ox.cls == .ref 53) && notCls ox && (match ox.dict with
    | some dx => match K.lookup dx with
      | some ⟨cl, none, .dict es n, sl⟩ => (cl == .type "dict") && sl.size == 0 && (match getL "code" es.toList with | some (some (.int c' _)) => c' == c | _ => false) &&
          (match getL "rule" es.toList, r with | some (some .none), none => true | some (some (.str s _)), some r' => s == r' | _, _ => false)
      | _ => false
    | none => false)
  | none => false
structure DefAt (K : Frag) (a : Addr) (c : Int) (r : Option Str) : Prop where
  at_ : ∃ ox es n t, (∀ nw, Ins K nw a 53 ox (dictOf es n)) ∧ getL "code" es = some (some (.int c t)) ∧ (match r with | none => getL "rule" es = some (some .none) | some r' => ∃ t, getL "rule" es = some (some (.str r' t)))
theorem DefAt.of {K a c r} (h : defB K a c r = true) : DefAt K a c r := by
  unfold defB at h
  split at h
  · rename_i ox e
    simp only [Bool.and_eq_true, beq_iff_eq] at h
    obtain ⟨⟨h1, h2⟩, h3⟩ := h
    split at h3
    · rename_i dx ed
      split at h3
      · rename_i cl es n sl eo
        simp only [Bool.and_eq_true, beq_iff_eq] at h3
        obtain ⟨⟨⟨rfl, h6⟩, h4⟩, h5⟩ := h3
        split at h4
        · rename_i c' t ec
          rw [beq_iff_eq] at h4; subst h4
          refine ⟨ox, es.toList, n, t, fun nw => ⟨h1, h2, dx, ed, .inr ⟨e, ?_⟩⟩, ec, ?_⟩
          · rw [eo]; have := Array.size_eq_zero_iff.mp h6; subst this; simp
          · split at h5
            · assumption
            · rename_i s t' r' er
              rw [beq_iff_eq] at h5; subst h5
              exact ⟨t', er⟩
            · cases h5
        · cases h4
      · cases h3
    · cases h3
  · cases h
abbrev Row := Addr × Nat × Option Str
def rw1 (a c : Nat) (r : String) : Row := (a, c, some (Str.ofString r))
def rw0 (a c : Nat) : Row := (a, c, none)
def rows : List Row := [rw0 59 0, rw1 62 2 "required", rw0 65 3, rw1 68 4 "dependencies", rw1 71 5 "dependencies", rw1 74 6 "excludes", rw1 77 34 "empty", rw1 80 35 "nullable", rw1 83 36 "type", rw1 86 37 "schema", rw1 89 38 "items", rw1 92 39 "minlength", rw1 95 40 "maxlength", rw1 98 65 "regex", rw1 101 66 "min", rw1 104 67 "max", rw1 107 68 "allowed", rw1 110 69 "allowed", rw1 113 70 "forbidden", rw1 116 71 "forbidden", rw1 119 72 "contains", rw0 122 96, rw1 125 97 "coerce", rw1 128 98 "rename_handler", rw1 131 99 "readonly", rw1 134 100 "default_setter", rw0 137 128, rw1 140 129 "schema", rw1 143 130 "schema", rw1 146 131 "keysrules", rw1 146 131 "keysrules", rw1 149 132 "valuesrules", rw1 149 132 "valuesrules", rw1 152 143 "items", rw0 155 144, rw1 158 145 "noneof", rw1 161 146 "oneof", rw1 164 147 "anyof", rw1 167 148 "allof"]
theorem rows_def {P : Params} : ∀ x ∈ rows, DefAt (KH P) x.1 x.2.1 x.2.2 := by
  have h : rows.all (fun x => defB (KH P) x.1 x.2.1 x.2.2) = true := by kernel_rfl
  intro x hx
  exact DefAt.of (List.all_eq_true.mp h x hx)
section
variable {prog : Program} {w : World} {A : Around} {h₀ : Heap} {L : Addr} {m : Loc} {nw : Led} {mg mb : Loc} {r : Nat} {env : Env} {K : Frag}

theorem Fm.under {c : Code} (M : Fm K mg mb (r + 1) A h₀ L) (he : c.envs = []) (hw : c.weight ≤ 1) (hu : c.cUnits ≤ 30) : Fm K mg mb r (A.under c) h₀ L := by
  obtain ⟨A₀, base, outer, fe, B, hA, hf, hke⟩ := M.below
  refine ⟨⟨A₀, base, outer, fe, B, ?_, hf, hke⟩, M.hnd, M.gr, ?_, ?_⟩
  · show pushEnvs c.envs A.frames = _
    rw [he]; cases e : A.frames <;> first | (rw [← e]; exact hA) | (rw [e] at hA; cases hA) | skip
    all_goals (rw [e] at hA; simpa [pushEnvs] using hA)
  · have := M.room; show A.depth + c.weight + r < recursionLimit; omega
  · have := M.units; show A.units + c.cUnits + 30 * r < cLine; omega
theorem Fm.underT {C : Addr} {vals : List Value} {kw : List (Str × Value)} (M : Fm K mg mb (r + 1) A h₀ L) : Fm K mg mb r (A.under (.builtin "type.__call__" ⟨.ref C :: vals, kw⟩)) h₀ L :=
  M.under rfl (Nat.le_of_eq (by rfl)) (Nat.le_of_ble_eq_true (by rfl))
theorem sx_attr {o attr pos' value pos rest} {P : Value → Loc → Led → Prop} {P2 : Value → Value → Loc → Led → Prop} {R : Flow → Loc → Led → Prop} (hv : Ex prog w A h₀ L env m nw value P) (ho : ∀ v m' nw', P v m' nw' → Ex prog w A h₀ L env m' nw' o (P2 v))
    (k : ∀ v ov m' nw', P2 v ov m' nw' → Run prog w A h₀ L m' nw' (setAttr ov attr v) (fun _ m'' nw'' => Sx prog w A h₀ L env m'' nw'' rest R))
    (hs : swapsWith value (some (.Attribute o attr pos')) pos.line env = pure false := by rfl) : Sx prog w A h₀ L env m nw (.Assign [.Attribute o attr pos'] value pos :: rest) R :=
  sx_cons fun os fx s hst => plainObj_wpAny_Assign_Attribute (wpAny_mono (hv os fx s hst) (fun v s₁ ⟨m', nw', hs', hp⟩ => wpAny_mono (ho v m' nw' hp os fx s₁ hs') (fun ov s₂ ⟨m'', nw'', hs'', hp2⟩ => wpAny_mono (k v ov m'' nw'' hp2 os fx s₂ hs'') (fun _ s₃ ⟨m3, nw3, hs3, h⟩ => ⟨m3, nw3, hs3, h⟩) fun _ _ x => x) fun _ _ x => x) fun _ _ x => x) hs
theorem sv_attr {o attr pos' value pos rest} {v ov : Value} {R : Flow → Loc → Led → Prop} (hv : Ev prog w A h₀ L env m nw value (· = v)) (ho : Ev prog w A h₀ L env m nw o (· = ov))
    (k : Run prog w A h₀ L m nw (setAttr ov attr v) (fun _ m'' nw'' => Sx prog w A h₀ L env m'' nw'' rest R))
    (hs : swapsWith value (some (.Attribute o attr pos')) pos.line env = pure false := by rfl) : Sx prog w A h₀ L env m nw (.Assign [.Attribute o attr pos'] value pos :: rest) R :=
  sx_attr (P2 := fun v' o' m' nw' => v' = v ∧ o' = ov ∧ m' = m ∧ nw' = nw) hv (fun v' m' nw' ⟨a, b, c⟩ => by subst b; subst c; exact ho.mono fun o' m'' nw'' ⟨x, y, z⟩ => ⟨a, x, y, z⟩) (fun v' o' m' nw' ⟨a, b, c, d⟩ => by subst a; subst b; subst c; subst d; exact k) hs
theorem sx_expr {e pos rest} {P : Value → Loc → Led → Prop} {R : Flow → Loc → Led → Prop} (h : Ex prog w A h₀ L env m nw e P) (hr : ∀ v m' nw', P v m' nw' → v.onHeap = false ∧ Sx prog w A h₀ L env m' nw' rest R)
    (hi : interactive env = false := by rfl) (hs : swapsWith e none pos.line env = pure false := by rfl) : Sx prog w A h₀ L env m nw (.Expr e pos :: rest) R :=
  sx_cons fun os fx s hst => wpAny_Expr (wpAny_mono (h os fx s hst) (fun v s₁ ⟨m', nw', hs', hp⟩ => by
    obtain ⟨h1, h2⟩ := hr v m' nw' hp
    cases v with
    | ref a => cases h1
    | _ => exact ⟨m', nw', hs', h2⟩) fun _ _ x => x) hi hs
end
end Mine

-- F3
open PySem PySem.W PySem.Calls PyProof.Rows
set_option maxRecDepth 100000
set_option linter.unusedVariables false
namespace Mine
section
variable {prog : Program} {w : World} {A : Around} {h₀ : Heap} {L : Addr} {m : Loc} {nw : Led} {mg mb : Loc} {r : Nat} {env : Env} {K : Frag}

/-- an object made -/
theorem run_new {C fI : Addr} {pos : List Value} {d : Nat} {P : Addr → Led → Prop} {Q : Value → Loc → Led → Prop} (M : Fm K mg mb r A h₀ L) (hm : makesIn K C = true) (hi : findIn K (.ref C) "__init__" = some (some (.ref fI))) (hf : isFn K (.ref fI) = true)
    (h : ∀ x dx, x ≠ dx → x ∉ nw.map (·.1) → dx ∉ nw.map (·.1) → Fn prog w K mg mb d (.ref fI) (.ref x :: pos) ((x, instObj C dx) :: (dx, dictOf [] 0) :: nw) (fun v nw' => v = .none ∧ P x nw')) (hd : d + 1 ≤ r)
    (k : ∀ x nw', P x nw' → Q (.ref x) m nw') : Run prog w A h₀ L m nw (call (.ref C) pos) Q := fun os fx s hs => by
  obtain ⟨r', rfl⟩ : ∃ r', r = r' + 1 := ⟨r - 1, by omega⟩
  refine call_cls hs.F M.gr.X hs.N hm hi hf fun x dx h' F' N' hlt hlx => ?_
  have hnx : x ∉ (nw ++ fx).map (·.1) := fun hx => by
    obtain ⟨p, hp, e⟩ := List.mem_map.mp hx
    exact Nat.lt_irrefl _ (Nat.lt_trans hlx (e ▸ hlt p hp))
  have hnd : dx ∉ (nw ++ fx).map (·.1) := fun hx => by
    obtain ⟨p, hp, e⟩ := List.mem_map.mp hx
    exact Nat.lt_irrefl _ (e ▸ hlt p hp)
  have hs' : St h₀ L os m ((x, instObj C dx) :: (dx, dictOf [] 0) :: nw) fx { s with heap := h' } := by
    refine ⟨F', N', ?_, hs.os, hs.bare⟩
    rw [List.cons_append, List.cons_append, List.map_cons, List.map_cons, List.nodup_cons, List.nodup_cons]
    refine ⟨?_, hnd, hs.D⟩
    rw [List.mem_cons]
    rintro (e | e)
    · exact absurd e (Nat.ne_of_gt hlx)
    · exact hnx e
  rw [List.map_append] at hnx hnd
  refine codeAny_mono (h x dx (Nat.ne_of_gt hlx) (fun q => hnx (List.mem_append_left _ q)) (fun q => hnd (List.mem_append_left _ q)) r' _ h₀ L m os fx _ (by omega) M.underT hs') ?_
  rintro res s' ⟨v, nw', rfl, hst, rfl, hp⟩
  exact ⟨rfl, m, nw', hst, k x nw' hp⟩
/-- self.name = e, into the object's dict -/
theorem sv_setd {x dx C : Addr} {ox : Obj} {es : List DictEntry} {n : Nat} {o e : Expr} {name : Str} {pos' pos : Pos} {rest : List Stmt} {v : Value} {R : Flow → Loc → Led → Prop} (M : Fm K mg mb r A h₀ L) (a : DictSet K C name) (hc : ox.cls = .ref C) (hno : notCls ox = true) (hd : ox.dict = some dx) (hxd : x ≠ dx)
    (hx : (x, ox) ∈ nw) (hdx : (dx, dictOf es n) ∈ nw) (ho : Ev prog w A h₀ L env m nw o (· = .ref x)) (he : Ev prog w A h₀ L env m nw e (· = v)) (hl : (getL name es).isSome = true) (hz : es.length < 1000)
    (h : ∀ nw' hsh tk n', Kp [dx] nw nw' → (x, ox) ∈ nw' → (dx, dictOf (putL name hsh (.str name tk) v es) n') ∈ nw' → Sx prog w A h₀ L env m nw' rest R)
    (hs : swapsWith e (some (.Attribute o name pos')) pos.line env = pure false := by rfl) : Sx prog w A h₀ L env m nw (.Assign [.Attribute o name pos'] e pos :: rest) R := by
  refine sv_attr he ho (run_set_dict M hd hdx ⟨hc, hno, dx, hd, .inl ⟨hx, hdx⟩⟩ a hl hz fun tk es' n' e => ?_) hs
  cases e
  exact h _ _ _ _ (fun p hp hW => mem_setL_ne hp fun q => hW (by rw [q]; exact .head _)) (mem_setL_ne hx hxd) (mem_setL_self hdx)
end
end Mine

-- F4
open PySem PySem.W PySem.Calls PyProof.Rows
set_option maxRecDepth 100000
set_option linter.unusedVariables false
namespace Mine
section
variable {prog : Program} {w : World} {A : Around} {h₀ : Heap} {L : Addr} {m : Loc} {nw : Led} {mg mb : Loc} {r : Nat} {env : Env} {K : Frag}
theorem sv_doc {t : Str} {k : Nat} {p pos : Pos} {rest : List Stmt} {R : Flow → Loc → Led → Prop} (h : Sx prog w A h₀ L env m nw rest R) (hi : interactive env = false := by rfl) (hs : swapsWith (.Constant (.str t) k p) none pos.line env = pure false := by rfl) : Sx prog w A h₀ L env m nw (.Expr (.Constant (.str t) k p) pos :: rest) R :=
  sx_expr ex_str (fun v m' nw' ⟨⟨t, e⟩, b, c⟩ => by subst b; subst c; subst e; exact ⟨rfl, h⟩) hi hs
theorem t_ve_init {x dx : Addr} {v1 v2 v3 v4 v5 v6 v7 : Value} (hxd : x ≠ dx) (hx : (x, instObj 240 dx) ∈ nw) (hdx : (dx, dictOf [] 0) ∈ nw) :
    Fn prog w (KH w.params) mg mb 1 (.ref 182) [.ref x, v1, v2, v3, v4, v5, v6, v7] nw (fun v nw' => v = .none ∧ Kp [dx] nw nw' ∧ (x, instObj 240 dx) ∈ nw' ∧ ∃ es n, (dx, dictOf es n) ∈ nw' ∧ getL "document_path" es = some (some v1) ∧ getL "schema_path" es = some (some v2) ∧ getL "code" es = some (some v3) ∧ getL "info" es = some (some v7)) := by
  refine Fn.intro (d := 0) (binds := [("self", .ref x), ("document_path", v1), ("schema_path", v2), ("code", v3), ("rule", v4), ("constraint", v5), ("value", v6), ("info", v7)]) (by with_unfolding_all exact rfl) (by kernel_rfl) (fun s => BindsTo.of_eq rfl) (locs rfl) (by decide) rfl rfl rfl ?_
  intro r A h₀ L hr M
  refine sv_setd M kf_dset_document_path rfl rfl rfl hxd hx hdx (ex_local rfl rfl rfl rfl) (ex_local rfl rfl rfl rfl) rfl (Nat.le_of_ble_eq_true rfl) fun nw1 h1 t1 n1 k1 hx1 hd1 => ?_
  refine sv_doc ?_
  refine sv_setd M kf_dset_schema_path rfl rfl rfl hxd hx1 hd1 (ex_local rfl rfl rfl rfl) (ex_local rfl rfl rfl rfl) rfl (Nat.le_of_ble_eq_true rfl) fun nw2 h2 t2 n2 k2 hx2 hd2 => ?_
  refine sv_doc ?_
  refine sv_setd M kf_dset_code rfl rfl rfl hxd hx2 hd2 (ex_local rfl rfl rfl rfl) (ex_local rfl rfl rfl rfl) rfl (Nat.le_of_ble_eq_true rfl) fun nw3 h3 t3 n3 k3 hx3 hd3 => ?_
  refine sv_doc ?_
  refine sv_setd M kf_dset_rule rfl rfl rfl hxd hx3 hd3 (ex_local rfl rfl rfl rfl) (ex_local rfl rfl rfl rfl) rfl (Nat.le_of_ble_eq_true rfl) fun nw4 h4 t4 n4 k4 hx4 hd4 => ?_
  refine sv_doc ?_
  refine sv_setd M kf_dset_constraint rfl rfl rfl hxd hx4 hd4 (ex_local rfl rfl rfl rfl) (ex_local rfl rfl rfl rfl) rfl (Nat.le_of_ble_eq_true rfl) fun nw5 h5 t5 n5 k5 hx5 hd5 => ?_
  refine sv_doc ?_
  refine sv_setd M kf_dset_value rfl rfl rfl hxd hx5 hd5 (ex_local rfl rfl rfl rfl) (ex_local rfl rfl rfl rfl) rfl (Nat.le_of_ble_eq_true rfl) fun nw6 h6 t6 n6 k6 hx6 hd6 => ?_
  refine sv_doc ?_
  refine sv_setd M kf_dset_info rfl rfl rfl hxd hx6 hd6 (ex_local rfl rfl rfl rfl) (ex_local rfl rfl rfl rfl) rfl (Nat.le_of_ble_eq_true rfl) fun nw7 h7 t7 n7 k7 hx7 hd7 => ?_
  refine sv_doc ?_
  exact sx_nil ⟨rfl, ((((((k1.trans k2).trans k3).trans k4).trans k5).trans k6).trans k7), hx7, _, n7, hd7, rfl, rfl, rfl, rfl⟩
end
end Mine

-- F5
open PySem PySem.W PySem.Calls PyProof.Rows
set_option maxRecDepth 100000
set_option linter.unusedVariables false
namespace Mine
section
variable {prog : Program} {w : World} {A : Around} {h₀ : Heap} {L : Addr} {m : Loc} {nw : Led} {mg mb : Loc} {r : Nat} {env : Env} {K : Frag}
/-- tests joined -/
theorem tv_or {values : List Expr} {pos : Pos} {whole : Sem Value} {Q : Bool → Loc → Led → Prop} (h : Run prog w A h₀ L m nw (allTrue .Or values env) Q) : Run prog w A h₀ L m nw (isTrue (.BoolOp .Or values pos) env whole) Q := fun os fx s hs => wpAny_isTrue_BoolOp (h os fx s hs)
theorem tv_and {values : List Expr} {pos : Pos} {whole : Sem Value} {Q : Bool → Loc → Led → Prop} (h : Run prog w A h₀ L m nw (allTrue .And values env) Q) : Run prog w A h₀ L m nw (isTrue (.BoolOp .And values pos) env whole) Q := fun os fx s hs => wpAny_isTrue_BoolOp (h os fx s hs)
theorem or_nil {Q : Bool → Loc → Led → Prop} (h : Q false m nw) : Run prog w A h₀ L m nw (allTrue .Or [] env) Q := fun os fx s hs => wpAny_allTrue_Or_nil ⟨m, nw, hs, h⟩
theorem and_nil {Q : Bool → Loc → Led → Prop} (h : Q true m nw) : Run prog w A h₀ L m nw (allTrue .And [] env) Q := fun os fx s hs => wpAny_allTrue_And_nil ⟨m, nw, hs, h⟩
theorem or_cons {x : Expr} {rest : List Expr} {B : Bool → Prop} {Q : Bool → Loc → Led → Prop} (h : Tv prog w A h₀ L env m nw x B) (k1 : B true → Q true m nw) (k2 : B false → Run prog w A h₀ L m nw (allTrue .Or rest env) Q) : Run prog w A h₀ L m nw (allTrue .Or (x :: rest) env) Q := fun os fx s hs =>
  wpAny_allTrue_Or_cons (wpAny_mono (h os fx s hs) (fun b s₁ ⟨m', nw', hs', hb, e1, e2⟩ => by
    subst e1; subst e2
    cases b with
    | true => exact ⟨m', nw', hs', k1 hb⟩
    | false => exact k2 hb os fx s₁ hs') fun _ _ x => x)
theorem and_cons {x : Expr} {rest : List Expr} {B : Bool → Prop} {Q : Bool → Loc → Led → Prop} (h : Tv prog w A h₀ L env m nw x B) (k1 : B false → Q false m nw) (k2 : B true → Run prog w A h₀ L m nw (allTrue .And rest env) Q) : Run prog w A h₀ L m nw (allTrue .And (x :: rest) env) Q := fun os fx s hs =>
  wpAny_allTrue_And_cons (wpAny_mono (h os fx s hs) (fun b s₁ ⟨m', nw', hs', hb, e1, e2⟩ => by
    subst e1; subst e2
    cases b with
    | false => exact ⟨m', nw', hs', k1 hb⟩
    | true => exact k2 hb os fx s₁ hs') fun _ _ x => x)
theorem tv_not {x : Expr} {pos : Pos} {whole : Sem Value} {B B' : Bool → Prop} (h : Tv prog w A h₀ L env m nw x B') (k : ∀ b, B' b → B (!b)) : Run prog w A h₀ L m nw (isTrue (.UnaryOp .Not x pos) env whole) (fun b m' nw' => B b ∧ m' = m ∧ nw' = nw) := tx_not (h.mono fun b m' nw' ⟨a, c⟩ => ⟨k b a, c⟩)
theorem ex_ifexp {test body orelse : Expr} {pos : Pos} {B : Bool → Prop} {Q : Value → Loc → Led → Prop} (h : Tv prog w A h₀ L env m nw test B) (k1 : B true → Ex prog w A h₀ L env m nw body Q) (k2 : B false → Ex prog w A h₀ L env m nw orelse Q) : Ex prog w A h₀ L env m nw (.IfExp test body orelse pos) Q := fun os fx s hs =>
  wpAny_IfExp (wpAny_mono (h os fx s hs) (fun b s₁ ⟨m', nw', hs', hb, e1, e2⟩ => by
    subst e1; subst e2
    cases b with
    | true => exact k1 hb os fx s₁ hs'
    | false => exact k2 hb os fx s₁ hs') fun _ _ x => x)
theorem ex_or2 {a b : Expr} {pos : Pos} {B : Bool → Prop} {Q : Value → Loc → Led → Prop} (h : Ev prog w A h₀ L env m nw a (fun v => ∃ x, v = .bool x ∧ B x)) (k1 : B true → Q (.bool true) m nw) (k2 : B false → Ex prog w A h₀ L env m nw b Q) : Ex prog w A h₀ L env m nw (.BoolOp .Or [a, b] pos) Q := fun os fx s hs =>
  BoolOp_or (wpAny_mono (h os fx s hs) (fun v s₁ ⟨m', nw', hs', ⟨x, e, hb⟩, e1, e2⟩ => by
    subst e; subst e1; subst e2
    refine wpAny_truthy_bool ?_
    cases x with
    | true => exact ⟨m', nw', hs', k1 hb⟩
    | false => exact BoolOp_one (k2 hb os fx s₁ hs')) fun _ _ x => x)
/-- a call of what stands at the top -/
theorem ex_callK {func e : Expr} {rest : List Expr} {pos : Pos} {f : Value} {P : List Value → Loc → Led → Prop} {Q : Value → Loc → Led → Prop} (M : Fm K mg mb r A h₀ L) (hf : Ev prog w A h₀ L env m nw func (· = f)) (hk : keepIn K f = true) (ha : Run prog w A h₀ L m nw (spliced (backTo pos (starEach (e :: rest) env))) P)
    (k : ∀ vs m' nw', P vs m' nw' → Run prog w A h₀ L m' nw' (call f vs) Q)
    (he : eval (.Call func (e :: rest) [] pos) env = (do callWith pos (← eval func env) [] (backTo pos (starEach (e :: rest) env)) (backToKw pos (keywordEach [] env))) := by rfl)
    (hs : starEach (e :: rest) env = (false, eval e env) :: starEach rest env := by rfl) (hplain : (backTo pos (starEach rest env)).any (·.1) = false := by rfl) :
    Ex prog w A h₀ L env m nw (.Call func (e :: rest) [] pos) Q :=
  ex_call hf (fun f' m' nw' ⟨a, b, c⟩ => by subst a; subst b; subst c; exact cw_K M hk ha k hs hplain) he
theorem ex_callK0 {func : Expr} {pos : Pos} {f : Value} {Q : Value → Loc → Led → Prop} (M : Fm K mg mb r A h₀ L) (hf : Ev prog w A h₀ L env m nw func (· = f)) (hk : keepIn K f = true)
    (k : Run prog w A h₀ L m nw (call f []) Q)
    (he : eval (.Call func [] [] pos) env = (do callWith pos (← eval func env) [] (backTo pos (starEach [] env)) (backToKw pos (keywordEach [] env))) := by rfl) :
    Ex prog w A h₀ L env m nw (.Call func [] [] pos) Q :=
  ex_call hf (fun f' m' nw' ⟨a, b, c⟩ => by subst a; subst b; subst c; exact cw_K0 M hk k) he
/-- ints -/
theorem rv_and {a b : Nat} {t u : Tok} : Rv prog w A h₀ L m nw (binaryOp .BitAnd (.int a t) (.int b u)) (VI ((a &&& b : Nat) : Int)) := fun os fx s hs => and_int (by
  rw [bitAnd_pp (by omega) (by omega)]
  exact ⟨m, nw, hs.toks (tk := s.toks + 1), ⟨s.toks, rfl⟩, rfl, rfl⟩)
theorem rv_sub {a b : Int} {t u : Tok} : Rv prog w A h₀ L m nw (binaryOp .Sub (.int a t) (.int b u)) (VI (a - b)) := fun os fx s hs => PyProof.Rows.sub_int ⟨m, nw, hs.toks, ⟨_, rfl⟩, rfl, rfl⟩
theorem rv_add {a b : Int} {t u : Tok} : Rv prog w A h₀ L m nw (binaryOp .Add (.int a t) (.int b u)) (VI (a + b)) := fun os fx s hs => PyProof.Rows.add_int ⟨m, nw, hs.toks, ⟨_, rfl⟩, rfl, rfl⟩
theorem ev_bool_int {e : Expr} {p pos : Pos} {n : Int} (M : Fm (KH w.params) mg mb r A h₀ L) (hg : env.globals = mainGlobals) (hb : env.builtins = builtinsNs) (hk : env.scope.kind = .function) (hn : env.kindOf "bool" = some .globalImplicit) (h : Ev prog w A h₀ L env m nw e (VI n))
    (he : eval (.Call (.Name "bool" p) [e] [] pos) env = (do callWith pos (← eval (.Name "bool" p) env) [] (backTo pos (starEach [e] env)) (backToKw pos (keywordEach [] env))) := by rfl)
    (hs : starEach [e] env = [(false, eval e env)] := by rfl) :
    Ev prog w A h₀ L env m nw (.Call (.Name "bool" p) [e] [] pos) (· = .bool (n != 0)) :=
  ex_call (ex_builtin M hg hb hk hn kb_bool rfl (by decide)) (fun f m' nw' ⟨a, b, c⟩ => by
    subst a; subst b; subst c
    exact cw_type (arg1 h hs) (fun vs m'' nw'' ⟨v, a, ⟨t, e⟩, c, d⟩ => by subst a; subst c; subst d; subst e; exact fun os fx s hs => call_bool_int ⟨_, _, hs, rfl, rfl, rfl⟩) hs rfl) he

/-- a fault in the ledger -/
def VeAt (nw : Led) (x : Addr) (doc sch : List Key) (code : Nat) (info : Addr) : Prop :=
  ∃ dx es n dp sp t, (x, instObj 240 dx) ∈ nw ∧ (dx, dictOf es n) ∈ nw ∧ (getL "document_path" es = some (some (.ref dp)) ∧ PathAt nw dp doc ∧ doc.length < 100) ∧ (getL "schema_path" es = some (some (.ref sp)) ∧ PathAt nw sp sch ∧ sch.length < 100) ∧ getL "code" es = some (some (.int code t)) ∧ getL "info" es = some (some (.ref info))
variable {x info : Addr} {doc sch : List Key} {code : Nat}
theorem VeAt.keep0 {nw'} (V : VeAt nw x doc sch code info) (k : Kp [] nw nw') : VeAt nw' x doc sch code info := by
  obtain ⟨dx, es, n, dp, sp, t, h1, h2, ⟨h3, h4, h5⟩, ⟨h6, h7, h8⟩, h9, h10⟩ := V
  exact ⟨dx, es, n, dp, sp, t, k.get h1, k.get h2, ⟨h3, h4.keep0 k, h5⟩, ⟨h6, h7.keep0 k, h8⟩, h9, h10⟩
theorem Rv.of_Q {t : Sem Value} {V : Value → Prop} {v : Value} (h : ∀ Q : Value → Loc → Led → Prop, Q v m nw → Run prog w A h₀ L m nw t Q) (hv : V v) : Rv prog w A h₀ L m nw t V := h _ ⟨hv, rfl, rfl⟩
theorem ve_code (M : Fm (KH w.params) mg mb r A h₀ L) (V : VeAt nw x doc sch code info) {b : Bool} : Rv prog w A h₀ L m nw (getAttr (.ref x) "code" b) (VI code) := by
  obtain ⟨dx, es, n, dp, sp, t, h1, h2, ⟨h3, h4, h5⟩, ⟨h6, h7, h8⟩, h9, h10⟩ := V
  exact run_own M ⟨rfl, rfl, dx, rfl, .inl ⟨h1, h2⟩⟩ kf_own_code h9 rfl ⟨⟨t, rfl⟩, rfl, rfl⟩
theorem ve_info (M : Fm (KH w.params) mg mb r A h₀ L) (V : VeAt nw x doc sch code info) {b : Bool} : Rv prog w A h₀ L m nw (getAttr (.ref x) "info" b) (· = .ref info) := by
  obtain ⟨dx, es, n, dp, sp, t, h1, h2, ⟨h3, h4, h5⟩, ⟨h6, h7, h8⟩, h9, h10⟩ := V
  exact run_own M ⟨rfl, rfl, dx, rfl, .inl ⟨h1, h2⟩⟩ kf_own_info h10 rfl ⟨rfl, rfl, rfl⟩
theorem ve_doc (M : Fm (KH w.params) mg mb r A h₀ L) (V : VeAt nw x doc sch code info) {b : Bool} : Rv prog w A h₀ L m nw (getAttr (.ref x) "document_path" b) (fun v => ∃ a, v = .ref a ∧ PathAt nw a doc) := by
  obtain ⟨dx, es, n, dp, sp, t, h1, h2, ⟨h3, h4, h5⟩, ⟨h6, h7, h8⟩, h9, h10⟩ := V
  exact run_own M ⟨rfl, rfl, dx, rfl, .inl ⟨h1, h2⟩⟩ kf_own_document_path h3 rfl ⟨⟨_, rfl, h4⟩, rfl, rfl⟩
theorem ve_sch (M : Fm (KH w.params) mg mb r A h₀ L) (V : VeAt nw x doc sch code info) {b : Bool} : Rv prog w A h₀ L m nw (getAttr (.ref x) "schema_path" b) (fun v => ∃ a, v = .ref a ∧ PathAt nw a sch) := by
  obtain ⟨dx, es, n, dp, sp, t, h1, h2, ⟨h3, h4, h5⟩, ⟨h6, h7, h8⟩, h9, h10⟩ := V
  exact run_own M ⟨rfl, rfl, dx, rfl, .inl ⟨h1, h2⟩⟩ kf_own_schema_path h6 rfl ⟨⟨_, rfl, h7⟩, rfl, rfl⟩
theorem def_code {a : Addr} {c : Int} {rl : Option Str} (M : Fm (KH w.params) mg mb r A h₀ L) (D : DefAt (KH w.params) a c rl) {b : Bool} : Rv prog w A h₀ L m nw (getAttr (.ref a) "code" b) (VI c) := by
  obtain ⟨ox, es, n, t, h1, h2, h3⟩ := D.at_
  exact run_own M (h1 nw) kf_def_code h2 rfl ⟨⟨t, rfl⟩, rfl, rfl⟩
theorem def_rule {a : Addr} {c : Int} {rl : Option Str} (M : Fm (KH w.params) mg mb r A h₀ L) (D : DefAt (KH w.params) a c rl) {b : Bool} : Rv prog w A h₀ L m nw (getAttr (.ref a) "rule" b) (fun v => match rl with | none => v = .none | some x => ∃ t, v = .str x t) := by
  obtain ⟨ox, es, n, t, h1, h2, h3⟩ := D.at_
  cases rl with
  | none => exact run_own M (h1 nw) kf_def_rule h3 rfl ⟨rfl, rfl, rfl⟩
  | some x => obtain ⟨t, h3⟩ := h3; exact run_own M (h1 nw) kf_def_rule h3 rfl ⟨⟨t, rfl⟩, rfl, rfl⟩
theorem ev_at {value : Expr} {attr : Str} {pos : Pos} {o : Value} {V : Value → Prop} (hv : Ev prog w A h₀ L env m nw value (· = o)) (k : Rv prog w A h₀ L m nw (getAttr o attr true) V)
    (he : eval (.Attribute value attr pos) env = (do
        let o ← eval value env
        standAt pos.atName
        let r ← holding [o] (getAttr o attr true)
        letTemporaryGo value o r
        pure r) := by with_unfolding_all rfl) : Ev prog w A h₀ L env m nw (.Attribute value attr pos) V :=
  ev_attr hv (fun v e => by subst e; exact k) he
theorem t_is_group (V : VeAt nw x doc sch code info) : Fp prog w (KH w.params) mg mb 1 (.ref 220) [.ref x] nw (· = .bool (((code &&& 128 : Nat) : Int) != 0)) := by
  refine Fn.intro (d := 0) (binds := [("self", .ref x)]) (by with_unfolding_all exact rfl) (by kernel_rfl) (fun s => BindsTo.of_eq rfl) (locs rfl) (by decide) rfl rfl rfl ?_
  intro r A h₀ L hr M
  exact sv_ret (ev_bool_int M rfl rfl rfl rfl (ev_binop (V := VI code) (V' := VI (128 : Nat)) (ev_at (ex_local rfl rfl rfl rfl) (ve_code M V)) (ev_at (ex_global M rfl rfl rfl kg_ERROR_GROUP) (def_code M (rows_def (137, 128, none) (by simp [rows, rw0])))) fun a b ⟨t, e⟩ ⟨t', e'⟩ => by subst e; subst e'; exact rv_and)) fun v hv => ⟨hv, Kp.refl⟩
theorem t_is_logic (V : VeAt nw x doc sch code info) : Fp prog w (KH w.params) mg mb 1 (.ref 228) [.ref x] nw (· = .bool (((code &&& 16 : Nat) : Int) != 0)) := by
  refine Fn.intro (d := 0) (binds := [("self", .ref x)]) (by with_unfolding_all exact rfl) (by kernel_rfl) (fun s => BindsTo.of_eq rfl) (locs rfl) (by decide) rfl rfl rfl ?_
  intro r A h₀ L hr M
  exact sv_ret (ev_bool_int M rfl rfl rfl rfl (ev_binop (V := VI code) (V' := VI (16 : Nat)) (ev_at (ex_local rfl rfl rfl rfl) (ve_code M V))
    (ev_binop (V := VI 144) (V' := VI 128) (ev_at (ex_global M rfl rfl rfl kg_LOGICAL) (def_code M (rows_def (155, 144, none) (by simp [rows, rw0])))) (ev_at (ex_global M rfl rfl rfl kg_ERROR_GROUP) (def_code M (rows_def (137, 128, none) (by simp [rows, rw0])))) fun a b ⟨t, e⟩ ⟨t', e'⟩ => by subst e; subst e'; exact rv_sub)
    fun a b ⟨t, e⟩ ⟨t', e'⟩ => by subst e; subst e'; exact rv_and)) fun v hv => ⟨hv, Kp.refl⟩
theorem t_is_norm (V : VeAt nw x doc sch code info) : Fp prog w (KH w.params) mg mb 1 (.ref 236) [.ref x] nw (· = .bool (((code &&& 96 : Nat) : Int) != 0)) := by
  refine Fn.intro (d := 0) (binds := [("self", .ref x)]) (by with_unfolding_all exact rfl) (by kernel_rfl) (fun s => BindsTo.of_eq rfl) (locs rfl) (by decide) rfl rfl rfl ?_
  intro r A h₀ L hr M
  exact sv_ret (ev_bool_int M rfl rfl rfl rfl (ev_binop (V := VI code) (V' := VI (96 : Nat)) (ev_at (ex_local rfl rfl rfl rfl) (ve_code M V)) (ev_at (ex_global M rfl rfl rfl kg_NORMALIZATION) (def_code M (rows_def (122, 96, none) (by simp [rows, rw0])))) fun a b ⟨t, e⟩ ⟨t', e'⟩ => by subst e; subst e'; exact rv_and)) fun v hv => ⟨hv, Kp.refl⟩
end
end Mine

-- F6
open PySem PySem.W PySem.Calls PyProof.Rows
set_option maxRecDepth 100000
set_option linter.unusedVariables false
namespace Mine
section
variable {prog : Program} {w : World} {A : Around} {h₀ : Heap} {L : Addr} {m : Loc} {nw : Led} {mg mb : Loc} {r : Nat} {env : Env} {K : Frag} {x info : Addr} {doc sch : List Key} {code : Nat}
theorem rv_prop {y C : Addr} {ox od : Obj} {f : Addr} {name : Str} {d : Nat} {V : Value → Prop} {b : Bool} (M : Fm K mg mb r A h₀ L) (I : Ins K nw y C ox od) (a : PropAttr K C name f) (hf : Fp prog w K mg mb d (.ref f) [.ref y] nw V) (hd : d + 1 ≤ r)
    (k : ∀ v, V v → handedIn v = true) : Rv prog w A h₀ L m nw (getAttr (.ref y) name b) V :=
  Run.drop (P := fun v m' nw' => V v ∧ m' = m ∧ Kp [] nw nw') (run_prop M I a hf hd fun v nw' ⟨h1, h2⟩ => ⟨k v h1, h1, rfl, h2⟩) fun _ _ _ h => h
theorem VeAt.ins (V : VeAt nw x doc sch code info) : ∃ ox od, Ins K nw x 240 ox od := by
  obtain ⟨dx, es, n, dp, sp, t, h1, h2, _⟩ := V
  exact ⟨_, _, rfl, rfl, dx, rfl, .inl ⟨h1, h2⟩⟩
theorem ve_is_group (M : Fm (KH w.params) mg mb r A h₀ L) (V : VeAt nw x doc sch code info) (hr : 2 ≤ r) {b : Bool} : Rv prog w A h₀ L m nw (getAttr (.ref x) "is_group_error" b) (· = .bool (((code &&& 128 : Nat) : Int) != 0)) := by
  obtain ⟨ox, od, I⟩ := V.ins (K := KH w.params)
  exact rv_prop M I kf_is_group_error (t_is_group V) hr fun v e => by subst e; rfl
theorem ve_is_logic (M : Fm (KH w.params) mg mb r A h₀ L) (V : VeAt nw x doc sch code info) (hr : 2 ≤ r) {b : Bool} : Rv prog w A h₀ L m nw (getAttr (.ref x) "is_logic_error" b) (· = .bool (((code &&& 16 : Nat) : Int) != 0)) := by
  obtain ⟨ox, od, I⟩ := V.ins (K := KH w.params)
  exact rv_prop M I kf_is_logic_error (t_is_logic V) hr fun v e => by subst e; rfl
theorem ve_is_norm (M : Fm (KH w.params) mg mb r A h₀ L) (V : VeAt nw x doc sch code info) (hr : 2 ≤ r) {b : Bool} : Rv prog w A h₀ L m nw (getAttr (.ref x) "is_normalization_error" b) (· = .bool (((code &&& 96 : Nat) : Int) != 0)) := by
  obtain ⟨ox, od, I⟩ := V.ins (K := KH w.params)
  exact rv_prop M I kf_is_normalization_error (t_is_norm V) hr fun v e => by subst e; rfl
theorem t_child (V : VeAt nw x doc sch code info) {v : Value} {items : List Value} {n : Nat} (hi : (info, tupO items n) ∈ nw) (h0 : ((code &&& 128 : Nat) : Int) ≠ 0 → items[0]? = some v) (h1 : ((code &&& 128 : Nat) : Int) = 0 → v = .none) :
    Fp prog w (KH w.params) mg mb 3 (.ref 196) [.ref x] nw (· = v) := by
  refine Fn.intro (d := 2) (binds := [("self", .ref x)]) (by with_unfolding_all exact rfl) (by kernel_rfl) (fun s => BindsTo.of_eq rfl) (locs rfl) (by decide) rfl rfl rfl ?_
  intro r A h₀ L hr M
  refine sv_ret (V := (· = v)) (ex_ifexp (B := fun b => b = (((code &&& 128 : Nat) : Int) != 0)) (tv_val (Run.mono (ev_at (ex_local rfl rfl rfl rfl) (ve_is_group M V hr)) fun v m' nw' ⟨e, e1⟩ => ⟨_, e, rfl, e1⟩)) (fun hb => ?_) (fun hb => ?_)) fun v hv => ⟨hv, Kp.refl⟩
  · exact ev_sub (V := (· = .ref info)) (V' := VI 0) (ev_at (ex_local rfl rfl rfl rfl) (ve_info M V)) ex_int fun o i ho ⟨t, hi'⟩ => by subst ho; subst hi'; exact run_item_tuple hi (by omega) (by omega) (h0 (by simpa using hb.symm)) ⟨rfl, rfl, rfl⟩
  · rw [h1 (by simpa using hb.symm)]; exact ex_none
theorem t_defs (V : VeAt nw x doc sch code info) (h1 : ((code &&& 16 : Nat) : Int) = 0) : Fp prog w (KH w.params) mg mb 3 (.ref 204) [.ref x] nw (· = .none) := by
  refine Fn.intro (d := 2) (binds := [("self", .ref x)]) (by with_unfolding_all exact rfl) (by kernel_rfl) (fun s => BindsTo.of_eq rfl) (locs rfl) (by decide) rfl rfl rfl ?_
  intro r A h₀ L hr M
  refine sv_if (B := (· = true)) (tv_not (B' := (· = false)) (tv_val (Run.mono (ev_at (ex_local rfl rfl rfl rfl) (ve_is_logic M V hr)) fun v m' nw' ⟨e, e1⟩ => ⟨_, e, by rw [h1]; rfl, e1⟩)) fun b e => by subst e; rfl) (fun _ => ?_) (fun hb => absurd hb (by decide))
  exact sv_ret ex_none fun v hv => ⟨hv, Kp.refl⟩
theorem ve_child (M : Fm (KH w.params) mg mb r A h₀ L) (V : VeAt nw x doc sch code info) {v : Value} {items : List Value} {n : Nat} (hi : (info, tupO items n) ∈ nw) (h0 : ((code &&& 128 : Nat) : Int) ≠ 0 → items[0]? = some v) (h1 : ((code &&& 128 : Nat) : Int) = 0 → v = .none) (hh : handedIn v = true) (hr : 4 ≤ r) {b : Bool} :
    Rv prog w A h₀ L m nw (getAttr (.ref x) "child_errors" b) (· = v) := by
  obtain ⟨ox, od, I⟩ := V.ins (K := KH w.params)
  exact rv_prop M I kf_child_errors (t_child V hi h0 h1) hr fun v e => by subst e; exact hh
theorem ve_defs (M : Fm (KH w.params) mg mb r A h₀ L) (V : VeAt nw x doc sch code info) (h1 : ((code &&& 16 : Nat) : Int) = 0) (hr : 4 ≤ r) {b : Bool} :
    Rv prog w A h₀ L m nw (getAttr (.ref x) "definitions_errors" b) (· = .none) := by
  obtain ⟨ox, od, I⟩ := V.ins (K := KH w.params)
  exact rv_prop M I kf_definitions_errors (t_defs V h1) hr fun v e => by subst e; rfl
theorem t_lt {y info' : Addr} {doc' sch' : List Key} {code' : Nat} (V : VeAt nw x doc sch code info) (V' : VeAt nw y doc' sch' code' info') : Fp prog w (KH w.params) mg mb 10 (.ref 189) [.ref x, .ref y] nw (fun v => ∃ b, v = .bool b) := by
  refine Fn.intro (d := 9) (binds := [("self", .ref x), ("other", .ref y)]) (by with_unfolding_all exact rfl) (by kernel_rfl) (fun s => BindsTo.of_eq rfl) (locs rfl) (by decide) rfl rfl rfl ?_
  intro r A h₀ L hr M
  have l1 := id V; have l2 := id V'
  obtain ⟨_, _, _, _, _, _, _, _, ⟨_, _, ld⟩, ⟨_, _, ls⟩, _⟩ := l1
  obtain ⟨_, _, _, _, _, _, _, _, ⟨_, _, ld'⟩, ⟨_, _, ls'⟩, _⟩ := l2
  refine sv_if (B := fun _ => True) (tv_cmp (V := fun v => ∃ a, v = .ref a ∧ PathAt nw a doc) (V' := fun v => ∃ a, v = .ref a ∧ PathAt nw a doc') (ev_at (ex_local rfl rfl rfl rfl) (ve_doc M V)) (ev_at (ex_local rfl rfl rfl rfl) (ve_doc M V')) fun a b ⟨a', e, ha⟩ ⟨b', e', hb⟩ => by
    subst e; subst e'; exact run_ne_path (r := 6) (M.less hr) ha hb ⟨_, rfl, trivial, rfl, rfl⟩) (fun _ => ?_) (fun _ => ?_)
  · refine sv_ret (V := fun v => ∃ b, v = .bool b) (ex_callK (P := fun vs m' nw' => ∃ a b, vs = [.ref a, .ref b] ∧ PathAt nw a doc ∧ PathAt nw b doc' ∧ m' = _ ∧ nw' = nw) M (ex_global M rfl rfl rfl kg_compare_paths_lt) kk_compare_paths_lt
      (args_ev (ev_at (ex_local rfl rfl rfl rfl) (ve_doc M V)) fun v ⟨a, e, ha⟩ => args_ev (ev_at (ex_local rfl rfl rfl rfl) (ve_doc M V')) fun v' ⟨b, e', hb⟩ => args_nil ⟨a, b, by rw [e, e'], ha, hb, rfl, rfl⟩)
      (fun vs m' nw' ⟨a, b, e, ha, hb, e1, e2⟩ => by subst e; subst e1; subst e2; exact run_fp M (t_cmp ha hb ld ld') hr)) fun v hv => ⟨hv, Kp.refl⟩
  · refine sv_ret (V := fun v => ∃ b, v = .bool b) (ex_callK (P := fun vs m' nw' => ∃ a b, vs = [.ref a, .ref b] ∧ PathAt nw a sch ∧ PathAt nw b sch' ∧ m' = _ ∧ nw' = nw) M (ex_global M rfl rfl rfl kg_compare_paths_lt) kk_compare_paths_lt
      (args_ev (ev_at (ex_local rfl rfl rfl rfl) (ve_sch M V)) fun v ⟨a, e, ha⟩ => args_ev (ev_at (ex_local rfl rfl rfl rfl) (ve_sch M V')) fun v' ⟨b, e', hb⟩ => args_nil ⟨a, b, by rw [e, e'], ha, hb, rfl, rfl⟩)
      (fun vs m' nw' ⟨a, b, e, ha, hb, e1, e2⟩ => by subst e; subst e1; subst e2; exact run_fp M (t_cmp ha hb ls ls') hr)) fun v hv => ⟨hv, Kp.refl⟩
end
end Mine

-- EL
open PySem PySem.W PySem.Calls PyProof.Rows
set_option maxRecDepth 100000
set_option linter.unusedVariables false
namespace Mine
def makesLIn (K : Frag) (C : Addr) : Bool := match K.lookup C with
  | some ⟨_, _, .cls cd, sl⟩ => !cd.abstract && !cd.hasDel && (sl.toList[4]?).join == some (.builtin "list.__new__") && !cd.mro.isEmpty && cd.mro.contains (.ref C) && cd.mro.contains (.type "list") &&
      specialIn K (.ref C) "__call__" == some (some (.builtin "type.__call__")) && instIn K (.ref C) (.type "type") == some true
  | _ => false
structure MakesL (M : Model) (h : Heap) (C : Addr) : Prop where
  obj : ∃ oc od cd sl, h.get? C = some ⟨oc, od, .cls cd, sl⟩ ∧ cd.abstract = false ∧ cd.hasDel = false ∧ cd.mro.isEmpty = false
  made : Looks M h (Bind.madeBy (.ref C)) (some "list.__new__")
  base : Looks M h (Bind.staticBase (.ref C)) (.ref C)
  self : Looks M h (isSubtype (.ref C) (.ref C)) true
  top : Looks M h (isSubtype (.ref C) (.type "list")) true
  call : Looks M h (specialOf (.ref C) "__call__") (some (.builtin "type.__call__"))
  typ : Looks M h (isInstance (.ref C) (.type "type")) true
theorem makesL_of {K : Frag} {M : Model} {h : Heap} (X : K.In h) {C : Addr} (e : makesLIn K C = true) : MakesL M h C := by
  unfold makesLIn at e
  split at e
  · rename_i oc od cd sl ho
    simp only [Bool.and_eq_true, Bool.not_eq_true', beq_iff_eq] at e
    obtain ⟨⟨⟨⟨⟨⟨⟨e1, e2⟩, e3⟩, e4⟩, e5⟩, e6⟩, e7⟩, e8⟩ := e
    have hc : clsIn K C = some cd := by unfold clsIn; rw [ho]
    have hm : Looks M h (mroOf (.ref C)) cd.mro := (looks_clsIn X hc).andThen .now
    obtain ⟨c, l, hl⟩ : ∃ c l, cd.mro = c :: l := by cases q : cd.mro with | nil => rw [q] at e4; cases e4 | cons c l => exact ⟨c, l, rfl⟩
    have made : Looks M h (Bind.madeBy (.ref C)) (some "list.__new__") := by
      intro A Q E s k q
      unfold Bind.madeBy
      refine wpAny_bind (hm A _ E s k ?_)
      rw [hl, List.forIn_cons]
      refine wpAny_bind (wpAny_bind (wpAny_bind (wpAny_bind (wpAny_loadPart (k _ _ (X _ _ ho)) (wpAny_pure ?_)))))
      dsimp only
      rw [← Array.getElem?_toList, e3]
      exact wpAny_pure (wpAny_pure (wpAny_pure q))
    refine ⟨⟨oc, od, cd, sl, X _ _ ho, e1, e2, e4⟩, made, ?_, looks_mroIn X ?_, looks_mroIn X ?_, looks_specialIn X e7, looks_instIn X e8⟩
    · intro A Q E s k q
      unfold Bind.staticBase
      refine wpAny_bind (hm A _ E s k ?_)
      rw [hl, List.forIn_cons]
      exact wpAny_bind (wpAny_bind (wpAny_bind (made A _ E s k (wpAny_pure (wpAny_pure (wpAny_pure q))))))
    · unfold mroIn; rw [hc, Option.bind_some, if_neg (by rw [e4]; decide), e5]
    · unfold mroIn; rw [hc, Option.bind_some, if_neg (by rw [e4]; decide), e6]
  · cases e
variable {P : Params}
theorem kf_makesL : makesLIn (KH P) 261 = true := by kernel_rfl
theorem kf_init_261 : findIn (KH P) (.ref 261) "__init__" = some (some (.builtin "list.__init__")) := by kernel_rfl
abbrev elObj (dx : Addr) (items : List Value) (n : Nat) : Obj := { cls := .ref 261, dict := some dx, data := .seq items.toArray n }
theorem kind_list_new : builtinKind "list.__new__" = some .builtinFn := by decide +kernel
theorem split_list_new : splitId "list.__new__" = some ("list", "__new__") := by decide +kernel
theorem some_list_new : (Manifest.signature? "list.__new__").isSome = true := by kernel_rfl
theorem row_list_new0 (C : Addr) : ∃ sig, Manifest.signature? "list.__new__" = some sig ∧ Bind.checkArgs "list.__new__" sig ⟨[.ref C], []⟩ = pure () := ⟨_, (Option.some_get some_list_new).symm, by kernel_rfl⟩
theorem row_list_new1 (C : Addr) (v : Value) : ∃ sig, Manifest.signature? "list.__new__" = some sig ∧ Bind.checkArgs "list.__new__" sig ⟨[.ref C, v], []⟩ = pure () := ⟨_, (Option.some_get some_list_new).symm, by kernel_rfl⟩
section
variable {prog : Program} {w : World} {A : Around} {K : Frag} {C : Addr} {R : Result → Shared → Prop} {h : Heap} {g : Array GenState} {d : Drawn} {t : Nat} {os : OsState}
theorem newObjL_eq (C d : Addr) : newObj (.ref C) (.seq #[]) (some d) = newObjAsIs (.ref C) (.seq #[]) (some d) := by kernel_rfl
theorem newL {rest : List Value} (Y : MakesL (model prog w) h C) (hrow : ∃ sig, Manifest.signature? "list.__new__" = some sig ∧ Bind.checkArgs "list.__new__" sig ⟨.ref C :: rest, []⟩ = pure ())
    (hq : R (.ok (.ret (.ref (h.objs.size + 1)))) ⟨(h.push emptyDict).push { cls := .ref C, dict := some h.objs.size, data := .seq #[] }, g, d, t, os⟩) :
    codeAny (model prog w) A (.call (.builtin "list.__new__") ⟨.ref C :: rest, []⟩) R ⟨h, g, d, t, os⟩ := by
  obtain ⟨⟨oc, od, cd, sl, hC, e1, e2, e4⟩, made, base, self, top, call, typ⟩ := Y
  obtain ⟨sig, hsig, args⟩ := hrow
  refine codeAny_call_builtin_code (Code.quiet_builtin _ (by decide +kernel)) ?_
  simp only [checkBuiltinCall, kind_list_new, split_list_new, hsig]
  rw [args]
  repeat (first | simp only [bne_self_eq_false, Bool.false_eq_true, if_false] | lk)
  refine codeAny_builtin_stack F.entry_list_new rfl fun p st => ?_
  rw [Around.under_plainId F.plain_list_new _]
  have hown := owner_list_new
  simp only [hown]
  have fin : ∀ A', wpAny (model prog w) A' (do
      let .ref d ← newDict | unsupported "internal:list.__new__"
      ret (← newObj (.ref C) (.seq #[]) (some d))) (fun fin s' => match fin with | .done f => R (.ok f) s' | .again c' => c'.quiet = true ∧ codeAny (model prog w) A c' R s') (fun e s' => R (.error e) s') ⟨h, g, d, t, os⟩ := by
    intro A'
    refine wpAny_bind (wpAny_newObj_type (T := "dict") ?_ (by show (0 : Nat) ≤ _; exact Nat.zero_le _))
    show wpAny _ _ (newObj (.ref C) (.seq #[]) (some h.objs.size) >>= _) _ _ _
    rw [newObjL_eq]
    unfold newObjAsIs classHasDel
    refine wpAny_bind (wpAny_bind (wpAny_alloc (wpAny_bind (wpAny_bind (wpAny_load (Heap.get?_push_of_some _ (Heap.get?_push_of_some _ hC)) (wpAny_pure ?_))))))
    rw [e2]
    refine wpAny_pure (wpAny_pure ?_)
    show R _ _
    rw [Heap.size_push]
    exact hq
  repeat (first | simp only [Bool.false_eq_true, if_false, Bool.not_true] | exact fin _ | lk)
/-- a list of an own class, made -/
theorem makeL {rest : List Value} (Y : MakesL (model prog w) h C) (hi : Looks (model prog w) h (typeLookup (.ref C) "__init__") (some (.builtin "list.__init__"))) (hrow : ∃ sig, Manifest.signature? "list.__new__" = some sig ∧ Bind.checkArgs "list.__new__" sig ⟨.ref C :: rest, []⟩ = pure ())
    (hq : codeAny (model prog w) (A.under (.builtin "type.__call__" ⟨.ref C :: rest, []⟩)) (.call (.builtin "list.__init__") ⟨.ref (h.objs.size + 1) :: rest, []⟩) (InitBack (h.objs.size + 1) R) ⟨(h.push emptyDict).push { cls := .ref C, dict := some h.objs.size, data := .seq #[] }, g, d, t, os⟩) :
    codeAny (model prog w) A (.call (.ref C) ⟨rest, []⟩) R ⟨h, g, d, t, os⟩ := by
  have Y' := Y
  have hb : ∀ self, Looks (model prog w) h (bindSpecial (.builtin "list.__init__") self) (.builtin "list.__init__", [self]) := fun self => Looks.of_pure (F.slot_list_init.bind self)
  obtain ⟨⟨oc, od, cd, sl, hC, e1, e2, e4⟩, made, base, self, top, call, typ⟩ := Y
  refine codeAny_of_tree ?_
  show wpAny _ _ (callAny (.ref C) _) _ _ _
  refine nd_load hC ?_
  show wpAny _ _ (callAny.viaDunder (.ref C) _) _ _ _
  unfold callAny.viaDunder
  refine wpAny_bind (call.at ?_)
  dsimp only
  rw [tc_bind]
  refine wpAny_bind (wpAny_pure (wpAny_bind (wpAny_pure ?_)))
  refine wpAny_pure (a := Fin.again (.call (.builtin "type.__call__") ⟨.ref C :: rest, []⟩)) (And.intro rfl ?_)
  refine codeAny_call_builtin_at (Code.quiet_builtin _ (by decide +kernel)) entry_typeCall (check_slot tc_kind tc_split typ (tc_args _ _ _) ?_)
  unfold Builtin.«type.__call__»
  have hm : Looks (model prog w) h (mroOf (.ref C)) cd.mro := ((Looks.ld (part := none) hC).andThen .now).andThen .now
  repeat (first | simp only [e4, Bool.false_eq_true, if_false] | with_reducible refine wpAny_call ?_ | lk)
  refine newL Y' hrow ?_
  have k : ∀ b o, h.get? b = some o → ((h.push emptyDict).push { cls := .ref C, dict := some h.objs.size, data := .seq #[] }).get? b = some o := fun b o e => Heap.get?_push_of_some _ (Heap.get?_push_of_some _ e)
  have hx : ((h.push emptyDict).push { cls := .ref C, dict := some h.objs.size, data := .seq #[] }).get? (h.objs.size + 1) = some { cls := .ref C, dict := some h.objs.size, data := .seq #[] } := by heap_get
  have t1 : Looks (model prog w) ((h.push emptyDict).push { cls := .ref C, dict := some h.objs.size, data := .seq #[] }) (typeOf (.ref (h.objs.size + 1))) (.ref C) := (Looks.ld hx).andThen .now
  have s1 := self.keeps k
  have i1 := hi.keeps k
  have b1 := (hb (.ref (h.objs.size + 1))).keeps k
  unfold isInstance callSpecial? specialOf
  repeat (first | with_reducible refine wpAny_call ?_ | lk)
  refine codeAny_mono hq fun r s' z => ?_
  rcases r with e | (v | _ | _ | _) <;> first | exact z | exact z.elim | skip
  obtain ⟨rfl, z⟩ := z
  exact wpAny_pure (wpAny_pure z)
end
section
variable {prog : Program} {w : World} {A : Around} {s : Shared} {R : Result → Shared → Prop} {C d : Addr}
theorem list_init_kind : builtinKind "list.__init__" = some .slot := by decide +kernel
theorem list_init_split : splitId "list.__init__" = some ("list", "__init__") := by decide +kernel
theorem list_init_plain : plainId "list.__init__" = true := by decide +kernel
theorem args_list_init_1 (a : Value) : argsOk "list.__init__" ⟨[a], []⟩ := by unfold argsOk; kernel_rfl
theorem initL1 {S it : Addr} {items : Array Value} {n : Nat} {o : Obj} (top : Looks (model prog w) s.heap (isSubtype (.ref C) (.type "list")) true) (hS : s.heap.get? S = some { cls := .ref C, dict := some d, data := .seq #[] })
    (ho : s.heap.get? it = some o) (hc : o.cls = .type "list") (hd : o.data = .seq items n) (hne : it ≠ S) (hsz : items.size ≤ sizeLine)
    (hR : ∀ h' n', Heap.SameBut S s.heap h' → h'.get? S = some { cls := .ref C, dict := some d, data := .seq items n' } → R (.ok (.ret .none)) { s with heap := h' }) :
    codeAny (model prog w) A (.call (.builtin "list.__init__") ⟨[.ref S, .ref it], []⟩) R s := by
  have t2 : Looks (model prog w) s.heap (isInstance (.ref S) (.type "list")) true := Looks.andThen (Looks.ld hS |>.andThen .now) top
  refine codeAny_call_builtin list_init_plain F.entry_list_init (@check_slot (model prog w) _ _ _ "list.__init__" "list" "__init__" (.ref S) [.ref it] [] _ list_init_kind list_init_split t2 (F.args_list_init_2 _ _) ?_)
  show wpAny _ A.in1 (do let old ← Builtin.List.listItems (.ref S); Builtin.List.listUpdate (.ref S) (fun _ => #[]); letGo old.toList.reverse; Builtin.List.listExtendWith (.ref S) (.ref it) .none) _ _ s
  refine wpAny_bind ?_
  unfold Builtin.List.listItems
  refine wpAny_bind (wpAny_seqItems hS rfl (wpAny_pure ?_))
  show wpAny _ A.in1 (updateSeq S (fun _ => #[]) >>= fun _ => letGo (#[] : Array Value).toList.reverse >>= fun _ => Builtin.List.listExtendWith (.ref S) (.ref it) .none) _ _ s
  refine wpAny_bind (wpAny_updateSeq hS rfl ?_)
  have hS₂ := Heap.get?_update_self (Obj.mapSeq (fun _ => (#[] : Array Value))) hS rfl
  refine wpAny_bind (wpAny_letGo ?_)
  unfold Builtin.List.listExtendWith
  refine wpAny_bind (wpAny_typeOf ⟨o, (Heap.get?_update_other _ _ (Ne.symm hne)).trans ho, hc⟩ ?_)
  have h1 : (Builtin.List.listSameRef (.ref S) (.ref it) || Value.type "list" == Value.type "list" || Value.type "list" == Value.type "tuple") = true := by simp
  simp only [h1, if_true]
  refine wpAny_bind ?_
  unfold Builtin.List.listItems
  refine wpAny_bind (wpAny_seqItems ((Heap.get?_update_other _ _ (Ne.symm hne)).trans ho) hd (wpAny_pure ?_))
  refine wpAny_bind ?_
  refine wpAny_bind (wpAny_seqItems hS₂ rfl (wpAny_pure ?_))
  show wpAny _ A.in1 (updateSeq S (· ++ items) >>= fun _ => ret .none) _ _ _
  refine wpAny_bind (wpAny_updateSeq hS₂ rfl ?_)
  have hS₃ := Heap.get?_update_self (Obj.mapSeq (· ++ items)) hS₂ rfl
  exact wpAny_pure (hR _ _ ((Heap.SameBut.update _ _ _).trans (Heap.SameBut.update _ _ _)) (by simpa [Obj.mapSeq] using hS₃))
theorem initL0 {S : Addr} (top : Looks (model prog w) s.heap (isSubtype (.ref C) (.type "list")) true) (hS : s.heap.get? S = some { cls := .ref C, dict := some d, data := .seq #[] })
    (hR : ∀ h' n', Heap.SameBut S s.heap h' → h'.get? S = some { cls := .ref C, dict := some d, data := .seq #[] n' } → R (.ok (.ret .none)) { s with heap := h' }) :
    codeAny (model prog w) A (.call (.builtin "list.__init__") ⟨[.ref S], []⟩) R s := by
  have t2 : Looks (model prog w) s.heap (isInstance (.ref S) (.type "list")) true := Looks.andThen (Looks.ld hS |>.andThen .now) top
  refine codeAny_call_builtin list_init_plain F.entry_list_init (@check_slot (model prog w) _ _ _ "list.__init__" "list" "__init__" (.ref S) [] [] _ list_init_kind list_init_split t2 (args_list_init_1 _) ?_)
  show wpAny _ A.in1 (do let old ← Builtin.List.listItems (.ref S); Builtin.List.listUpdate (.ref S) (fun _ => #[]); letGo old.toList.reverse; ret .none) _ _ s
  refine wpAny_bind ?_
  unfold Builtin.List.listItems
  refine wpAny_bind (wpAny_seqItems hS rfl (wpAny_pure ?_))
  show wpAny _ A.in1 (updateSeq S (fun _ => #[]) >>= fun _ => letGo (#[] : Array Value).toList.reverse >>= fun _ => ret .none) _ _ s
  refine wpAny_bind (wpAny_updateSeq hS rfl ?_)
  have hS₂ := Heap.get?_update_self (Obj.mapSeq (fun _ => (#[] : Array Value))) hS rfl
  refine wpAny_bind (wpAny_letGo ?_)
  exact wpAny_pure (hR _ _ (Heap.SameBut.update _ _ _) (by simpa [Obj.mapSeq] using hS₂))
end
section
variable {prog : Program} {w : World} {A : Around} {h₀ : Heap} {L : Addr} {m : Loc} {nw : Led} {mg mb : Loc} {r : Nat} {env : Env} {K : Frag}
theorem run_EL0 {Q : Value → Loc → Led → Prop} (M : Fm (KH w.params) mg mb r A h₀ L) (k : ∀ x dx n, x ∉ nw.map (·.1) → dx ∉ nw.map (·.1) → x ≠ dx → Q (.ref x) m ((x, elObj dx [] n) :: (dx, dictOf [] 0) :: nw)) : Run prog w A h₀ L m nw (call (.ref 261) []) Q := fun os fx s hs => by
  have X := hs.inK M
  have Y := makesL_of (M := model prog w) X kf_makesL
  have top := Y.top
  have hs' := (hs.push (dictOf [] 0) rfl).push (elObj s.heap.objs.size [] 0) rfl
  obtain ⟨hh, g, d, t, os'⟩ := s
  refine wpAny_call (makeL Y (looks_findIn X kf_init_261) (row_list_new0 261) ?_)
  have e1 : (hh.push (dictOf [] 0)).objs.size = hh.objs.size + 1 := Heap.size_push _ _
  have kk : ∀ b o, hh.get? b = some o → ((hh.push (dictOf [] 0)).push (elObj hh.objs.size [] 0)).get? b = some o := fun b o e => Heap.get?_push_of_some _ (Heap.get?_push_of_some _ e)
  have hS := hs'.get (.head _)
  have hD := hs'.D
  refine initL0 (d := hh.objs.size) (top.keeps kk) (by rw [← e1]; exact hS) fun h' n' hsb hg => ⟨rfl, ?_⟩
  have hst := hs'.set (tk := t) (.head _) (by rw [e1]; exact hsb) (o' := elObj hh.objs.size [] n') (by rw [e1]; exact hg)
  have hset : setL ((hh.objs.size + 1, elObj hh.objs.size [] 0) :: (hh.objs.size, dictOf [] 0) :: nw) (hh.objs.size + 1) (elObj hh.objs.size [] n') = (hh.objs.size + 1, elObj hh.objs.size [] n') :: (hh.objs.size, dictOf [] 0) :: nw := by
    unfold setL; rw [if_pos rfl]
  rw [e1] at hst hD
  rw [hset] at hst
  rw [List.cons_append, List.cons_append, List.map_cons, List.map_cons, List.nodup_cons, List.nodup_cons, List.map_append] at hD
  exact ⟨m, _, hst, k _ _ _ (fun q => hD.1 (List.mem_cons_of_mem _ (List.mem_append_left _ q))) (fun q => hD.2.1 (List.mem_append_left _ q)) (Nat.succ_ne_self _)⟩
theorem run_EL1 {it : Addr} {items : List Value} {n : Nat} {Q : Value → Loc → Led → Prop} (M : Fm (KH w.params) mg mb r A h₀ L) (hi : (it, listOf items.toArray n) ∈ nw) (hz : items.length < 1000) (k : ∀ x dx n, x ∉ nw.map (·.1) → dx ∉ nw.map (·.1) → x ≠ dx → Q (.ref x) m ((x, elObj dx items n) :: (dx, dictOf [] 0) :: nw)) : Run prog w A h₀ L m nw (call (.ref 261) [.ref it]) Q := fun os fx s hs => by
  have X := hs.inK M
  have Y := makesL_of (M := model prog w) X kf_makesL
  have top := Y.top
  have hlt := Heap.lt_size (hs.get hi)
  have hs' := (hs.push (dictOf [] 0) rfl).push (elObj s.heap.objs.size [] 0) rfl
  obtain ⟨hh, g, d, t, os'⟩ := s
  refine wpAny_call (makeL Y (looks_findIn X kf_init_261) (row_list_new1 261 _) ?_)
  have e1 : (hh.push (dictOf [] 0)).objs.size = hh.objs.size + 1 := Heap.size_push _ _
  have kk : ∀ b o, hh.get? b = some o → ((hh.push (dictOf [] 0)).push (elObj hh.objs.size [] 0)).get? b = some o := fun b o e => Heap.get?_push_of_some _ (Heap.get?_push_of_some _ e)
  have hS := hs'.get (.head _)
  have hD := hs'.D
  refine initL1 (d := hh.objs.size) (items := items.toArray) (top.keeps kk) (by rw [← e1]; exact hS) (hs'.get (.tail _ (.tail _ hi))) rfl rfl (fun e => by rw [e] at hlt; exact Nat.lt_irrefl _ (Nat.lt_trans (Nat.lt_succ_self _) hlt)) (by rw [List.size_toArray]; have e : sizeLine = 2 ^ 24 := rfl; omega) fun h' n' hsb hg => ⟨rfl, ?_⟩
  have hst := hs'.set (tk := t) (.head _) (by rw [e1]; exact hsb) (o' := elObj hh.objs.size items n') (by rw [e1]; exact hg)
  have hset : setL ((hh.objs.size + 1, elObj hh.objs.size [] 0) :: (hh.objs.size, dictOf [] 0) :: nw) (hh.objs.size + 1) (elObj hh.objs.size items n') = (hh.objs.size + 1, elObj hh.objs.size items n') :: (hh.objs.size, dictOf [] 0) :: nw := by
    unfold setL; rw [if_pos rfl]
  rw [e1] at hst hD
  rw [hset] at hst
  rw [List.cons_append, List.cons_append, List.map_cons, List.map_cons, List.nodup_cons, List.nodup_cons, List.map_append] at hD
  exact ⟨m, _, hst, k _ _ _ (fun q => hD.1 (List.mem_cons_of_mem _ (List.mem_append_left _ q))) (fun q => hD.2.1 (List.mem_append_left _ q)) (Nat.succ_ne_self _)⟩
end
end Mine

-- EL2
open PySem PySem.W PySem.Calls PyProof.Rows
set_option maxRecDepth 100000
set_option linter.unusedVariables false
namespace Mine
section
variable {prog : Program} {w : World} {A : Around} {E : Value → Shared → Prop} {s : Shared} {C x : Addr} {ox : Obj}
structure OwnSlot (M : Model) (h : Heap) (C : Addr) (owner : String) (name : Str) (id : String) : Prop where
  look : Looks M h (typeLookup (.ref C) name) (some (.builtin id))
  top : Looks M h (isSubtype (.ref C) (.type owner)) true
  S : Slot owner name id
  k : builtinKind id = some .slot ∨ builtinKind id = some .method
  n : ∃ n, splitId id = some (owner, n)
theorem own_check {M : Model} {owner id : String} {name : Str} {args : List Value} {Q : Unit → Shared → Prop} (O : OwnSlot M s.heap C owner name id) (hx : s.heap.get? x = some ox) (hc : ox.cls = .ref C) (ha : argsOk id ⟨.ref x :: args, []⟩) (q : Q () s) :
    wpAny M A (checkBuiltinCall id ⟨.ref x :: args, []⟩) Q E s := by
  have hi : Looks M s.heap (isInstance (.ref x) (.type owner)) true := Looks.andThen (Looks.ld hx |>.andThen (by rw [hc]; exact .now)) O.top
  obtain ⟨n, hs⟩ := O.n
  rcases O.k with hk | hk <;>
  · simp only [checkBuiltinCall, hk, hs]
    refine wpAny_bind (hi.here ?_)
    simp only [Bool.not_true, Bool.false_eq_true, if_false]
    cases hsig : Manifest.signature? id with
    | none => exact wpAny_pure q
    | some sig =>
      simp only [argsOk, hsig] at ha
      have h2 : Bind.checkArgs id sig ⟨.ref x :: args, []⟩ = pure () := ha
      show wpAny M A (Bind.checkArgs id sig ⟨.ref x :: args, []⟩) Q E s
      rw [h2]; exact wpAny_pure q
theorem own_call {owner id : String} {name : Str} {args : List Value} {b : Builtin} {Q : Value → Shared → Prop} (O : OwnSlot (model prog w) s.heap C owner name id) (hx : s.heap.get? x = some ox) (hc : ox.cls = .ref C) (hb : entryFor table id = some b)
    (h : wpAny (model prog w) A.in1 (b ⟨.ref x :: args, []⟩) (fun fin s' => ∃ v, fin = .done (.ret v) ∧ Q v s') E s) (ha : argsOk id ⟨.ref x :: args, []⟩) : wpAny (model prog w) A (call (.builtin id) (.ref x :: args)) Q E s := by
  refine wpAny_call (codeAny_call_builtin O.S.plain hb (own_check O hx hc ha (wpAny_mono h (fun fin s' h' => ?_) fun _ _ h' => h')))
  obtain ⟨v, rfl, hv⟩ := h'; exact hv
theorem own_special {owner id : String} {name : Str} {args : List Value} {Q : Option Value → Shared → Prop} (O : OwnSlot (model prog w) s.heap C owner name id) (hx : s.heap.get? x = some ox) (hc : ox.cls = .ref C)
    (h : wpAny (model prog w) A (call (.builtin id) (.ref x :: args)) (fun v => Q (some v)) E s) : wpAny (model prog w) A (callSpecial? (.ref x) name args) Q E s := by
  have t1 : Looks (model prog w) s.heap (typeOf (.ref x)) (.ref C) := Looks.ld hx |>.andThen (by rw [hc]; exact .now)
  unfold callSpecial? specialOf
  refine wpAny_bind (wpAny_bind (t1.here (O.look.here ?_)))
  simp only [O.S.bind]
  exact wpAny_holding (wpAny_bind (wpAny_pure (wpAny_bind (wpAny_mono h (fun v s' h' => wpAny_pure h') fun _ _ h' => h'))))
theorem own_iter {owner id : String} {Q : Value → Shared → Prop} (O : OwnSlot (model prog w) s.heap C owner "__iter__" id) (hx : s.heap.get? x = some ox) (hc : ox.cls = .ref C)
    (h : wpAny (model prog w) A (call (.builtin id) [.ref x]) (fun it s' => ∃ T' r, s'.TypeIs it T' ∧ typeLookup (.type T') "__next__" = pure (some r) ∧ Q it s') E s) : wpAny (model prog w) A (pyIter (.ref x)) Q E s := by
  have t1 : Looks (model prog w) s.heap (typeOf (.ref x)) (.ref C) := Looks.ld hx |>.andThen (by rw [hc]; exact .now)
  unfold pyIter specialOf
  refine wpAny_bind (wpAny_bind (t1.here (O.look.here ?_)))
  show wpAny _ A (callSpecialIfBoundUnlessNone? (.ref x) "__iter__" _ >>= _) Q E s
  refine wpAny_bind ?_
  simp only [callSpecialIfBoundUnlessNone?, bindSpecialIfBound?]
  unfold specialOf
  refine wpAny_holding (wpAny_bind (wpAny_bind (wpAny_bind (t1.here (O.look.here ?_)))))
  simp only [O.S.bind]
  refine wpAny_bind (wpAny_askSetting (wpAny_ite ?_))
  have h2 : wpAny (model prog w) A (call (.builtin id) [.ref x]) (fun v s' => wpAny (model prog w) A (if (v == Value.none) = true then pure v else pure v) (fun it s' => ∃ T' r, s'.TypeIs it T' ∧ typeLookup (.type T') "__next__" = pure (some r) ∧ Q it s') E s') E s := wpAny_mono h (fun v s' h' => by split <;> exact wpAny_pure h') fun _ _ e => e
  have b : (Value.builtin id == Value.none) = false := builtin_beq_none ..
  split
  · refine wpAny_bind (wpAny_pure (wpAny_pure ?_))
    simp only [b, Bool.false_eq_true, if_false]
    refine wpAny_bind (wpAny_mono h (fun it s' h' => wpAny_pure ?_) fun _ _ e => e)
    obtain ⟨T', r, hT', hl, hQ⟩ := h'
    exact wpAny_bind (wpAny_specialOf hT' hl (wpAny_pure hQ))
  · refine wpAny_tryCatch (wpAny_bind (wpAny_pure (wpAny_pure ?_)))
    simp only [b, Bool.false_eq_true, if_false]
    refine wpAny_bind (wpAny_mono h (fun it s' h' => wpAny_pure ?_) fun _ _ e => e)
    obtain ⟨T', r, hT', hl, hQ⟩ := h'
    exact wpAny_bind (wpAny_specialOf hT' hl (wpAny_pure hQ))
theorem method_own {K : Frag} {ga : String} {f tf : Value} {name : Str} {od : Option Obj} {pl : Sem Bool} {Q : Value × List Value → Shared → Prop} (X : K.In s.heap) (I : InstAt s.heap x ox C od) (hga : findIn K (.ref C) "__getattribute__" = some (some (.builtin ga))) (hcan : Manifest.canonical ga = "object.__getattribute__") (hk : findIn K (.ref C) "__getattr__" = some none) (hf : findIn K (.ref C) name = some (some f))
    (ht : typeIn K f = some tf) (htf : tf = .type "method_descriptor" ∨ tf = .type "function") (hs : shadowIn od name = some false) (h : Q (f, [.ref x]) s) : wpAny (model prog w) A (getMethod (.ref x) name pl) Q E s := by
  unfold getMethod specialOf
  refine wpAny_bind (wpAny_bind (I.type.here ((looks_findIn X hga).here ?_)))
  dsimp only
  rw [hcan, if_neg (by decide)]
  refine wpAny_bind (wpAny_bind (I.type.here ((looks_findIn X hk).here ?_)))
  refine wpAny_bind (wpAny_bind (I.type.here ((looks_findIn X hf).here (wpAny_bind ((looks_typeIn X ht).here ?_)))))
  rw [if_neg (by rcases htf with rfl | rfl <;> decide +kernel)]
  refine wpAny_bind (wpAny_loadPart I.at_ ?_)
  have hd := I.dict
  cases e : ox.dict with
  | none => exact wpAny_bind (wpAny_rule (wpAny_pure h))
  | some dx =>
    cases od with
    | none => rw [e] at hd; exact hd.elim
    | some o =>
      rw [e] at hd
      obtain ⟨r, a, b⟩ := Option.map_eq_some_iff.mp hs
      refine wpAny_bind (wpAny_bind (wpAny_loadPart hd ?_))
      rw [nsLook_of a]
      refine wpAny_pure ?_
      rw [b]
      exact wpAny_bind (wpAny_rule (wpAny_pure h))
end
variable {P : Params}
theorem kf_el_append : findIn (KH P) (.ref 261) "append" = some (some (.builtin "list.append")) := by kernel_rfl
theorem kf_el_sort : findIn (KH P) (.ref 261) "sort" = some (some (.builtin "list.sort")) := by kernel_rfl
theorem kf_el_iter : findIn (KH P) (.ref 261) "__iter__" = some (some (.builtin "list.__iter__")) := by kernel_rfl
theorem kf_el_len : findIn (KH P) (.ref 261) "__len__" = some (some (.builtin "list.__len__")) := by kernel_rfl
theorem kf_el_ga : findIn (KH P) (.ref 261) "__getattribute__" = some (some (.builtin "list.__getattribute__")) := by kernel_rfl
theorem kf_el_gt : findIn (KH P) (.ref 261) "__getattr__" = some none := by kernel_rfl
theorem canon_list_ga : Manifest.canonical "list.__getattribute__" = "object.__getattribute__" := by kernel_rfl
theorem kf_el_t_append : typeIn (KH P) (.builtin "list.append") = some (.type "method_descriptor") := by kernel_rfl
theorem kf_el_t_sort : typeIn (KH P) (.builtin "list.sort") = some (.type "method_descriptor") := by kernel_rfl
theorem kf_el_holds : findIn (KH P) (.ref 261) "holds" = some (some (.ref 258)) := by kernel_rfl
theorem kf_fn_holds : typeIn (KH P) (.ref 258) = some (.type "function") := by kernel_rfl
theorem own_append {prog w h} {C : Addr} (X : (KH P).In h) : OwnSlot (model prog w) h 261 "list" "append" "list.append" := ⟨looks_findIn X kf_el_append, (makesL_of X kf_makesL).top, slot_list_append, .inr (by decide +kernel), _, (by decide +kernel : splitId "list.append" = some ("list", "append"))⟩
theorem own_listiter {prog w h} (X : (KH P).In h) : OwnSlot (model prog w) h 261 "list" "__iter__" "list.__iter__" := ⟨looks_findIn X kf_el_iter, (makesL_of X kf_makesL).top, slot_list_iter, .inl (by decide +kernel), _, (by decide +kernel : splitId "list.__iter__" = some ("list", "__iter__"))⟩
theorem own_len {prog w h} (X : (KH P).In h) : OwnSlot (model prog w) h 261 "list" "__len__" "list.__len__" := ⟨looks_findIn X kf_el_len, (makesL_of X kf_makesL).top, slot_list_len, .inl (by decide +kernel), _, (by decide +kernel : splitId "list.__len__" = some ("list", "__len__"))⟩
end Mine

-- SR
open PySem PySem.W PySem.Calls PyProof.Rows
set_option maxRecDepth 100000
set_option linter.unusedVariables false
namespace Mine
/-- whatever the answers -/
noncomputable def KAll (n : Nat) {α : Type} : KasT α → (α → Prop) → Prop
  | .ret a, R => R a
  | .ask i j k, R => i < n ∧ j < n ∧ ∀ b, KAll n (k b) R
theorem KAll.bind {n : Nat} {α β : Type} {f : α → KasT β} {R : α → Prop} {R' : β → Prop} : ∀ {t : KasT α}, KAll n t R → (∀ a, R a → KAll n (f a) R') → KAll n (t.bind f) R'
  | .ret a, h, k => k a h
  | .ask i j g, ⟨h1, h2, h3⟩, k => ⟨h1, h2, fun b => KAll.bind (h3 b) k⟩
theorem KAll.wp {n : Nat} {α : Type} {cmp : Nat → Nat → (Bool → Shared → Prop) → Shared → Prop} {I : Shared → Prop} {R : α → Prop} {Q : α → Shared → Prop} (hc : ∀ i j C s, i < n → j < n → I s → (∀ b s', I s' → C b s') → cmp i j C s)
    (hq : ∀ a s', R a → I s' → Q a s') : ∀ {t : KasT α} {s : Shared}, KAll n t R → I s → t.kasWp cmp Q s
  | .ret a, s, h, hi => hq a s h hi
  | .ask i j k, s, ⟨h1, h2, h3⟩, hi => hc i j _ s h1 h2 hi fun b s' hi' => KAll.wp hc hq (h3 b) hi'
abbrev Pm (n : Nat) (p : Array Nat) : Prop := p.Perm (List.range n).toArray
theorem Pm.lt {n : Nat} {p : Array Nat} (h : Pm n p) (h0 : 0 < n) (i : Nat) : p.getD i 0 < n := by
  by_cases hi : i < p.size
  · have e : p.getD i 0 = p[i] := by simp [Array.getD, hi]
    rw [e]
    have hm : p[i] ∈ p := Array.getElem_mem hi
    have := (h.mem_iff).mp hm
    simpa using this
  · have e : p.getD i 0 = 0 := by simp [Array.getD, hi]
    omega
theorem Pm.rev {n : Nat} {p : Array Nat} (h : Pm n p) (i j : Nat) : Pm n (kas_rev p i j) := (mirror_perm _ _ _ _).trans h
theorem Pm.bub {n : Nat} {p : Array Nat} (h : Pm n p) (i j : Nat) : Pm n (bubble p i j) := (bubble_perm _ _ _).trans h
section
variable {N : Nat} (h0 : 0 < N)
include h0
theorem kall_asc {p : Array Nat} (hp : Pm N p) : ∀ f n, KAll N (kas_asc p f n) (fun _ => True)
  | 0, n => trivial
  | f + 1, n => ⟨hp.lt h0 _, hp.lt h0 _, fun b => by
    dsimp only
    split
    · trivial
    · exact kall_asc hp f (n + 1)⟩
theorem kall_desc : ∀ f (p : Array Nat) n q, Pm N p → KAll N (kas_desc f p n q) (fun r => Pm N r.1)
  | 0, p, n, q, hp => hp
  | f + 1, p, n, q, hp => ⟨hp.lt h0 _, hp.lt h0 _, fun b => by
    dsimp only
    split
    · split
      · exact kall_desc f _ _ _ (hp.rev _ _)
      · exact kall_desc f _ _ _ hp
    · refine ⟨hp.lt h0 _, hp.lt h0 _, fun d => ?_⟩
      dsimp only
      split
      · exact hp
      · exact kall_desc f _ _ _ hp⟩
theorem kall_tail3 (n nrem : Nat) {p : Array Nat} (hp : Pm N p) : KAll N (kas_tail3 n nrem p) (fun r => Pm N r.2) :=
  KAll.bind (kall_asc h0 (hp.rev 0 n) _ _) fun m _ => hp.rev 0 n
theorem kall_descPart (n nrem : Nat) {p : Array Nat} (hp : Pm N p) : KAll N (kas_descPart n nrem p) (fun r => Pm N r.2) :=
  KAll.bind (kall_desc h0 _ _ _ _ hp) fun r hr => by
    split
    · exact kall_tail3 h0 _ _ (hr.rev _ _)
    · exact kall_tail3 h0 _ _ hr
theorem kall_count (nrem : Nat) {p : Array Nat} (hp : Pm N p) : KAll N (kas_count nrem p) (fun r => Pm N r.2) :=
  KAll.bind (kall_asc h0 hp _ _) fun n _ => by
    split
    · exact hp
    · split
      · refine ⟨hp.lt h0 _, hp.lt h0 _, fun b => ?_⟩
        dsimp only
        split
        · exact hp
        · exact kall_descPart h0 _ _ (hp.rev _ _)
      · exact kall_descPart h0 _ _ hp
theorem kall_place {p : Array Nat} (hp : Pm N p) (k : Nat) : ∀ f l r, KAll N (kas_place p k f l r) (fun _ => True)
  | 0, l, r => trivial
  | f + 1, l, r => by
    unfold kas_place
    split
    · trivial
    · refine ⟨hp.lt h0 _, hp.lt h0 _, fun b => ?_⟩
      dsimp only
      split
      · exact kall_place hp k f _ _
      · exact kall_place hp k f _ _
theorem kall_bin : ∀ f (p : Array Nat) k, Pm N p → KAll N (kas_bin f p k) (Pm N)
  | 0, p, _, hp => hp
  | f + 1, p, k, hp => KAll.bind (kall_place h0 hp k _ _ _) fun l _ => kall_bin f _ _ (hp.bub _ _)
theorem kall_sort : KAll N (kas_sort N) (Pm N) :=
  KAll.bind (kall_count h0 N (Array.Perm.refl _)) fun r hr => by
    split
    · exact kall_bin h0 _ _ _ hr
    · exact hr
end
theorem perm_out {vs : List Value} {p : Array Nat} (h : Pm vs.length p) : (p.toList.map fun i => vs.getD i Value.none).Perm vs := by
  have h1 : p.toList.Perm (List.range vs.length) := by simpa using h.toList
  refine (h1.map _).trans (List.Perm.of_eq ?_)
  apply List.ext_getElem
  · simp
  · intro i h1 h2
    simp [List.getD, h2]
theorem setL_setL : ∀ (nw : Led) (d : Addr) (o o' : Obj), setL (setL nw d o) d o' = setL nw d o'
  | [], _, _, _ => rfl
  | (a, x) :: r, d, o, o' => by
    by_cases h : a = d
    · subst h; simp [setL]
    · simp only [setL, if_neg h, setL_setL r d o o']
end Mine

-- EL3
open PySem PySem.W PySem.Calls PyProof.Rows
set_option maxRecDepth 100000
set_option linter.unusedVariables false
namespace Mine
variable {P : Params}
theorem own_sort {prog w h} (X : (KH P).In h) : OwnSlot (model prog w) h 261 "list" "sort" "list.sort" := ⟨looks_findIn X kf_el_sort, (makesL_of X kf_makesL).top, slot_list_sort, .inr (by decide +kernel), _, (by decide +kernel : splitId "list.sort" = some ("list", "sort"))⟩
section
variable {prog : Program} {w : World} {A : Around} {h₀ : Heap} {L : Addr} {m : Loc} {nw : Led} {mg mb : Loc} {r : Nat} {env : Env} {K : Frag} {e de : Addr} {items : List Value} {n : Nat}
theorem el_method {name : Str} {f tf : Value} {k : Nat} {pl : Sem Bool} {Q : Value × List Value → Loc → Led → Prop} (M : Fm (KH w.params) mg mb r A h₀ L) (he : (e, elObj de items n) ∈ nw) (hd : (de, dictOf [] k) ∈ nw) (hf : findIn (KH w.params) (.ref 261) name = some (some f)) (ht : typeIn (KH w.params) f = some tf) (htf : tf = .type "method_descriptor" ∨ tf = .type "function")
    (h : Q (f, [.ref e]) m nw) : Run prog w A h₀ L m nw (getMethod (.ref e) name pl) Q := fun os fx s hs =>
  method_own (od := some (dictOf [] k)) (hs.inK M) ⟨hs.get he, rfl, rfl, hs.get hd⟩ kf_el_ga canon_list_ga kf_el_gt hf ht htf rfl ⟨m, nw, hs, h⟩
theorem run_el_append {v : Value} {Q : Value → Loc → Led → Prop} (M : Fm (KH w.params) mg mb r A h₀ L) (he : (e, elObj de items n) ∈ nw) (hz : items.length < 1000) (h : ∀ n', Q .none m (setL nw e (elObj de (items ++ [v]) n'))) : Run prog w A h₀ L m nw (call (.builtin "list.append") [.ref e, v]) Q := fun os fx s hs => by
  have hg := hs.get he
  refine own_call (own_append (C := 261) (hs.inK M)) hg rfl entry_list_append ?_ (args_list_append _ _)
  show wpAny _ _ (updateSeq e (·.push v) >>= fun _ => ret .none) _ _ s
  refine wpAny_bind ?_
  have sl : sizeLine = 2 ^ 24 := rfl
  obtain ⟨n', hn'⟩ : ∃ n', (s.heap.update e (Obj.mapSeq (·.push v))).get? e = some (elObj de (items ++ [v]) n') :=
    ⟨if (items.toArray.push v).size == items.toArray.size then n else n + 1, by
      rw [Heap.get?_update_self (Obj.mapSeq (·.push v)) hg rfl]
      simp [Obj.mapSeq]⟩
  refine wpAny_updateSeq hg rfl (wpAny_pure ⟨.none, rfl, m, _, hs.set (tk := s.toks) he (Heap.SameBut.update _ _ _) hn', h n'⟩) (by rw [List.size_toArray]; omega) (by rw [Array.size_push, List.size_toArray]; omega)
theorem run_el_len {Q : Value → Loc → Led → Prop} (M : Fm (KH w.params) mg mb r A h₀ L) (he : (e, elObj de items n) ∈ nw) (hz : items.length < 1000) (h : ∀ t, Q (.int items.length t) m nw) : Run prog w A h₀ L m nw (call (.builtin "len") [.ref e]) Q := fun os fx s hs => by
  have ho := hs.get he
  refine call_function_entry kind_len plain_len entry_len (args_len1 _) ?_
  unfold Builtin.«len»
  refine wpAny_bind (m := oneArg "len" _) (wpAny_pure ?_)
  refine wpAny_bind (m := callSpecial? (.ref e) (Str.ofString "__len__")) (own_special (own_len (hs.inK M)) ho rfl (own_call (own_len (hs.inK M)) ho rfl entry_list_len ?_ (args_list_len _)))
  show wpAny _ _ (do retInt (← seqSize e)) _ _ s
  unfold seqSize
  refine wpAny_bind (wpAny_bind (wpAny_load ho ?_))
  refine wpAny_pure (wpAny_bind (wpAny_mkInt (wpAny_pure ⟨_, rfl, ?_⟩)))
  refine wpAny_bind (wpAny_holding (wpAny_pure ?_))
  refine wpAny_bind (wpAny_letGo ?_)
  show wpAny _ _ (if ((items.toArray.size : Nat) : Int) < 0 then _ else _) _ _ _
  have hs2 : items.toArray.size = items.length := by simp
  rw [if_neg (by omega)]
  show wpAny _ _ (if ((items.toArray.size : Nat) : Int) ≥ 2 ^ 63 then _ else _) _ _ _
  rw [if_neg (by omega)]
  refine wpAny_bind (wpAny_mkInt (wpAny_pure ⟨_, rfl, m, nw, (hs.toks (tk := s.toks + 1)).toks (tk := s.toks + 1 + 1), ?_⟩))
  have := h (s.toks + 1)
  rw [hs2]; exact this
/-- for over an own list -/
theorem start_el (M : Fm (KH w.params) mg mb r A h₀ L) (he : (e, elObj de items n) ∈ nw) {os fx s Q} (hs : St h₀ L os m nw fx s)
    (h : ∀ I o s', (o.cls = .type "list_iterator" ∧ o.data = .fields #[.ref e, .int ((0 : Nat) : Int) 0]) → St h₀ L os m nw ((I, o) :: fx) s' → Q (.ref I) s') : wpAny (model prog w) A (pyIter (.ref e)) Q (fun _ _ => False) s := by
  refine own_iter (own_listiter (hs.inK M)) (hs.get he) rfl (own_call (own_listiter (hs.inK M)) (hs.get he) rfl entry_list_iter ?_ (args_list_iter _))
  show wpAny _ _ (do ret (← newFields "list_iterator" [.ref e, rawInt 0])) _ _ s
  exact wpAny_bind (wpAny_newObj_type (wpAny_pure ⟨_, rfl, "list_iterator", _, ⟨_, Heap.get?_push_size _ rfl, rfl⟩, slot_listiter_next.lookup, h _ _ _ ⟨rfl, rfl⟩ (hs.push _ rfl).fix⟩))
theorem next_item {it l : Addr} {i : Nat} {items : Array Value} {x : Value} {s : Shared} {ol : Obj} {nl : Nat} {Q : Option Value → Shared → Prop} (hit : s.heap.IsListIter it l i)
    (hol : s.heap.get? l = some ol) (hdl : ol.data = .seq items nl) (hx : items[i]? = some x)
    (hQ : ∀ h', h'.IsListIter it l (i + 1) → Heap.SameBut it s.heap h' → Q (some x) { s with heap := h' }) :
    wpAny (model prog w) A (pyNext (.ref it)) Q (fun _ _ => False) s := by
  obtain ⟨o, ho, hc, hd⟩ := id hit
  unfold pyNext
  refine wpAny_bind (wpAny_attempt (wpAny_callSpecial?_slot (name := Str.ofString "__next__") hit.typeIs slot_listiter_next
    (wpAny_call_entry slot_listiter_next hit.typeIs entry_listiter_next ?_ (args_listiter_next _))))
  show wpAny _ _ (field (.ref it) 0 >>= _) _ _ s
  refine wpAny_bind (wpAny_field ho hd (x := .ref l) rfl ?_)
  show wpAny _ _ (if (Value.ref l == Value.none) = true then _ else _) _ _ s
  rw [if_neg (show ¬ ((Value.ref l == Value.none) = true) from Bool.false_ne_true)]
  show wpAny _ _ (field (.ref it) 1 >>= _) _ _ s
  refine wpAny_bind (wpAny_field ho hd (x := .int i 0) rfl ?_)
  show wpAny _ _ (seqItems? (.ref l) >>= _) _ _ s
  refine wpAny_bind (wpAny_seqItems hol hdl ?_)
  simp only [Int.toNat_natCast, hx]
  refine wpAny_bind (wpAny_setField ho hd (by simp) (wpAny_pure ⟨x, rfl, wpAny_pure (hQ _ ?_ (Heap.SameBut.update ..))⟩))
  exact ⟨_, Heap.get?_update_self _ ho (Obj.isFreed_of_fields (Obj.data_mapFields hd _)), (Obj.cls_mapFields ..).trans hc, by
    rw [Obj.data_mapFields hd]; simp [rawInt]⟩
theorem next_end {it l : Addr} {i : Nat} {items : Array Value} {s : Shared} {ol : Obj} {nl : Nat} {Q : Option Value → Shared → Prop} (hh : A.handled = none)
    (hit : s.heap.IsListIter it l i) (hol : s.heap.get? l = some ol) (hdl : ol.data = .seq items nl) (hx : items[i]? = none)
    (hQ : ∀ h', Heap.ExtBut it s.heap h' → Q none { s with heap := h' }) : wpAny (model prog w) A (pyNext (.ref it)) Q (fun _ _ => False) s := by
  obtain ⟨o, ho, hc, hd⟩ := id hit
  unfold pyNext
  refine wpAny_bind (wpAny_attempt (wpAny_callSpecial?_slot (name := Str.ofString "__next__") hit.typeIs slot_listiter_next
    (wpAny_call_entry slot_listiter_next hit.typeIs entry_listiter_next ?_ (args_listiter_next _))))
  show wpAny _ _ (field (.ref it) 0 >>= _) _ _ s
  refine wpAny_bind (wpAny_field ho hd (x := .ref l) rfl ?_)
  show wpAny _ _ (if (Value.ref l == Value.none) = true then _ else _) _ _ s
  rw [if_neg (show ¬ ((Value.ref l == Value.none) = true) from Bool.false_ne_true)]
  show wpAny _ _ (field (.ref it) 1 >>= _) _ _ s
  refine wpAny_bind (wpAny_field ho hd (x := .int i 0) rfl ?_)
  show wpAny _ _ (seqItems? (.ref l) >>= _) _ _ s
  refine wpAny_bind (wpAny_seqItems hol hdl ?_)
  simp only [Int.toNat_natCast, hx]
  refine wpAny_bind (wpAny_rule (wpAny_bind (wpAny_setField ho hd (by simp) ?_)))
  show wpAny _ _ (newExc (.type "StopIteration") [] >>= _) _ _ _
  refine wpAny_bind ?_
  simp only [newExc, newTuple]
  refine wpAny_bind (wpAny_newObj_type ?_ (by size_fits))
  refine wpAny_bind (m := firstArgMember _ _) (wpAny_of_eq (a := Value.none) (by first | rfl | (simp only [firstArgMember]; rfl)) ?_)
  refine wpAny_newObj_type ?_ (by size_fits)
  simp only [raiseNew]
  refine wpAny_bind (wpAny_handled ?_)
  rw [show A.in1.handled = none from hh]
  refine wpAny_bind (wpAny_pure (wpAny_throw ?_))
  refine wpAny_bind (wpAny_isInstance (T := "StopIteration") (b := true) ⟨_, Heap.get?_push_size _ rfl, rfl⟩ isSubtype_stop ?_)
  exact wpAny_pure (hQ _ (((Heap.SameBut.update ..).extBut.push _).push _))
theorem stepper_el {l : Addr} {items : Array Value} (hh : A.handled = none) : Stepper prog w A (fun i o => o.cls = .type "list_iterator" ∧ o.data = .fields #[.ref l, .int i 0]) items.size (fun i v => items[i]? = some v) (fun nw => ∃ lo n, (l, lo) ∈ nw ∧ lo.data = .seq items n) where
  item := fun i h₀ L os m nw fx s I o Q hi hs ho ⟨lo, n, hl, hd⟩ hQ => by
    refine next_item ⟨o, (hs.fixed (.head _)).1, ho.1, ho.2⟩ (hs.get hl) hd (x := items[i]) (by simp [hi]) fun h' hit hsb => ?_
    obtain ⟨o', ho', c', d'⟩ := hit
    exact hQ _ o' { s with heap := h' } (by simp [hi]) ⟨c', d'⟩ (hs.touch (tk := s.toks) hsb ho')
  done := fun h₀ L os m nw fx s I o Q hs ho ⟨lo, n, hl, hd⟩ hQ => by
    refine next_end hh ⟨o, (hs.fixed (.head _)).1, ho.1, ho.2⟩ (hs.get hl) hd (by simp) fun h' he => ?_
    exact hQ _ (hs.ext (tk := s.toks) he)
theorem sx_forE {x : Str} {px : Pos} {iter : Expr} {body : List Stmt} {pos : Pos} {rest : List Stmt} {PP : Value → Loc → Led → Prop} {R : Flow → Loc → Led → Prop} (items : List Value) (n : Nat) (J : Nat → Loc → Led → Prop) (B : Loc → Led → Prop) (M : Fm (KH w.params) mg mb r A h₀ L)
    (hl : env.locals = L) (hk : env.scope.kind = .function) (hx : env.kindOf x = some .local) (hiter : Ex prog w A h₀ L env m nw iter PP)
    (hP : ∀ v m' nw', PP v m' nw' → v = .ref e ∧ (e, elObj de items n) ∈ nw' ∧ J 0 m' nw') (hneed : ∀ i m' nw', J i m' nw' → (e, elObj de items n) ∈ nw')
    (turn : ∀ i u m₁ nw₁, items[i]? = some u → J i m₁ nw₁ → Sx prog w A h₀ L env (upd m₁ x u) nw₁ body (fun f m' nw' => match f with | .next => J (i + 1) m' nw' | .cont => J (i + 1) m' nw' | .brk => B m' nw' | .ret u => R (.ret u) m' nw'))
    (brk : ∀ m' nw', B m' nw' → Sx prog w A h₀ L env m' nw' rest R)
    (done : ∀ m' nw', J items.length m' nw' → Sx prog w A h₀ L env m' nw' rest R)
    (hs : ∀ x, foldedSetIterable iter env x = pure x := by intro _; rfl) :
    Sx prog w A h₀ L env m nw (.For (.Name x px) iter body [] pos :: rest) R :=
  sx_forB (P := fun v m' nw' => v = .ref e ∧ (e, elObj de items n) ∈ nw' ∧ J 0 m' nw') (It := fun v i o => (o.cls = .type "list_iterator" ∧ o.data = .fields #[.ref e, .int i 0])) (n := fun _ => items.length) (V := fun _ i v => items[i]? = some v) (need := fun v nw => (e, elObj de items n) ∈ nw)
    (fun v i m' nw' => J i m' nw') B hl hk hx (hiter.mono hP)
    (fun v m' nw' os fx s Q ⟨e1, hm, hj⟩ hs hQ => by subst e1; exact start_el M hm hs hQ)
    (fun v m' nw' ⟨e1, _⟩ => by
      have S := stepper_el (prog := prog) (w := w) (A := A) (l := e) (items := items.toArray) M.hnd
      refine ⟨fun i h₀ L os m nw fx s I o Q hi hs ho hn hQ => S.item i h₀ L os m nw fx s I o Q (by simpa using hi) hs ho ⟨_, _, hn, rfl⟩ fun v o' s' hv ho' => hQ v o' s' (by simpa using hv) ho', fun h₀ L os m nw fx s I o Q hs ho hn hQ => S.done h₀ L os m nw fx s I o Q hs (by simpa using ho) ⟨_, _, hn, rfl⟩ hQ⟩)
    (fun v m' nw' ⟨_, hm, hj⟩ => hj) (fun v i m' nw' hj => hneed i m' nw' hj)
    (fun v i u m₁ nw₁ hi hv hJ => turn i u m₁ nw₁ hv hJ) brk (fun v m' nw' hJ => done m' nw' hJ) hs
end
end Mine

-- SR2
open PySem PySem.W PySem.Calls PyProof.Rows
set_option maxRecDepth 100000
set_option linter.unusedVariables false
namespace Mine
section
variable {prog : Program} {w : World} {A : Around} {h₀ : Heap} {L : Addr} {m : Loc} {nw : Led} {mg mb : Loc} {r : Nat} {env : Env} {K : Frag} {e de : Addr} {items : List Value} {n : Nat}
/-- the faults of a list -/
def Faults (nw : Led) (vs : List Value) : Prop := ∀ v ∈ vs, ∃ x doc sch code info, v = .ref x ∧ VeAt nw x doc sch code info
theorem run_el_sort {Q : Value → Loc → Led → Prop} (M : Fm (KH w.params) mg mb r A h₀ L) (hr : 11 ≤ r) (he : (e, elObj de items n) ∈ nw) (hz : items.length < 64)
    (hv : ∀ o', Faults (setL nw e o') items) (h : ∀ items' n', items'.Perm items → Q .none m (setL nw e (elObj de items' n'))) : Run prog w A h₀ L m nw (call (.builtin "list.sort") [.ref e]) Q := fun os fx s hs => by
  have ho := hs.get he
  have sl : sizeLine = 2 ^ 24 := rfl
  obtain ⟨r', rfl⟩ : ∃ r', r = r' + 1 := ⟨r - 1, by omega⟩
  refine own_call (own_sort (hs.inK M)) ho rfl entry_list_sort ?_ (F.args_list_sort_1 _)
  rw [list_sort_plain]
  refine wpAny_bind (listItems_at ho rfl ?_)
  refine wpAny_bind (listUpdate_at ho rfl ?_ (by rw [List.size_toArray, sl]; omega) (Nat.zero_le _))
  obtain ⟨e1, ho1⟩ : ∃ e1, (s.heap.update e (Obj.mapSeq fun _ => (#[] : Array Value))).get? e = some (elObj de [] e1) :=
    ⟨if (#[] : Array Value).size == items.toArray.size then n else n + 1, by
      rw [Heap.get?_update_self (Obj.mapSeq fun _ => (#[] : Array Value)) ho rfl]
      simp [Obj.mapSeq]⟩
  have hs1 := hs.set (tk := s.toks) he (Heap.SameBut.update _ _ _) ho1
  refine wpAny_bind (seqEpoch_at ho1 rfl ?_)
  refine wpAny_bind (wpAny_newTuple ?_ (by show items.length ≤ _; rw [sl]; omega))
  refine wpAny_bind (wpAny_newList ?_ (Nat.zero_le _))
  refine wpAny_holding ?_
  have hs2 : St h₀ L os m (setL nw e (elObj de [] e1)) fx { s with heap := ((s.heap.update e (Obj.mapSeq fun _ => (#[] : Array Value))).push (seqObj "tuple" items.toArray 0)).push (seqObj "list" #[] 0) } :=
    hs1.grow (tk := s.toks) fun b o e => Heap.get?_push_of_some _ (Heap.get?_push_of_some _ e)
  have hm1 : (e, elObj de [] e1) ∈ setL nw e (elObj de [] e1) := mem_setL_self he
  show wpAny (model prog w) _ _ _ _ { s with heap := ((s.heap.update e (Obj.mapSeq fun _ => (#[] : Array Value))).push (seqObj "tuple" items.toArray 0)).push (seqObj "list" #[] 0) }
  dsimp only
  have fin : ∀ (st' : SortSt) (s' : Shared) (vs' : List Value), vs'.Perm items → (arrOf st').map (·.2) = vs'.toArray → failedOf st' = none → St h₀ L os m (setL nw e (elObj de [] e1)) fx s' →
      wpAny (model prog w) A.in1 (do
        let sorted := (arrOf st').map (·.2)
        let touched := (← seqEpoch e) != e1
        Builtin.List.listUpdate (.ref e) fun _ => sorted
        if let some e := failedOf st' then rule "list.sort.comparison-raised"; throw e
        if touched then rule "list.sort.modified"; raiseError "ValueError" "list modified during sort"
        ret .none) (fun fin s' => ∃ v, fin = .done (.ret v) ∧ ∃ m' nw', St h₀ L os m' nw' fx s' ∧ Q v m' nw') (fun _ _ => False) s' := by
    intro st' s' vs' hp har hf hst
    have hg := hst.get hm1
    rw [har, hf]
    obtain ⟨n', hn'⟩ : ∃ n', (s'.heap.update e (Obj.mapSeq fun _ => vs'.toArray)).get? e = some (elObj de vs' n') :=
      ⟨if vs'.toArray.size == ([] : List Value).toArray.size then e1 else e1 + 1, by
        rw [Heap.get?_update_self (Obj.mapSeq fun _ => vs'.toArray) hg rfl]
        simp [Obj.mapSeq]⟩
    refine wpAny_bind (seqEpoch_at hg rfl ?_)
    refine wpAny_bind (listUpdate_at hg rfl ?_ (Nat.zero_le _) (by rw [List.size_toArray, sl]; have := hp.length_eq; omega))
    simp only [bne_self_eq_false, Bool.false_eq_true, if_false]
    have hst2 := hst.set (tk := s'.toks) hm1 (Heap.SameBut.update _ _ _) hn'
    rw [setL_setL] at hst2
    exact wpAny_pure ⟨_, rfl, m, _, hst2, h vs' n' hp⟩
  by_cases h2 : items.length < 2
  · have hn2 : items.toArray.size < 2 := by rw [List.size_toArray]; exact h2
    rw [if_pos hn2, if_pos hn2]
    refine wpAny_bind (wpAny_pure ?_)
    refine wpAny_bind (wpAny_pure ?_)
    refine fin _ _ items (List.Perm.refl _) ?_ rfl hs2
    show (items.toArray.zip items.toArray).map (·.2) = items.toArray
    apply Array.toList_inj.mp
    simp [List.map_snd_zip]
  · have hn2 : ¬ items.toArray.size < 2 := by rw [List.size_toArray]; exact h2
    rw [if_neg hn2, if_neg hn2]
    have hv1 := hv (elObj de [] e1)
    have hT : ∀ v ∈ items, Looks (model prog w) (((s.heap.update e (Obj.mapSeq fun _ => (#[] : Array Value))).push (seqObj "tuple" items.toArray 0)).push (seqObj "list" #[] 0)) (typeOf v) (.ref 240) := by
      intro v hm
      obtain ⟨x, doc, sch, code, info, rfl, V⟩ := hv1 v hm
      obtain ⟨dx, es, n, dp, sp, t, h1, _⟩ := V
      exact Looks.ld (hs2.get h1) |>.andThen .now
    refine wpAny_bind (kas_kind (by omega) hT (by decide) (by decide) ?_)
    have est : SortSt.mk' oneType' (items.toArray.zip items.toArray) #[] 7 none = kas_st oneType' (pairsOf items) (List.toArray (List.range items.length)) := by
      have e := kas_range (pairsOf items)
      rw [pairsOf_size] at e
      show SortSt.mk' oneType' (pairsOf items) #[] 7 none = SortSt.mk' oneType' ((List.toArray (List.range items.length)).map (kas_item (pairsOf items))) #[] 7 none
      rw [e]
    have ask : (kas_sort items.length).kasWp (kas_cmp prog w A.in1 oneType' (pairsOf items)) (fun p s' => Pm items.length p ∧ St h₀ L os m (setL nw e (elObj de [] e1)) fx s') { s with heap := ((s.heap.update e (Obj.mapSeq fun _ => (#[] : Array Value))).push (seqObj "tuple" items.toArray 0)).push (seqObj "list" #[] 0) } := by
      rw [← kas_ask_eq]
      refine KAll.wp (I := fun s' => St h₀ L os m (setL nw e (elObj de [] e1)) fx s') ?_ (fun a s' ha hi => ⟨ha, hi⟩) (kall_sort (by omega)) hs2
      intro i j C s' hi hj hI hC
      have hxi : items.getD i Value.none ∈ items := by simp [List.getD, hi]
      have hxj : items.getD j Value.none ∈ items := by simp [List.getD, hj]
      obtain ⟨x, doc, sch, code, info, ex, V⟩ := hv1 _ hxi
      obtain ⟨y, doc', sch', code', info', ey, V'⟩ := hv1 _ hxj
      unfold kas_ask
      rw [ex, ey]
      obtain ⟨ox, od, I⟩ := V.ins (K := KH w.params)
      have MM := M.in1
      refine kas_lt_inst (by have := MM.units; omega) hI.F M.gr.X (I.inst hI MM) kf_lt_240 (by kernel_rfl) ?_
      refine wpAny_mono (run_fp MM (t_lt V V') (by omega) os fx s' hI) (fun v s'' ⟨m', nw', hst, ⟨b, hb⟩, e1, e2⟩ => ?_) fun _ _ e => e
      subst hb; subst e1; subst e2
      exact hC b s'' hst
    have run := kas_runs (E := fun _ _ => False) (Q := fun _ st' s' => ∃ p : Array Nat, Pm items.length p ∧ arrOf st' = p.map (kas_item (pairsOf items)) ∧ failedOf st' = none ∧ St h₀ L os m (setL nw e (elObj de [] e1)) fx s')
      (by omega) hz (fun p' st' s' a1 a2 a3 a4 => ⟨p', a4.1, a2, a3, a4.2⟩) ask
    rw [← est] at run
    refine wpAny_bind (wpAny_mono run ?_ fun _ _ e => e)
    rintro ⟨⟨⟩, st'⟩ s' ⟨p, hp, har, hf, hst⟩
    refine fin st' s' _ (perm_out hp) ?_ hf hst
    apply Array.toList_inj.mp
    rw [har, Array.map_map, Array.toList_map]
    exact List.map_congr_left fun i _ => by show (kas_item (pairsOf items) i).2 = _; rw [kas_item_eq]
end
end Mine

-- DK
open PySem PySem.W PySem.Calls PyProof.Rows
set_option maxRecDepth 100000
set_option linter.unusedVariables false
namespace Mine
def Key.hash (w : World) : Key → Int
  | .a => hashStr w "a" | .b => hashStr w "b" | .c => hashStr w "c" | .d => hashStr w "d" | .z => hashInt 0 | .y => hashStr w "z"
theorem Key.shape (k : Key) (t : Tok) : (∃ s, k.val t = .str s t ∧ (∀ w, k.hash w = hashStr w s) ∧ k.str = s ∧ k ≠ .z) ∨ (k = .z ∧ k.val t = .int 0 t) := by
  cases k <;> first | exact .inr ⟨rfl, rfl⟩ | exact .inl ⟨_, rfl, fun _ => rfl, rfl, nofun⟩
theorem Key.str_inj {k k' : Key} (h : k.str = k'.str) : k = k' := by cases k <;> cases k' <;> first | rfl | exact absurd h (by decide)
theorem keyKnd_strs (k : Key) (x : Str) (t : Tok) (v : Value) (h : (vkey (.str x t) == some k) = true) : (vkey v == some k) = v.isStr x := by
  have hk := beq_iff_eq.mp h
  have hx : k.str = x ∧ k ≠ .z := by
    unfold vkey at hk
    dsimp only at hk
    split at hk
    · cases hk; subst_vars; exact ⟨rfl, nofun⟩
    split at hk
    · cases hk; subst_vars; exact ⟨rfl, nofun⟩
    split at hk
    · cases hk; subst_vars; exact ⟨rfl, nofun⟩
    split at hk
    · cases hk; subst_vars; exact ⟨rfl, nofun⟩
    split at hk
    · cases hk; subst_vars; exact ⟨rfl, nofun⟩
    · cases hk
  obtain ⟨rfl, hz⟩ := hx
  cases v with
  | str y u =>
    show (vkey (.str y u) == some k) = (y == k.str)
    have h1 : ∀ k', vkey (.str y u) = some k' → k'.str = y := by
      intro k' hk'
      obtain ⟨t', e⟩ := vkey_of hk'
      rcases Key.shape k' t' with ⟨x', e', _, e3, _⟩ | ⟨_, e'⟩
      · rw [e'] at e; injection e with e5; rw [e3, e5]
      · rw [e'] at e; cases e
    by_cases hy : y = k.str
    · subst hy
      rw [beq_self_eq_true]
      rw [beq_iff_eq]
      cases k <;> first | rfl | exact absurd rfl hz
    · rw [beq_eq_false_iff_ne.mpr hy, beq_eq_false_iff_ne]
      intro e
      exact hy (h1 k e).symm
  | int i u =>
    show (vkey (.int i u) == some k) = false
    rw [beq_eq_false_iff_ne]
    unfold vkey; dsimp only; split
    · intro e; cases e; exact hz rfl
    · nofun
  | _ => rfl
def keyKnd (prog : Program) (w : World) : KeyKind prog w Key where
  is := fun k v => vkey v == some k
  hash := Key.hash w
  inj := fun v _ _ ha hb => by rw [beq_iff_eq] at ha hb; rw [ha] at hb; exact Option.some.inj hb
  byValue := fun k v h => by obtain ⟨t, rfl⟩ := vkey_of (beq_iff_eq.mp h); cases k <;> rfl
  pyHash := fun {A E s k v Q} hv h => by
    obtain ⟨t, rfl⟩ := vkey_of (beq_iff_eq.mp hv)
    rcases Key.shape k t with ⟨x, e, e2, _⟩ | ⟨rfl, e⟩
    · rw [e]; exact wpAny_pyHash_str (by rw [← e2]; exact h)
    · rw [e]; exact wpAny_pyHash_int h
  eqBool := fun {A E s k₁ k₂ u v Q} hu hv h => by
    obtain ⟨t, rfl⟩ := vkey_of (beq_iff_eq.mp hu)
    obtain ⟨t', rfl⟩ := vkey_of (beq_iff_eq.mp hv)
    rcases Key.shape k₁ t with ⟨x, e, _, e3, e4⟩ | ⟨rfl, e⟩ <;> rcases Key.shape k₂ t' with ⟨y, f, _, f3, f4⟩ | ⟨rfl, f⟩
    · rw [e, f]
      refine wpAny_eqBool_str ?_
      have : decide (x = y) = decide (k₁ = k₂) := by
        by_cases hab : k₁ = k₂
        · subst hab; rw [← e3, ← f3]; simp
        · rw [decide_eq_false hab, decide_eq_false]; intro hxy; exact hab (Key.str_inj (by rw [e3, f3, hxy]))
      rw [this]; exact h
    · rw [e, f]; rw [decide_eq_false e4] at h; exact PySem.SeqAt.EqAt.str_int x t 0 t' prog w E Q h
    · rw [e, f]; rw [decide_eq_false (Ne.symm f4)] at h; exact PySem.SeqAt.EqAt.int_str 0 t y t' prog w E Q h
    · rw [e, f]; exact wpAny_eqBool_int (by simpa using h)
  «strs» := keyKnd_strs
abbrev KDict (prog : Program) (w : World) (o : Obj) (kvs : List (Key × Value)) : Prop := o.IsDictOf (keyKnd prog w) kvs
end Mine

-- DK2
open PySem PySem.W PySem.Calls PyProof.Rows
set_option maxRecDepth 100000
set_option linter.unusedVariables false
namespace Mine
section
variable {prog : Program} {w : World} {A : Around} {h₀ : Heap} {L : Addr} {m : Loc} {nw : Led} {mg mb : Loc} {r : Nat} {env : Env} {K : Frag} {d : Addr} {o : Obj} {kvs : List (Key × Value)} {k : Key} {key : Value}
theorem rv_dict_notin (hm : (d, o) ∈ nw) (hd : KDict prog w o kvs) (lo : (d == sysModules) = false) (hk : vkey key = some k) : Rv prog w A h₀ L m nw (compareOp .NotIn key (.ref d)) (· = .bool (!(valueAt kvs k).isSome)) := fun os fx s hs =>
  kdg_notin hs.N (List.mem_append_left _ hm) hd lo (beq_iff_eq.mpr hk) _ rfl ⟨m, nw, hs.toks, rfl, rfl, rfl⟩
theorem rv_dict_get (hm : (d, o) ∈ nw) (hd : KDict prog w o kvs) (lo : (d == sysModules) = false) (hk : vkey key = some k) : Rv prog w A h₀ L m nw (call (.builtin "dict.get") [.ref d, key]) (· = (valueAt kvs k).getD .none) := fun os fx s hs =>
  kdg_get1 hs.N (List.mem_append_left _ hm) hd lo (beq_iff_eq.mpr hk) _ rfl ⟨m, nw, hs.toks, rfl, rfl, rfl⟩
theorem dict_get_method {pl : Sem Bool} {Q : Value × List Value → Loc → Led → Prop} (hm : (d, o) ∈ nw) (hd : KDict prog w o kvs) (h : Q (.builtin "dict.get", [.ref d]) m nw) : Run prog w A h₀ L m nw (getMethod (.ref d) "get" pl) Q := fun os fx s hs =>
  kdg_method hs.N (List.mem_append_left _ hm) hd ⟨m, nw, hs, h⟩
theorem rv_dict_item {value slice : Expr} {v : Value} (hm : (d, o) ∈ nw) (hd : KDict prog w o kvs) (hk : vkey key = some k) (hv : valueAt kvs k = some v)
    (hs : subscripted slice false (.ref d) key = operate [.ref d, key] (getItem (.ref d) key) := by with_unfolding_all rfl) (hg : ∀ r, letTemporaryGo value (.ref d) r = pure () := by intro _; with_unfolding_all rfl) : Rv prog w A h₀ L m nw (subscriptTail value slice (.ref d) key) (· = v) := fun os fx s hst =>
  kda_item hst.N (List.mem_append_left _ hm) hd (beq_iff_eq.mpr hk) hv ⟨m, nw, hst.toks, rfl, rfl, rfl⟩ hs hg
theorem run_dict_set {v : Value} {Q : Unit → Loc → Led → Prop} (hm : (d, o) ∈ nw) (hd : KDict prog w o kvs) (hk : vkey key = some k) (hz : kvs.length < 1000) (h : ∀ o', KDict prog w o' (stored kvs k v) → Q () m (setL nw d o')) : Run prog w A h₀ L m nw (setItem (.ref d) key v) Q := fun os fx s hs => by
  have hsz : kvs.length ≤ sizeLine := by have e : sizeLine = 2 ^ 24 := rfl; omega
  refine wpAny_setItem_pairs (hsz := hsz) (beq_iff_eq.mpr hk : (keyKnd prog w).is k key = true) (Heap.dictOf_iff.mpr ⟨o, hs.get hm, hd⟩) fun h' hmm hsb => ?_
  obtain ⟨o', ho', hd'⟩ := Heap.dictOf_iff.mp hmm
  exact ⟨m, _, hs.set (tk := s.toks + 1) hm hsb ho', h o' hd'⟩
theorem kdict_nil (n : Nat) : KDict prog w (dictOf [] n) [] := ⟨#[], n, ⟨rfl, rfl, rfl⟩, rfl, fun e he => by simp at he, .nil, .nil⟩
theorem ex_dict0 {pos : Pos} {Q : Value → Loc → Led → Prop} (M : Fm K mg mb r A h₀ L) (h : ∀ a, (a == sysModules) = false → a ∉ nw.map (·.1) → Q (.ref a) m ((a, dictOf [] 0) :: nw)) : Ex prog w A h₀ L env m nw (.Dict [] [] pos) Q := fun os fx s hs => by
  refine wpAny_Dict_empty ⟨m, _, hs.push (dictOf [] 0) rfl, h _ (hs.F.notModules (modules_low M.gr.nolimit)) fun hx => ?_⟩
  obtain ⟨p, hp, e⟩ := List.mem_map.mp hx
  exact absurd (Heap.lt_size (hs.get hp)) (by rw [e]; exact Nat.lt_irrefl _)
theorem sx_forD {x : Str} {px : Pos} {iter : Expr} {body : List Stmt} {pos : Pos} {rest : List Stmt} {R : Flow → Loc → Led → Prop} (J : Nat → Loc → Led → Prop) (B : Loc → Led → Prop) (M : Fm K mg mb r A h₀ L)
    (hl : env.locals = L) (hk : env.scope.kind = .function) (hx : env.kindOf x = some .local) (hiter : Ev prog w A h₀ L env m nw iter (· = .ref d)) (lo : (d == sysModules) = false) (hd : KDict prog w o kvs) (hm : (d, o) ∈ nw)
    (h0 : J 0 m nw) (hneed : ∀ i m' nw', J i m' nw' → (d, o) ∈ nw')
    (turn : ∀ i u k v m₁ nw₁, kvs[i]? = some (k, v) → vkey u = some k → J i m₁ nw₁ → Sx prog w A h₀ L env (upd m₁ x u) nw₁ body (fun f m' nw' => match f with | .next => J (i + 1) m' nw' | .cont => J (i + 1) m' nw' | .brk => B m' nw' | .ret u => R (.ret u) m' nw'))
    (brk : ∀ m' nw', B m' nw' → Sx prog w A h₀ L env m' nw' rest R)
    (done : ∀ m' nw', J kvs.length m' nw' → Sx prog w A h₀ L env m' nw' rest R)
    (hs : ∀ x, foldedSetIterable iter env x = pure x := by intro _; rfl) :
    Sx prog w A h₀ L env m nw (.For (.Name x px) iter body [] pos :: rest) R := by
  obtain ⟨ep, ha⟩ := KdkAt.of hd
  refine sx_forB (P := fun v m' nw' => v = .ref d ∧ m' = m ∧ nw' = nw) (It := fun v i o => KdkIter o d i kvs.length ep) (n := fun _ => kvs.length) (V := fun _ i u => ∃ k v, kvs[i]? = some (k, v) ∧ vkey u = some k) (need := fun v nw => (d, o) ∈ nw)
    (fun v i m' nw' => J i m' nw') B hl hk hx (hiter.mono fun v m' nw' h => h)
    (fun v m' nw' os fx s Q ⟨e1, e2, e3⟩ hs hQ => ?_) (fun v m' nw' ⟨e1, e2, e3⟩ => ?_)
    (fun v m' nw' ⟨_, e2, e3⟩ => by subst e2; subst e3; exact h0) (fun v i m' nw' hj => hneed i m' nw' hj)
    (fun v i u m₁ nw₁ hi ⟨k, v', h1, h2⟩ hJ => turn i u k v' m₁ nw₁ h1 h2 hJ) brk (fun v m' nw' hJ => done m' nw' hJ) hs
  · subst e1; subst e2; subst e3
    exact wpAny_pyIter_dict lo (ha.dictAt (hs.get hm)) (hQ _ _ _ ⟨rfl, rfl⟩ (hs.push _ rfl).fix)
  · refine ⟨fun i h₀ L os m nw fx s I oo Q hi hs ho hn hQ => ?_, fun h₀ L os m nw fx s I oo Q hs ho hn hQ => ?_⟩
    · obtain ⟨kv, hkv⟩ : ∃ kv, kvs[i]? = some kv := ⟨_, List.getElem?_eq_getElem hi⟩
      obtain ⟨k, v'⟩ := kv
      refine wpAny_pyNext_dict_item (ho.at (hs.fixed (.head _)).1) (ha.dictAt (hs.get hn)) hkv fun key h' hkey hit hsb => ?_
      obtain ⟨o', ho', c', d'⟩ := hit
      exact hQ key o' { s with heap := h' } ⟨k, v', hkv, beq_iff_eq.mp hkey⟩ ⟨c', d'⟩ (hs.touch (tk := s.toks) hsb ho')
    · refine wpAny_pyNext_dict_end M.hnd (ho.at (hs.fixed (.head _)).1) (ha.dictAt (hs.get hn)) (by simp) fun h' he => ?_
      exact hQ _ (hs.ext (tk := s.toks) he)
end
end Mine

-- TN1
open PySem PySem.W PySem.Calls PyProof.Rows
set_option maxRecDepth 100000
set_option linter.unusedVariables false
namespace Mine
theorem kb_str {P : Params} : nsIn (KH P) mainGlobals "str" = some none := by kernel_rfl
section
variable {prog : Program} {w : World} {A : Around} {h₀ : Heap} {L : Addr} {m : Loc} {nw : Led} {mg mb : Loc} {r : Nat} {env : Env} {K : Frag}
theorem ev_front_str {value e : Expr} {p pos : Pos} {x : Str} {j : Int} (hv : Ev prog w A h₀ L env m nw value (VS x)) (he : Ev prog w A h₀ L env m nw e (VI j)) (hz : x.length ≤ 1000)
    (hs : ∀ (t : Tok) (a : Addr), subscripted (.Slice none (some e) none p) false (.str x t) (.ref a) = operate [.ref a, .str x t] (getItem (.str x t) (.ref a)) := by intro _ _; with_unfolding_all rfl)
    (ht : ∀ (t : Tok) r, letTemporaryGo value (.str x t) r = pure () := by intro _ _; with_unfolding_all rfl) :
    Ev prog w A h₀ L env m nw (.Subscript value (.Slice none (some e) none p) pos) (VS (Txt.slice x none (some j))) := fun os fx s hst =>
  Subscript_ (wpAny_mono (hv os fx s hst) (fun o s₁ ⟨m', nw', hs', ⟨t, eo⟩, e1, e2⟩ => by
    subst eo; subst e1; subst e2
    refine wpAny_Slice (by
      rw [evalPart_none, evalPart_some]
      refine wpAny_pure (wpAny_mono (he os fx s₁ hs') (fun v s₂ ⟨m'', nw'', hs'', ⟨u, ev⟩, e1, e2⟩ => wpAny_pure ?_) fun _ _ x => x)
      subst ev; subst e1; subst e2
      exact slice_strN_ns_len hs''.F hs''.N (fun h' t' k F' N' _ => ⟨m'', nw'', ⟨F', N', hs''.D, hs''.os, hs''.bare⟩, ⟨t', rfl⟩, rfl, rfl⟩) (hs t _) (ht t) (by have e : sizeLine = 2 ^ 24 := rfl; omega))) fun _ _ x => x)
theorem rv_add_str {x y : Str} {t u : Tok} (hz : x.length + y.length ≤ 1000) : Rv prog w A h₀ L m nw (binaryOp .Add (.str x t) (.str y u)) (VS (x ++ y)) := fun os fx s hs =>
  PySem.SB.add (fun t' k => ⟨m, nw, hs.toks, ⟨_, rfl⟩, rfl, rfl⟩) (by have e : sizeLine = 2 ^ 24 := rfl; omega)
theorem rv_type_str {x : Str} {t : Tok} : Rv prog w A h₀ L m nw (call (.type "type") [.str x t]) (· = .type "str") := fun os fx s hs => call_type_of (Tx := "str") rfl (by decide) ⟨m, nw, hs, rfl, rfl, rfl⟩
theorem rv_eq_str {x y : Str} {t u : Tok} : Rv prog w A h₀ L m nw (compareOp .Eq (.str x t) (.str y u)) (· = .bool (x == y)) := fun os fx s hs => PyProof.Rows.eq_str ⟨m, nw, hs, rfl, rfl, rfl⟩
theorem t_pe_name {x : Str} {t : Tok} (hz : x.length ≤ 1000) (hx : (Txt.slice x none (some 2) == ("__" : Str)) = false) : Fp prog w (KH w.params) mg mb 1 (.ref 28) [.str x t] nw (· = .str x t) := by
  refine Fn.intro (d := 0) (binds := [("n", .str x t)]) (by with_unfolding_all exact rfl) (by kernel_rfl) (fun s => BindsTo.of_eq rfl) (locs rfl) (by decide) rfl rfl rfl ?_
  intro r A h₀ L hr M
  refine sv_if (B := (· = false)) (tv_or (or_cons (B := (· = false)) (tv_cmp (V := (· = .type "str")) (V' := (· = .type "str")) ?_ (ex_builtin M rfl rfl rfl rfl kb_str rfl (by decide)) ?_) (fun h => absurd h (by decide)) (fun _ => or_cons (B := (· = false)) (tv_cmp (V := VS (Txt.slice x none (some 2))) (V' := VS "__") (ev_front_str (ev_mono (ex_local rfl rfl rfl rfl) fun v e => ⟨t, e⟩) ex_int hz) ex_str ?_) (fun h => absurd h (by decide)) (fun _ => or_nil ⟨rfl, rfl, rfl⟩)))) (fun h => absurd h (by decide)) (fun _ => ?_)
  · exact ex_call (ex_builtin M rfl rfl rfl rfl kb_type rfl (by decide)) (fun f m' nw' ⟨a, b, c⟩ => by
      subst a; subst b; subst c
      exact cw_type (arg1 (V := (· = .str x t)) (ex_local rfl rfl rfl rfl)) (fun vs m'' nw'' ⟨v, a, e, c, d⟩ => by subst a; subst c; subst d; subst e; exact rv_type_str))
  · intro a b ha hb
    subst ha; subst hb
    exact fun os fx s hs => isnot_type_same ⟨_, _, hs, false, rfl, rfl, rfl, rfl⟩
  · rintro a b ⟨u, rfl⟩ ⟨u', rfl⟩
    exact Run.mono rv_eq_str fun c m' nw' ⟨e, e1, e2⟩ => ⟨_, e, hx, e1, e2⟩
  · exact sx_nil (sv_ret (V := (· = .str x t)) (ex_local rfl rfl rfl rfl) fun v hv => ⟨hv, Kp.refl⟩)
end
end Mine

-- TN2
open PySem PySem.W PySem.Calls PyProof.Rows
set_option maxRecDepth 100000
set_option linter.unusedVariables false
namespace Mine
theorem kf_not_str {P : Params} : isNotIn (KH P) "str" 53 = true := by kernel_rfl
theorem kf_not_int {P : Params} : isNotIn (KH P) "int" 53 = true := by kernel_rfl
theorem kf_is_def {P : Params} : isIn (KH P) (.ref 53) 53 = true := by kernel_rfl
def IsNC (C : Addr) : Prop := C = 342 ∨ C = 405 ∨ C = 417
def rootC (dk : Bool) : Addr := if dk then 405 else 417
def kindS (dk : Bool) : Str := if dk then "document" else "schema"
theorem rootC_nc (dk : Bool) : IsNC (rootC dk) := by cases dk <;> simp [IsNC, rootC]
abbrev nodeO (C dx d e : Addr) (par : Value) (pa root : Addr) : Obj := { cls := .ref C, dict := some dx, data := .plain, slots := #[some (.ref d), some (.ref e), some par, some (.ref pa), some (.ref root)] }
def NodeAt (nw : Led) (x C d e : Addr) (par : Value) (pa root : Addr) : Prop := ∃ dx, (x, nodeO C dx d e par pa root) ∈ nw ∧ (dx, dictOf [] 0) ∈ nw
theorem NodeAt.keep0 {nw nw' x C d e par pa root} (N : NodeAt nw x C d e par pa root) (k : Kp [] nw nw') : NodeAt nw' x C d e par pa root := let ⟨dx, a, b⟩ := N; ⟨dx, k.get a, k.get b⟩
theorem NodeAt.ins {K nw x C d e par pa root} (N : NodeAt nw x C d e par pa root) : ∃ ox, Ins K nw x C ox (dictOf [] 0) ∧ ox.slots = #[some (.ref d), some (.ref e), some par, some (.ref pa), some (.ref root)] := by
  obtain ⟨dx, a, b⟩ := N
  exact ⟨_, ⟨rfl, rfl, dx, rfl, .inl ⟨a, b⟩⟩, rfl⟩
section
variable {prog : Program} {w : World} {A : Around} {h₀ : Heap} {L : Addr} {m : Loc} {nw : Led} {mg mb : Loc} {r : Nat} {env : Env} {K : Frag} {x C d e pa root : Addr} {par : Value} {b : Bool}
theorem nd_path (M : Fm (KH w.params) mg mb r A h₀ L) (hC : IsNC C) (N : NodeAt nw x C d e par pa root) : Rv prog w A h₀ L m nw (getAttr (.ref x) "path" b) (· = .ref pa) := by
  obtain ⟨ox, I, hs⟩ := N.ins (K := KH w.params)
  rcases hC with rfl | rfl | rfl
  · exact run_slot M I kf_slot_path_342 (by rw [hs]; rfl) rfl ⟨rfl, rfl, rfl⟩
  · exact run_slot M I kf_slot_path_405 (by rw [hs]; rfl) rfl ⟨rfl, rfl, rfl⟩
  · exact run_slot M I kf_slot_path_417 (by rw [hs]; rfl) rfl ⟨rfl, rfl, rfl⟩
theorem nd_root (M : Fm (KH w.params) mg mb r A h₀ L) (hC : IsNC C) (N : NodeAt nw x C d e par pa root) : Rv prog w A h₀ L m nw (getAttr (.ref x) "tree_root" b) (· = .ref root) := by
  obtain ⟨ox, I, hs⟩ := N.ins (K := KH w.params)
  rcases hC with rfl | rfl | rfl
  · exact run_slot M I kf_slot_tree_root_342 (by rw [hs]; rfl) rfl ⟨rfl, rfl, rfl⟩
  · exact run_slot M I kf_slot_tree_root_405 (by rw [hs]; rfl) rfl ⟨rfl, rfl, rfl⟩
  · exact run_slot M I kf_slot_tree_root_417 (by rw [hs]; rfl) rfl ⟨rfl, rfl, rfl⟩
theorem nd_errs (M : Fm (KH w.params) mg mb r A h₀ L) (hC : IsNC C) (N : NodeAt nw x C d e par pa root) : Rv prog w A h₀ L m nw (getAttr (.ref x) "errors" b) (· = .ref e) := by
  obtain ⟨ox, I, hs⟩ := N.ins (K := KH w.params)
  rcases hC with rfl | rfl | rfl
  · exact run_slot M I kf_slot_errors_342 (by rw [hs]; rfl) rfl ⟨rfl, rfl, rfl⟩
  · exact run_slot M I kf_slot_errors_405 (by rw [hs]; rfl) rfl ⟨rfl, rfl, rfl⟩
  · exact run_slot M I kf_slot_errors_417 (by rw [hs]; rfl) rfl ⟨rfl, rfl, rfl⟩
theorem nd_desc (M : Fm (KH w.params) mg mb r A h₀ L) (hC : IsNC C) (N : NodeAt nw x C d e par pa root) : Rv prog w A h₀ L m nw (getAttr (.ref x) "descendants" b) (· = .ref d) := by
  obtain ⟨ox, I, hs⟩ := N.ins (K := KH w.params)
  rcases hC with rfl | rfl | rfl
  · exact run_slot M I kf_slot_descendants_342 (by rw [hs]; rfl) rfl ⟨rfl, rfl, rfl⟩
  · exact run_slot M I kf_slot_descendants_405 (by rw [hs]; rfl) rfl ⟨rfl, rfl, rfl⟩
  · exact run_slot M I kf_slot_descendants_417 (by rw [hs]; rfl) rfl ⟨rfl, rfl, rfl⟩
theorem nd_par (M : Fm (KH w.params) mg mb r A h₀ L) (hC : IsNC C) (N : NodeAt nw x C d e par pa root) (hh : handedIn par = true) : Rv prog w A h₀ L m nw (getAttr (.ref x) "parent_node" b) (· = par) := by
  obtain ⟨ox, I, hs⟩ := N.ins (K := KH w.params)
  rcases hC with rfl | rfl | rfl
  · exact run_slot M I kf_slot_parent_node_342 (by rw [hs]; rfl) hh ⟨rfl, rfl, rfl⟩
  · exact run_slot M I kf_slot_parent_node_405 (by rw [hs]; rfl) hh ⟨rfl, rfl, rfl⟩
  · exact run_slot M I kf_slot_parent_node_417 (by rw [hs]; rfl) hh ⟨rfl, rfl, rfl⟩
theorem t_depth {p : List Key} (hC : IsNC C) (N : NodeAt nw x C d e par pa root) (hp : PathAt nw pa p) (hz : p.length < 100) : Fp prog w (KH w.params) mg mb 1 (.ref 315) [.ref x] nw (VI p.length) := by
  refine Fn.intro (d := 0) (binds := [("self", .ref x)]) (by with_unfolding_all exact rfl) (by kernel_rfl) (fun s => BindsTo.of_eq rfl) (locs rfl) (by decide) rfl rfl rfl ?_
  intro r A h₀ L hr M
  obtain ⟨xs, n, h1, h2⟩ := hp
  have lx := h2.length
  refine sv_ret (V := VI xs.length) (ev_len_tuple M rfl rfl rfl rfl (ev_at (ex_local rfl rfl rfl rfl) (nd_path M hC N)) h1 (by omega)) fun v hv => ⟨by rw [← lx]; exact hv, Kp.refl⟩
theorem nd_depth {p : List Key} (M : Fm (KH w.params) mg mb r A h₀ L) (hr : 2 ≤ r) (hC : IsNC C) (N : NodeAt nw x C d e par pa root) (hp : PathAt nw pa p) (hz : p.length < 100) : Rv prog w A h₀ L m nw (getAttr (.ref x) "depth" b) (VI p.length) := by
  have T := t_depth (prog := prog) (w := w) (mg := mg) (mb := mb) hC N hp hz
  obtain ⟨ox, I, hs⟩ := N.ins (K := KH w.params)
  rcases hC with rfl | rfl | rfl
  · exact rv_prop M I kf_depth_342 T hr fun v ⟨t, e⟩ => by subst e; rfl
  · exact rv_prop M I kf_depth_405 T hr fun v ⟨t, e⟩ => by subst e; rfl
  · exact rv_prop M I kf_depth_417 T hr fun v ⟨t, e⟩ => by subst e; rfl
/-- the kind of tree -/
def RootAt (nw : Led) (dk : Bool) (root : Addr) : Prop := ∃ d e par pa rr, NodeAt nw root (rootC dk) d e par pa rr
theorem RootAt.keep0 {nw' dk} (R : RootAt nw dk root) (k : Kp [] nw nw') : RootAt nw' dk root := let ⟨d, e, p, q, rr, N⟩ := R; ⟨d, e, p, q, rr, N.keep0 k⟩
theorem root_type {dk : Bool} (M : Fm (KH w.params) mg mb r A h₀ L) (R : RootAt nw dk root) : Rv prog w A h₀ L m nw (getAttr (.ref root) "tree_type" b) (VS (kindS dk)) := by
  obtain ⟨d, e, par, pa, rr, N⟩ := R
  obtain ⟨ox, I, hs⟩ := N.ins (K := KH w.params)
  cases dk with
  | true => exact run_cls M I kf_tree_type_405 rfl ⟨⟨_, rfl⟩, rfl, rfl⟩
  | false => exact run_cls M I kf_tree_type_417 rfl ⟨⟨_, rfl⟩, rfl, rfl⟩
theorem t_tree_type {dk : Bool} (N : NodeAt nw x 342 d e par pa root) (R : RootAt nw dk root) : Fp prog w (KH w.params) mg mb 1 (.ref 323) [.ref x] nw (VS (kindS dk)) := by
  refine Fn.intro (d := 0) (binds := [("self", .ref x)]) (by with_unfolding_all exact rfl) (by kernel_rfl) (fun s => BindsTo.of_eq rfl) (locs rfl) (by decide) rfl rfl rfl ?_
  intro r A h₀ L hr M
  exact sv_ret (V := VS (kindS dk)) (ev_at (ev_at (ex_local rfl rfl rfl rfl) (nd_root M (.inl rfl) N)) (root_type M R)) fun v hv => ⟨hv, Kp.refl⟩
/-- of which kind a node is -/
def TypeOk (dk : Bool) (C x root : Addr) : Prop := C = 342 ∨ (C = rootC dk ∧ x = root)
theorem TypeOk.nc {dk} (h : TypeOk dk C x root) : IsNC C := h.elim .inl fun ⟨a, _⟩ => a ▸ rootC_nc dk
theorem nd_type {dk : Bool} (M : Fm (KH w.params) mg mb r A h₀ L) (hr : 2 ≤ r) (hC : TypeOk dk C x root) (N : NodeAt nw x C d e par pa root) (R : RootAt nw dk root) : Rv prog w A h₀ L m nw (getAttr (.ref x) "tree_type" b) (VS (kindS dk)) := by
  rcases hC with rfl | ⟨rfl, rfl⟩
  · obtain ⟨ox, I, hs⟩ := N.ins (K := KH w.params)
    exact rv_prop M I kf_tree_type_342 (t_tree_type N R) hr fun v ⟨t, e⟩ => by subst e; rfl
  · exact root_type M R
abbrev pathD (dk : Bool) (doc sch : List Key) : List Key := if dk then doc else sch
theorem t_path_of {dk : Bool} {f info : Addr} {doc sch : List Key} {code : Nat} (hC : TypeOk dk C x root) (N : NodeAt nw x C d e par pa root) (R : RootAt nw dk root) {nv : Led} (V : VeAt nv f doc sch code info) (kv : Kp [] nv nw) :
    Fp prog w (KH w.params) mg mb 3 (.ref 338) [.ref x, .ref f] nw (fun v => ∃ a, v = .ref a ∧ PathAt nv a (pathD dk doc sch)) := by
  refine Fn.intro (d := 2) (binds := [("self", .ref x), ("error", .ref f)]) (by with_unfolding_all exact rfl) (by kernel_rfl) (fun s => BindsTo.of_eq rfl) (locs rfl) (by decide) rfl rfl rfl ?_
  intro r A h₀ L hr M
  have hn : (kindS dk ++ ("_path" : Str)).length ≤ 1000 ∧ (Txt.slice (kindS dk ++ ("_path" : Str)) none (some 2) == ("__" : Str)) = false ∧ (kindS dk).length + ("_path" : Str).length ≤ 1000 := by cases dk <;> decide +kernel
  refine sv_ret (V := fun v => ∃ a, v = .ref a ∧ PathAt nv a (pathD dk doc sch)) (ev_call2 (V := (· = .ref f)) (V' := VS (kindS dk ++ ("_path" : Str))) (ex_builtin M rfl rfl rfl rfl kb_getattr rfl (by decide)) (ex_local rfl rfl rfl rfl)
    (ex_callK (P := fun vs m' nw' => ∃ t, vs = [.str (kindS dk ++ ("_path" : Str)) t] ∧ m' = _ ∧ nw' = nw) M (ex_global M rfl rfl rfl kg_pe_name) kk_pe_name
      (args_ev (V := VS (kindS dk ++ ("_path" : Str))) (ev_binop (V := VS (kindS dk)) (V' := VS "_path") (ev_at (ex_local rfl rfl rfl rfl) (nd_type M hr hC N R)) ex_str fun a b ⟨t, e⟩ ⟨t', e'⟩ => by subst e; subst e'; exact rv_add_str hn.2.2) fun v ⟨t, e⟩ => args_nil ⟨t, by rw [e], rfl, rfl⟩)
      (fun vs m' nw' ⟨t, e1, e2, e3⟩ => by subst e1; subst e2; subst e3; exact Run.mono (run_fp M (t_pe_name hn.1 hn.2.1) (by omega)) fun v m' nw' ⟨e, e1⟩ => ⟨⟨t, e⟩, e1⟩))
    (fun v v' hv ⟨t, e⟩ => by
      subst hv; subst e
      obtain ⟨dx, es, n, dp, sp, tt, h1, h2, ⟨h3, h4, h5⟩, ⟨h6, h7, h8⟩, h9, h10⟩ := V
      have I : Ins (KH w.params) nw f 240 (instObj 240 dx) (dictOf es n) := ⟨rfl, rfl, dx, rfl, .inl ⟨kv.get h1, kv.get h2⟩⟩
      cases dk with
      | true =>
        obtain ⟨attr, a1, a2⟩ := (kf_own_document_path (P := w.params)).a
        exact fun os fx s hs => kbm_getattr2 (kbm_ownBy hs.F M.gr.X (I.inst hs M) kf_own_document_path.g kf_own_document_path.d a1 a2 h3 rfl ⟨_, _, hs, ⟨dp, rfl, h4⟩, rfl, rfl⟩)
      | false =>
        obtain ⟨attr, a1, a2⟩ := (kf_own_schema_path (P := w.params)).a
        exact fun os fx s hs => kbm_getattr2 (kbm_ownBy hs.F M.gr.X (I.inst hs M) kf_own_schema_path.g kf_own_schema_path.d a1 a2 h6 rfl ⟨_, _, hs, ⟨sp, rfl, h7⟩, rfl, rfl⟩))) fun v hv => ⟨hv, Kp.refl⟩
end
end Mine

-- TN3
open PySem PySem.W PySem.Calls PyProof.Rows
set_option maxRecDepth 100000
set_option linter.unusedVariables false
namespace Mine
section
variable {prog : Program} {w : World} {A : Around} {h₀ : Heap} {L : Addr} {m : Loc} {nw : Led} {mg mb : Loc} {r : Nat} {env : Env} {K : Frag} {x C d e pa root de : Addr} {par : Value} {b : Bool} {o : Obj} {kvs : List (Key × Value)} {k : Key} {key v : Value} {items : List Value} {n : Nat}
theorem sv_setitem {oe i pos' value pos rest} {v ov iv : Value} {R : Flow → Loc → Led → Prop} (hv : Ev prog w A h₀ L env m nw value (· = v)) (ho : Ev prog w A h₀ L env m nw oe (· = ov)) (hi : Ev prog w A h₀ L env m nw i (· = iv))
    (k : Run prog w A h₀ L m nw (setItem ov iv v) (fun _ m'' nw'' => Sx prog w A h₀ L env m'' nw'' rest R))
    (hs : swapsWith value (some (.Subscript oe i pos')) pos.line env = pure false := by rfl) : Sx prog w A h₀ L env m nw (.Assign [.Subscript oe i pos'] value pos :: rest) R :=
  sx_cons fun os fx s hst => wpAny_Assign_Subscript (wpAny_mono (hv os fx s hst) (fun v' s₁ ⟨m1, nw1, hs1, a1, b1, c1⟩ => by
    subst a1; subst b1; subst c1
    exact wpAny_mono (ho os fx s₁ hs1) (fun o' s₂ ⟨m2, nw2, hs2, a2, b2, c2⟩ => by
      subst a2; subst b2; subst c2
      exact wpAny_mono (hi os fx s₂ hs2) (fun i' s₃ ⟨m3, nw3, hs3, a3, b3, c3⟩ => by
        subst a3; subst b3; subst c3
        exact wpAny_mono (k os fx s₃ hs3) (fun _ s₄ ⟨m4, nw4, hs4, h⟩ => ⟨m4, nw4, hs4, h⟩) fun _ _ x => x) fun _ _ x => x) fun _ _ x => x) fun _ _ x => x) hs
theorem tv_is {e : Expr} {x : Bool} (h : Ev prog w A h₀ L env m nw e (· = .bool x))
    (he : isTrue e env (eval e env) = (do let v ← eval e env; standAt e.pos; holding [v] (truthy v)) := by rfl) : Tv prog w A h₀ L env m nw e (· = x) :=
  tv_val (h.mono fun v m' nw' ⟨a, b⟩ => ⟨x, a, rfl, b⟩) he
/-- a method of a known thing -/
theorem ev_methK {oe : Expr} {name : Str} {apos pos : Pos} {args : List Expr} {pl : Sem Bool} {ov f : Value} {first : List Value} {Q : Value → Loc → Led → Prop} (ho : Ev prog w A h₀ L env m nw oe (· = ov))
    (hm : Run prog w A h₀ L m nw (getMethod ov name pl) (fun fx m' nw' => fx = (f, first) ∧ m' = m ∧ nw' = nw))
    (k : Run prog w A h₀ L m nw (callWith pos f first (backTo pos (starEach args env)) []) Q)
    (he : eval (.Call (.Attribute oe name apos) args [] pos) env = (do
      let ov ← eval oe env
      standAt apos.atName
      let (f, first) ← holding [ov] (getMethod ov name pl)
      callWith pos f first (backTo pos (starEach args env)) (backToKw pos (keywordEach [] env))) := by rfl) :
    Ex prog w A h₀ L env m nw (.Call (.Attribute oe name apos) args [] pos) Q :=
  ev_methN (V := (· = ov)) (W := (· = (f, first))) ho (fun ov e => by subst e; exact hm) (fun fx e => by subst e; exact k) he
theorem t_setitem (hC : IsNC C) (N : NodeAt nw x C d e par pa root) (hm : (d, o) ∈ nw) (hd : KDict prog w o kvs) (hk : vkey key = some k) (hz : kvs.length < 1000) :
    Fn prog w (KH w.params) mg mb 1 (.ref 308) [.ref x, key, v] nw (fun _ nw' => ∃ o', KDict prog w o' (stored kvs k v) ∧ nw' = setL nw d o') := by
  refine Fn.intro (d := 0) (binds := [("self", .ref x), ("key", key), ("value", v)]) (by with_unfolding_all exact rfl) (by kernel_rfl) (fun s => BindsTo.of_eq rfl) (locs rfl) (by decide) rfl rfl rfl ?_
  intro r A h₀ L hr M
  exact sv_setitem (ex_local rfl rfl rfl rfl) (ev_at (ex_local rfl rfl rfl rfl) (nd_desc M hC N)) (ex_local rfl rfl rfl rfl) (run_dict_set hm hd hk hz fun o' hd' => sx_nil ⟨o', hd', rfl⟩)
theorem rv_not_def {k : Key} (M : Fm (KH w.params) mg mb r A h₀ L) (hk : vkey key = some k) : Rv prog w A h₀ L m nw (call (.builtin "isinstance") [key, .ref 53]) (· = .bool false) := fun os fx s hs => by
  obtain ⟨t, rfl⟩ := vkey_of hk
  rcases Key.shape k t with ⟨y, e, _⟩ | ⟨_, e⟩
  · rw [e]; exact isn_call (T := "str") (P := fun _ => True) (hs.inK M) (fun M => Looks.of_pure rfl) kf_not_str (by intro e; cases e) trivial str_cls ⟨m, nw, hs.toks, rfl, rfl, rfl⟩
  · rw [e]; exact isn_call (T := "int") (P := fun _ => True) (hs.inK M) (fun M => Looks.of_pure rfl) kf_not_int (by intro e; cases e) trivial int_cls ⟨m, nw, hs.toks, rfl, rfl, rfl⟩
theorem rv_is_def {a : Addr} {c : Int} {rl : Option Str} (M : Fm (KH w.params) mg mb r A h₀ L) (D : DefAt (KH w.params) a c rl) : Rv prog w A h₀ L m nw (call (.builtin "isinstance") [.ref a, .ref 53]) (· = .bool true) := fun os fx s hs => by
  obtain ⟨ox, es, n, t, I, _⟩ := D.at_
  have Ia := (I nw)
  obtain ⟨dx, e, h⟩ := Ia.at_
  have hk : (KH w.params).lookup a = some ox := by
    have I0 := (I [])
    obtain ⟨dx, e, h⟩ := I0.at_
    rcases h with ⟨h, _⟩ | ⟨h, _⟩
    · cases h
    · exact h
  have X := hs.inK M
  exact isi_call (t := .ref 53) X (fun M' => Looks.ld (X _ _ hk) |>.andThen (by rw [Ia.cls]; exact .now)) kf_is_def (by intro e; cases e) ⟨m, nw, hs, rfl, rfl, rfl⟩
theorem t_getitem (hC : IsNC C) (N : NodeAt nw x C d e par pa root) (hm : (d, o) ∈ nw) (hd : KDict prog w o kvs) (lo : (d == sysModules) = false) (hk : vkey key = some k) :
    Fp prog w (KH w.params) mg mb 1 (.ref 294) [.ref x, key] nw (· = (valueAt kvs k).getD .none) := by
  refine Fn.intro (d := 0) (binds := [("self", .ref x), ("item", key)]) (by with_unfolding_all exact rfl) (by kernel_rfl) (fun s => BindsTo.of_eq rfl) (locs rfl) (by decide) rfl rfl rfl ?_
  intro r A h₀ L hr M
  refine sv_if (B := (· = false)) (tv_is (ev_call2 (V := (· = key)) (V' := (· = .ref 53)) (ex_builtin M rfl rfl rfl rfl kb_isinstance rfl (by decide)) (ex_local rfl rfl rfl rfl) (ex_global M rfl rfl rfl kg_ErrorDefinition) fun v v' hv hv' => by subst hv; subst hv'; exact rv_not_def M hk)) (fun h => absurd h (by decide)) (fun _ => ?_)
  exact sv_ret (V := (· = (valueAt kvs k).getD .none)) (ev_methK (ev_at (ex_local rfl rfl rfl rfl) (nd_desc M hC N)) (dict_get_method hm hd ⟨rfl, rfl, rfl⟩)
    (cw_builtin (arg1 (V := (· = key)) (ex_local rfl rfl rfl rfl)) (fun vs m' nw' ⟨v, a, e, e1, e2⟩ => by subst a; subst e; subst e1; subst e2; exact rv_dict_get hm hd lo hk))) fun v hv => ⟨hv, Kp.refl⟩
theorem t_len (hC : IsNC C) (N : NodeAt nw x C d e par pa root) (he : (e, elObj de items n) ∈ nw) (hz : items.length < 1000) :
    Fp prog w (KH w.params) mg mb 1 (.ref 301) [.ref x] nw (VI items.length) := by
  refine Fn.intro (d := 0) (binds := [("self", .ref x)]) (by with_unfolding_all exact rfl) (by kernel_rfl) (fun s => BindsTo.of_eq rfl) (locs rfl) (by decide) rfl rfl rfl ?_
  intro r A h₀ L hr M
  exact sv_ret (V := VI items.length) (ev_call1 (V := (· = .ref e)) (ex_builtin M rfl rfl rfl rfl kb_len rfl (by decide)) (ev_at (ex_local rfl rfl rfl rfl) (nd_errs M hC N)) fun v hv => by subst hv; exact run_el_len M he hz fun t => ⟨⟨t, rfl⟩, rfl, rfl⟩) fun v hv => ⟨hv, Kp.refl⟩
end
end Mine

-- TN4
open PySem PySem.W PySem.Calls PyProof.Rows
set_option maxRecDepth 100000
set_option linter.unusedVariables false
namespace Mine
structure Fa where
  x : Addr
  doc : List Key
  sch : List Key
  code : Nat
  info : Addr
abbrev FaOk (nw : Led) (f : Fa) : Prop := VeAt nw f.x f.doc f.sch f.code f.info
abbrev refs (fs : List Fa) : List Value := fs.map fun f => .ref f.x
abbrev Fa.path (dk : Bool) (f : Fa) : List Key := pathD dk f.doc f.sch
theorem faults_of {nw : Led} {fs : List Fa} (h : ∀ f ∈ fs, FaOk nw f) : Faults nw (refs fs) := by
  intro v hv
  obtain ⟨f, hf, rfl⟩ := List.mem_map.mp hv
  exact ⟨_, _, _, _, _, rfl, h f hf⟩
def firstOf (fs : List Fa) (c : Nat) : Value := match fs.find? (fun f => f.code == c) with | some f => .ref f.x | none => .none
theorem firstOf_none {fs : List Fa} {c : Nat} (h : ∀ (j : Nat) (f : Fa), fs[j]? = some f → f.code ≠ c) : firstOf fs c = .none := by
  unfold firstOf
  rw [List.find?_eq_none.mpr]
  intro f hf
  obtain ⟨j, hj⟩ := List.getElem?_of_mem hf
  simpa using h j f hj
theorem firstOf_at {fs : List Fa} {c : Nat} {i : Nat} {f : Fa} (hf : fs[i]? = some f) (hc : f.code = c) (h : ∀ (j : Nat) (f : Fa), j < i → fs[j]? = some f → f.code ≠ c) : firstOf fs c = .ref f.x := by
  unfold firstOf
  obtain ⟨hi, e⟩ := List.getElem?_eq_some_iff.mp hf
  have : fs.find? (fun f => f.code == c) = some f := by
    rw [List.find?_eq_some_iff_getElem]
    refine ⟨by simpa using hc, i, hi, e, ?_⟩
    intro j hj
    have := h j fs[j] hj (List.getElem?_eq_getElem _)
    simpa using this
  rw [this]
section
variable {prog : Program} {w : World} {A : Around} {h₀ : Heap} {L : Addr} {m : Loc} {nw : Led} {mg mb : Loc} {r : Nat} {env : Env} {K : Frag} {x C d e pa root de : Addr} {par : Value} {b : Bool} {o : Obj} {kvs : List (Key × Value)} {k : Key} {key v : Value} {fs : List Fa} {n : Nat}
theorem t_getdef {a : Addr} {c : Nat} {rl : Option Str} (hC : IsNC C) (N : NodeAt nw x C d e par pa root) (he : (e, elObj de (refs fs) n) ∈ nw) (hf : ∀ f ∈ fs, FaOk nw f) (D : DefAt (KH w.params) a c rl) :
    Fp prog w (KH w.params) mg mb 1 (.ref 294) [.ref x, .ref a] nw (· = firstOf fs c) := by
  refine Fn.intro (d := 0) (binds := [("self", .ref x), ("item", .ref a)]) (by with_unfolding_all exact rfl) (by kernel_rfl) (fun s => BindsTo.of_eq rfl) (locs rfl) (by decide) rfl rfl rfl ?_
  intro r A h₀ L hr M
  refine sv_if (B := (· = true)) (tv_is (ev_call2 (V := (· = .ref a)) (V' := (· = .ref 53)) (ex_builtin M rfl rfl rfl rfl kb_isinstance rfl (by decide)) (ex_local rfl rfl rfl rfl) (ex_global M rfl rfl rfl kg_ErrorDefinition) fun v v' hv hv' => by subst hv; subst hv'; exact rv_is_def M D)) (fun _ => ?_) (fun h => absurd h (by decide))
  refine sx_forE (de := de) (e := e) (refs fs) n (fun i m' nw' => Kp [] nw nw' ∧ m' "item" = some (.ref a) ∧ m' "self" = some (.ref x) ∧ ∀ (j : Nat) (f : Fa), j < i → fs[j]? = some f → f.code ≠ c) (fun _ _ => False) M rfl rfl rfl (ev_at (ex_local rfl rfl rfl rfl) (nd_errs M hC N)) ?_ (fun i m' nw' h => h.1.get he) ?_ (fun _ _ h => h.elim) ?_
  · rintro v m' nw' ⟨rfl, rfl, rfl⟩
    exact ⟨rfl, he, Kp.refl, rfl, rfl, fun j f hj => absurd hj (Nat.not_lt_zero _)⟩
  · rintro i u m₁ nw₁ hu ⟨kk, mi, ms, hJ⟩
    rw [List.getElem?_map] at hu
    cases hfi : fs[i]? with
    | none => rw [hfi] at hu; cases hu
    | some f =>
      rw [hfi] at hu
      obtain rfl : Value.ref f.x = u := Option.some.inj hu
      have V : FaOk nw₁ f := (hf f (List.mem_of_getElem? hfi)).keep0 kk
      refine sv_if (B := fun b => b = decide (f.code = c)) (tv_cmp (V := VI c) (V' := VI f.code) (ev_at (ex_local rfl rfl rfl mi) (def_code M D)) (ev_at (ex_local rfl rfl rfl rfl) (ve_code M V)) fun a b ⟨t, e⟩ ⟨t', e'⟩ => by subst e; subst e'; exact run_eq_int ⟨_, rfl, by
        by_cases h : f.code = c
        · rw [h]; simp
        · rw [decide_eq_false h]; exact beq_eq_false_iff_ne.mpr (by omega), rfl, rfl⟩) (fun hb => ?_) (fun hb => ?_)
      · have hc : f.code = c := by simpa using hb.symm
        exact sv_ret (V := (· = .ref f.x)) (ex_local rfl rfl rfl rfl) fun v hv => ⟨by rw [hv]; exact (firstOf_at hfi hc hJ).symm, kk⟩
      · have hc : f.code ≠ c := by simpa using hb.symm
        refine sx_nil (sx_nil ⟨kk, mi, ms, fun j g hj hg => ?_⟩)
        rcases Nat.lt_succ_iff_lt_or_eq.mp hj with h | h
        · exact hJ j g h hg
        · subst h; rw [hfi] at hg; cases hg; exact hc
  · rintro m' nw' ⟨kk, mi, ms, hJ⟩
    refine sv_ret ex_none fun v hv => ⟨?_, kk⟩
    rw [hv, firstOf_none fun j f hj => hJ j f (by
      have := (List.getElem?_eq_some_iff.mp hj).1
      simpa using this) hj]
end
end Mine

-- TN5
open PySem PySem.W PySem.Calls PyProof.Rows
set_option maxRecDepth 100000
set_option linter.unusedVariables false
namespace Mine
theorem kf_makes_342 {P : Params} : makesIn (KH P) 342 = true := by kernel_rfl
theorem kf_makes_240 {P : Params} : makesIn (KH P) 240 = true := by kernel_rfl
theorem kf_init_342 {P : Params} : findIn (KH P) (.ref 342) "__init__" = some (some (.ref 280)) := by kernel_rfl
theorem kf_init_240 {P : Params} : findIn (KH P) (.ref 240) "__init__" = some (some (.ref 182)) := by kernel_rfl
section
variable {prog : Program} {w : World} {A : Around} {h₀ : Heap} {L : Addr} {m : Loc} {nw : Led} {mg mb : Loc} {r : Nat} {env : Env} {K : Frag} {α : Type}
def keys (nw : Led) : List Addr := nw.map (·.1)
theorem keys_mem {nw : Led} {a : Addr} {o : Obj} (h : (a, o) ∈ nw) : a ∈ keys nw := List.mem_map_of_mem (f := (·.1)) h
theorem keys_setL (nw : Led) (d : Addr) (o : Obj) : keys (setL nw d o) = keys nw := setL_keys nw d o
/-- the keys stand, and all entries but those at W -/
def Kq (W : List Addr) (nw nw' : Led) : Prop := Kp W nw nw' ∧ ∀ a ∈ keys nw, a ∈ keys nw'
theorem Kq.refl {W nw} : Kq W nw nw := ⟨Kp.refl, fun _ h => h⟩
theorem Kq.trans {W nw nw' nw''} (h : Kq W nw nw') (h' : Kq W nw' nw'') : Kq W nw nw'' := ⟨h.1.trans h'.1, fun a q => h'.2 a (h.2 a q)⟩
theorem Kq.cons {W nw p} : Kq W nw (p :: nw) := ⟨Kp.cons, fun _ h => .tail _ h⟩
theorem Kq.set {nw d o} : Kq [d] nw (setL nw d o) := ⟨fun p hp hW => mem_setL_ne hp fun q => hW (by rw [q]; exact .head _), fun a h => by rw [keys_setL]; exact h⟩
theorem Kq.of {nw nw'} (k : Kp [] nw nw') : Kq [] nw nw' := ⟨k, fun a h => by
  obtain ⟨p, hp, e⟩ := List.mem_map.mp h
  exact e ▸ keys_mem (k.get hp)⟩
theorem Kq.sub {W W' nw nw'} (h : Kq W nw nw') (hs : ∀ a ∈ W, a ∈ W') : Kq W' nw nw' := ⟨h.1.sub hs, h.2⟩
theorem Kq.nil {W nw nw'} (h : Kq [] nw nw') : Kq W nw nw' := h.sub fun _ q => nomatch q
theorem Run.nod {t : Sem α} {P : α → Loc → Led → Prop} (h : Run prog w A h₀ L m nw t P) : Run prog w A h₀ L m nw t (fun a m' nw' => P a m' nw' ∧ (keys nw').Nodup) := fun os fx s hs =>
  wpAny_mono (h os fx s hs) (fun a s' ⟨m', nw', x, y⟩ => ⟨m', nw', x, y, by have := x.D; rw [List.map_append] at this; exact (List.nodup_append.mp this).1⟩) fun _ _ x => x
/-- a front part of a path: the path itself, or a new one -/
theorem ev_front2 {value : Expr} {x : Addr} {xs : List Value} {n k : Nat} {ex : Expr} {p pos : Pos} (hv : Ev prog w A h₀ L env m nw value (· = .ref x)) (hx : (x, tupO xs n) ∈ nw) (hk : Ev prog w A h₀ L env m nw ex (fun v => ∃ t, v = .int k t)) (hle : k ≤ xs.length) (hz : xs.length < 100)
    (hs : ∀ sl, subscripted (.Slice none (some ex) none p) false (.ref x) (.ref sl) = operate [.ref sl, .ref x] (getItem (.ref x) (.ref sl)) := by intro _; with_unfolding_all rfl) :
    Ex prog w A h₀ L env m nw (.Subscript value (.Slice none (some ex) none p) pos) (fun v m' nw' => m' = m ∧ Kp [] nw nw' ∧ ∃ b n', v = .ref b ∧ (b, tupO (xs.take k) n') ∈ nw' ∧ ((b = x ∧ k = xs.length) ∨ b ∉ keys nw)) :=
  ex_sub (P2 := fun o i m' nw' => o = .ref x ∧ m' = m ∧ ∃ sl t, i = .ref sl ∧ nw' = (sl, sliceO .none (.int k t) .none) :: nw) hv
    (fun o m' nw' ⟨a, b, c⟩ => by subst b; subst c; exact ex_slice_to hk fun v m'' nw'' sl ⟨⟨t, e⟩, b, c⟩ => by subst b; subst c; subst e; exact ⟨a, rfl, sl, t, rfl, rfl⟩)
    (fun o i m' nw' ⟨a, b, sl, t, c, d⟩ => by
      subst a; subst b; subst c; subst d
      refine Run.mono (Run.nod (run_slice_to (Q := fun v m' nw' => m' = m' ∧ ((v = .ref x ∧ k = xs.length ∧ m' = _ ∧ nw' = (sl, sliceO .none (.int k t) .none) :: nw) ∨ ∃ b, v = .ref b ∧ m' = _ ∧ nw' = (b, tupO (xs.take k) 0) :: (sl, sliceO .none (.int k t) .none) :: nw)) (.tail _ hx) (.head _) hle (by omega) (fun e => ⟨rfl, .inl ⟨rfl, e, rfl, rfl⟩⟩) (fun hlt b => ⟨rfl, .inr ⟨b, rfl, rfl, rfl⟩⟩) (hs sl))) ?_
      rintro v m'' nw'' ⟨⟨-, h⟩, hn⟩
      rcases h with ⟨rfl, e, rfl, rfl⟩ | ⟨b, rfl, rfl, rfl⟩
      · exact ⟨rfl, Kp.cons, x, n, rfl, by rw [e, List.take_length]; exact .tail _ hx, .inl ⟨rfl, e⟩⟩
      · refine ⟨rfl, Kp.cons.trans Kp.cons, b, 0, rfl, .head _, .inr fun hb => ?_⟩
        unfold keys at hn
        rw [List.map_cons, List.nodup_cons] at hn
        exact hn.1 (.tail _ hb))
theorem t_node_init {x dx pth P CP dP eP paP root : Addr} {parP : Value} {pp q : List Key} (hxd : x ≠ dx) (hx : (x, instObj 342 dx) ∈ nw) (hdx : (dx, dictOf [] 0) ∈ nw) (hxP : P ≠ x) (hCP : IsNC CP) (NP : NodeAt nw P CP dP eP parP paP root)
    (hpp : PathAt nw paP pp) (hq : PathAt nw pth q) (hle : pp.length + 1 ≤ q.length) (hz : q.length < 100) :
    Fn prog w (KH w.params) mg mb 3 (.ref 280) [.ref x, .ref pth, .ref P] nw (fun v nw' => v = .none ∧ Kq [x] nw nw' ∧ ∃ d e de pa n, ((x, nodeO 342 dx d e (.ref P) pa root) ∈ nw' ∧ (dx, dictOf [] 0) ∈ nw') ∧ PathAt nw' pa (q.take (pp.length + 1)) ∧ ((pa = pth ∧ pp.length + 1 = q.length) ∨ pa ∉ keys nw) ∧ pa ≠ d ∧ pa ≠ e ∧
      (d, dictOf [] 0) ∈ nw' ∧ (d == sysModules) = false ∧ (e, elObj de [] n) ∈ nw' ∧ (de, dictOf [] 0) ∈ nw' ∧ d ∉ keys nw ∧ e ∉ keys nw ∧ de ∉ keys nw ∧ d ≠ e ∧ d ≠ de ∧ e ≠ de) := by
  refine Fn.intro (d := 2) (binds := [("self", .ref x), ("path", .ref pth), ("parent_node", .ref P)]) (by with_unfolding_all exact rfl) (by kernel_rfl) (fun s => BindsTo.of_eq rfl) (locs rfl) (by decide) rfl rfl rfl ?_
  intro r A h₀ L hr M
  refine Run.nodup fun hn => ?_
  obtain ⟨dP', NP1, NP2⟩ := NP
  obtain ⟨ps, np, pp1, pp2⟩ := hpp
  obtain ⟨qs, nq, hq1, hq2⟩ := hq
  have ne1 : dP' ≠ x := fun e => by subst e; have := mem_uniq hn hx NP2; cases this
  have ne2 : paP ≠ x := fun e => by subst e; have := mem_uniq hn hx pp1; cases this
  have ne3 : pth ≠ x := fun e => by subst e; have := mem_uniq hn hx hq1; cases this
  have lq := hq2.length
  have lp := pp2.length
  have hk : pp.length + 1 ≤ qs.length := by omega
  -- self.parent_node
  refine sv_attr (ex_local rfl rfl rfl rfl) (ex_local rfl rfl rfl rfl) (run_set_slot M hx ⟨rfl, rfl, dx, rfl, .inl ⟨hx, hdx⟩⟩ kf_set_parent_node_342 (ox' := { cls := .ref 342, dict := some dx, data := .plain, slots := #[none, none, some (.ref P)] }) rfl rfl ?_)
  have k1 : Kq [x] nw (setL nw x { cls := .ref 342, dict := some dx, data := .plain, slots := #[none, none, some (.ref P)] }) := Kq.set
  have hx1 := mem_setL_self (o' := { cls := .ref 342, dict := some dx, data := .plain, slots := #[none, none, some (.ref P)] }) hx
  generalize setL nw x { cls := .ref 342, dict := some dx, data := .plain, slots := #[none, none, some (.ref P)] } = nw1 at k1 hx1 ⊢
  have one : ∀ {p : Addr × Obj} {nw' : Led}, p ∈ nw → p.1 ≠ x → Kq [x] nw nw' → p ∈ nw' := fun hp hne k => k.1 _ hp fun hm => hne (List.mem_singleton.mp hm)
  -- self.tree_root
  refine sv_attr (v := .ref root) (ev_at (ev_at (ex_local rfl rfl rfl rfl) (Run.mono (run_slot (v := .ref P) (Q := Is (· = .ref P) _ nw1) M ⟨rfl, rfl, dx, rfl, .inl ⟨hx1, one hdx (Ne.symm hxd) k1⟩⟩ kf_slot_parent_node_342 rfl rfl ⟨rfl, rfl, rfl⟩) fun _ _ _ h => h)) (nd_root M hCP ⟨dP', one NP1 hxP k1, one NP2 ne1 k1⟩)) (ex_local rfl rfl rfl rfl) (run_set_slot M hx1 ⟨rfl, rfl, dx, rfl, .inl ⟨hx1, one hdx (Ne.symm hxd) k1⟩⟩ kf_set_tree_root_342 (ox' := { cls := .ref 342, dict := some dx, data := .plain, slots := #[none, none, some (.ref P), none, some (.ref root)] }) rfl rfl ?_)
  have k2 := k1.trans (Kq.set (o := { cls := .ref 342, dict := some dx, data := .plain, slots := #[none, none, some (.ref P), none, some (.ref root)] }))
  have hx2 := mem_setL_self (o' := { cls := .ref 342, dict := some dx, data := .plain, slots := #[none, none, some (.ref P), none, some (.ref root)] }) hx1
  generalize setL nw1 x { cls := .ref 342, dict := some dx, data := .plain, slots := #[none, none, some (.ref P), none, some (.ref root)] } = nw2 at k2 hx2 ⊢
  -- self.path
  refine sx_attr (P := fun v m' nw' => m' = _ ∧ Kp [] nw2 nw' ∧ ∃ b n', v = .ref b ∧ (b, tupO (qs.take (pp.length + 1)) n') ∈ nw' ∧ ((b = pth ∧ pp.length + 1 = qs.length) ∨ b ∉ keys nw2))
    (P2 := fun v o m' nw' => o = .ref x ∧ m' = _ ∧ Kp [] nw2 nw' ∧ ∃ b n', v = .ref b ∧ (b, tupO (qs.take (pp.length + 1)) n') ∈ nw' ∧ ((b = pth ∧ pp.length + 1 = qs.length) ∨ b ∉ keys nw2))
    (ev_front2 (ex_local rfl rfl rfl rfl) (one hq1 ne3 k2) (ev_binop (V := VI pp.length) (V' := VI 1) (ev_at (ev_at (ex_local rfl rfl rfl rfl) (Run.mono (run_slot (v := .ref P) (Q := Is (· = .ref P) _ nw2) M ⟨rfl, rfl, dx, rfl, .inl ⟨hx2, one hdx (Ne.symm hxd) k2⟩⟩ kf_slot_parent_node_342 rfl rfl ⟨rfl, rfl, rfl⟩) fun _ _ _ h => h))
      (nd_depth M hr hCP ⟨dP', one NP1 hxP k2, one NP2 ne1 k2⟩ ⟨ps, np, one pp1 ne2 k2, pp2⟩ (by omega))) ex_int fun a b ⟨t, e⟩ ⟨t', e'⟩ => by subst e; subst e'; exact rv_add) hk (by omega))
    (fun v m' nw' ⟨e, h⟩ => by subst e; exact Run.mono (ex_local (v := .ref x) rfl rfl rfl rfl) fun o m'' nw'' ⟨e1, e2, e3⟩ => by subst e2; subst e3; exact ⟨e1, rfl, h⟩) ?_
  rintro v ov m' nw3 ⟨rfl, rfl, k3, pa, npa, rfl, hpa, hpa2⟩
  have kx2 : x ∈ keys nw2 := keys_mem hx2
  have npx : pa ≠ x := fun e => hpa2.elim (fun h => ne3 (h.1 ▸ e)) fun h => h (e ▸ kx2)
  have k3' := k2.trans (Kq.of k3).nil
  have hx3 := k3.get hx2
  have fr : ∀ {a : Addr} {n1 : Led}, Kq [x] nw n1 → a ∉ keys n1 → a ∉ keys nw := fun k h q => h (k.2 _ q)
  refine run_set_slot M hx3 ⟨rfl, rfl, dx, rfl, .inl ⟨hx3, one hdx (Ne.symm hxd) k3'⟩⟩ kf_set_path_342 (ox' := { cls := .ref 342, dict := some dx, data := .plain, slots := #[none, none, some (.ref P), some (.ref pa), some (.ref root)] }) rfl rfl ?_
  have k4 := k3'.trans (Kq.set (o := { cls := .ref 342, dict := some dx, data := .plain, slots := #[none, none, some (.ref P), some (.ref pa), some (.ref root)] }))
  have hx4 := mem_setL_self (o' := { cls := .ref 342, dict := some dx, data := .plain, slots := #[none, none, some (.ref P), some (.ref pa), some (.ref root)] }) hx3
  have hpa4 : (pa, tupO (List.take (pp.length + 1) qs) npa) ∈ setL nw3 x { cls := .ref 342, dict := some dx, data := .plain, slots := #[none, none, some (.ref P), some (.ref pa), some (.ref root)] } := mem_setL_ne hpa npx
  generalize setL nw3 x { cls := .ref 342, dict := some dx, data := .plain, slots := #[none, none, some (.ref P), some (.ref pa), some (.ref root)] } = nw4 at k4 hx4 hpa4 ⊢
  -- self.errors
  refine sx_attr (P := fun v m' nw' => m' = _ ∧ ∃ e de n, v = .ref e ∧ e ∉ keys nw4 ∧ de ∉ keys nw4 ∧ e ≠ de ∧ nw' = (e, elObj de [] n) :: (de, dictOf [] 0) :: nw4)
    (P2 := fun v o m' nw' => o = .ref x ∧ m' = _ ∧ ∃ e de n, v = .ref e ∧ e ∉ keys nw4 ∧ de ∉ keys nw4 ∧ e ≠ de ∧ nw' = (e, elObj de [] n) :: (de, dictOf [] 0) :: nw4)
    (ex_callK0 M (ex_global M rfl rfl rfl kg_ErrorList) kk_ErrorList (run_EL0 M fun e de n h1 h2 h3 => ⟨rfl, e, de, n, rfl, h1, h2, h3, rfl⟩))
    (fun v m' nw' ⟨e, h⟩ => by subst e; exact Run.mono (ex_local (v := .ref x) rfl rfl rfl rfl) fun o m'' nw'' ⟨e1, e2, e3⟩ => by subst e2; subst e3; exact ⟨e1, rfl, h⟩) ?_
  rintro v ov m' nw5 ⟨rfl, rfl, e, de, ne, rfl, fe, fde, eed, rfl⟩
  have kx4 : x ∈ keys nw4 := keys_mem hx4
  have nex : e ≠ x := fun q => fe (q ▸ kx4)
  have ndex : de ≠ x := fun q => fde (q ▸ kx4)
  have k5 : Kq [x] nw ((e, elObj de [] ne) :: (de, dictOf [] 0) :: nw4) := (k4.trans Kq.cons).trans Kq.cons
  refine run_set_slot M (.tail _ (.tail _ hx4)) ⟨rfl, rfl, dx, rfl, .inl ⟨.tail _ (.tail _ hx4), one hdx (Ne.symm hxd) k5⟩⟩ kf_set_errors_342 (ox' := { cls := .ref 342, dict := some dx, data := .plain, slots := #[none, some (.ref e), some (.ref P), some (.ref pa), some (.ref root)] }) rfl rfl ?_
  have k6 := k5.trans (Kq.set (o := { cls := .ref 342, dict := some dx, data := .plain, slots := #[none, some (.ref e), some (.ref P), some (.ref pa), some (.ref root)] }))
  have hx6 := mem_setL_self (nw := (e, elObj de [] ne) :: (de, dictOf [] 0) :: nw4) (o' := { cls := .ref 342, dict := some dx, data := .plain, slots := #[none, some (.ref e), some (.ref P), some (.ref pa), some (.ref root)] }) (.tail _ (.tail _ hx4))
  have hpa6 := mem_setL_ne (o' := { cls := .ref 342, dict := some dx, data := .plain, slots := #[none, some (.ref e), some (.ref P), some (.ref pa), some (.ref root)] }) (.tail (e, elObj de [] ne) (.tail (de, dictOf [] 0) hpa4)) npx
  have he6 := mem_setL_ne (nw := (e, elObj de [] ne) :: (de, dictOf [] 0) :: nw4) (o' := { cls := .ref 342, dict := some dx, data := .plain, slots := #[none, some (.ref e), some (.ref P), some (.ref pa), some (.ref root)] }) (.head _) nex
  have hde6 := mem_setL_ne (nw := (e, elObj de [] ne) :: (de, dictOf [] 0) :: nw4) (o' := { cls := .ref 342, dict := some dx, data := .plain, slots := #[none, some (.ref e), some (.ref P), some (.ref pa), some (.ref root)] }) (.tail _ (.head _)) ndex
  generalize setL ((e, elObj de [] ne) :: (de, dictOf [] 0) :: nw4) x { cls := .ref 342, dict := some dx, data := .plain, slots := #[none, some (.ref e), some (.ref P), some (.ref pa), some (.ref root)] } = nw6 at k6 hx6 hpa6 he6 hde6 ⊢
  -- self.descendants
  refine sx_attr (P := fun v m' nw' => m' = _ ∧ ∃ d, v = .ref d ∧ (d == sysModules) = false ∧ d ∉ keys nw6 ∧ nw' = (d, dictOf [] 0) :: nw6)
    (P2 := fun v o m' nw' => o = .ref x ∧ m' = _ ∧ ∃ d, v = .ref d ∧ (d == sysModules) = false ∧ d ∉ keys nw6 ∧ nw' = (d, dictOf [] 0) :: nw6)
    (ex_dict0 M fun d h1 h2 => ⟨rfl, d, rfl, h1, h2, rfl⟩)
    (fun v m' nw' ⟨e, h⟩ => by subst e; exact Run.mono (ex_local (v := .ref x) rfl rfl rfl rfl) fun o m'' nw'' ⟨e1, e2, e3⟩ => by subst e2; subst e3; exact ⟨e1, rfl, h⟩) ?_
  rintro v ov m' nw7 ⟨rfl, rfl, d, rfl, hds, fd, rfl⟩
  have ndx : d ≠ x := fun q => fd (q ▸ keys_mem hx6)
  have k7 : Kq [x] nw ((d, dictOf [] 0) :: nw6) := k6.trans Kq.cons
  refine run_set_slot M (.tail _ hx6) ⟨rfl, rfl, dx, rfl, .inl ⟨.tail _ hx6, one hdx (Ne.symm hxd) k7⟩⟩ kf_set_descendants_342 (ox' := nodeO 342 dx d e (.ref P) pa root) rfl rfl ?_
  have k8 := k7.trans (Kq.set (o := nodeO 342 dx d e (.ref P) pa root))
  have hx8 := mem_setL_self (nw := (d, dictOf [] 0) :: nw6) (o' := nodeO 342 dx d e (.ref P) pa root) (.tail _ hx6)
  have hpa8 := mem_setL_ne (o' := nodeO 342 dx d e (.ref P) pa root) (.tail (d, dictOf [] 0) hpa6) npx
  have he8 := mem_setL_ne (o' := nodeO 342 dx d e (.ref P) pa root) (.tail (d, dictOf [] 0) he6) nex
  have hde8 := mem_setL_ne (o' := nodeO 342 dx d e (.ref P) pa root) (.tail (d, dictOf [] 0) hde6) ndex
  have hd8 := mem_setL_ne (nw := (d, dictOf [] 0) :: nw6) (o' := nodeO 342 dx d e (.ref P) pa root) (.head _) ndx
  refine sx_nil ⟨rfl, k8, d, e, de, pa, ne, ⟨hx8, one hdx (Ne.symm hxd) k8⟩, ⟨_, npa, hpa8, hq2.take _⟩, hpa2.imp (fun z => ⟨z.1, by omega⟩) (fr k2), (fun q => fd (q ▸ keys_mem hpa6)), (fun q => fe (q ▸ keys_mem hpa4)), hd8, hds, he8, hde8, fr k6 fd, fr k4 fe, fr k4 fde, fun q => fd (q ▸ keys_mem he6), fun q => fd (q ▸ keys_mem hde6), eed⟩
end
end Mine

-- TR1
open PySem PySem.W PySem.Calls PyProof.Rows
set_option maxRecDepth 100000
set_option linter.unusedVariables false
namespace Mine
structure Nd where
  x : Addr
  d : Addr
  e : Addr
  de : Addr
  pa : Addr
  C : Addr
  par : Value
  p : List Key
  od : Obj
  kvs : List (Key × Value)
  fs : List Fa
  n : Nat
def Nd.led (nd : Nd) : Led := [(nd.d, nd.od), (nd.e, elObj nd.de (refs nd.fs) nd.n)]
def tled (T : List Nd) : Led := T.flatMap Nd.led
structure NdOk (prog : Program) (w : World) (rest : Led) (dk : Bool) (root : Addr) (nd : Nd) : Prop where
  node : NodeAt rest nd.x nd.C nd.d nd.e nd.par nd.pa root
  path : PathAt rest nd.pa nd.p
  len : nd.p.length < 100
  de : (nd.de, dictOf [] 0) ∈ rest
  od : KDict prog w nd.od nd.kvs
  sys : (nd.d == sysModules) = false
  ty : TypeOk dk nd.C nd.x root
  fs : ∀ f ∈ nd.fs, FaOk rest f
structure Lay (nw rest : Led) (T : List Nd) : Prop where
  led : ∀ p ∈ tled T, p ∈ nw
  nod : (keys (tled T)).Nodup
  sub : ∀ p ∈ rest, p ∈ nw
  sep : ∀ p ∈ rest, p.1 ∉ keys (tled T)
structure Shape (dk : Bool) (root : Addr) (T : List Nd) (S : List Key → Prop) (G : List Fa) : Prop where
  nodup : (T.map Nd.p).Nodup
  rootIn : ∃ nd ∈ T, nd.p = [] ∧ nd.x = root ∧ nd.par = .none ∧ nd.C = rootC dk
  all : ∀ p, S p ↔ ∃ nd ∈ T, nd.p = p
  kids : ∀ nd ∈ T, ∀ k v, valueAt nd.kvs k = some v ↔ ∃ c ∈ T, c.p = nd.p ++ [k] ∧ v = .ref c.x
  pars : ∀ nd ∈ T, ∀ q k, nd.p = q ++ [k] → nd.C = 342 ∧ ∃ a ∈ T, a.p = q ∧ nd.par = .ref a.x
  errs : ∀ nd ∈ T, nd.fs.Perm (G.filter fun f => decide (f.path dk = nd.p))
  gin : ∀ f ∈ G, S (f.path dk)
structure Tr (prog : Program) (w : World) (nw rest : Led) (dk : Bool) (root : Addr) (T : List Nd) (S : List Key → Prop) (G : List Fa) : Prop where
  lay : Lay nw rest T
  ok : ∀ nd ∈ T, NdOk prog w rest dk root nd
  sh : Shape dk root T S G

theorem tled_app (l l' : List Nd) : tled (l ++ l') = tled l ++ tled l' := List.flatMap_append
theorem tled_cons (nd : Nd) (l : List Nd) : tled (nd :: l) = nd.led ++ tled l := rfl
theorem keys_app (l l' : Led) : keys (l ++ l') = keys l ++ keys l' := List.map_append
theorem mem_tled {nd : Nd} {T : List Nd} (h : nd ∈ T) : (nd.d, nd.od) ∈ tled T ∧ (nd.e, elObj nd.de (refs nd.fs) nd.n) ∈ tled T :=
  ⟨List.mem_flatMap.mpr ⟨nd, h, .head _⟩, List.mem_flatMap.mpr ⟨nd, h, .tail _ (.head _)⟩⟩
theorem NdOk.mono {prog w rest rest' dk root nd} (h : NdOk prog w rest dk root nd) (k : Kp [] rest rest') : NdOk prog w rest' dk root nd :=
  ⟨h.node.keep0 k, h.path.keep0 k, h.len, k.get h.de, h.od, h.sys, h.ty, fun f hf => (h.fs f hf).keep0 k⟩
theorem Lay.keep {nw nw' rest T} (h : Lay nw rest T) (k : Kp [] nw nw') : Lay nw' rest T := ⟨fun p hp => k.get (h.led p hp), h.nod, fun p hp => k.get (h.sub p hp), h.sep⟩
theorem Tr.keep {prog w nw nw' rest dk root T S G} (h : Tr prog w nw rest dk root T S G) (k : Kp [] nw nw') : Tr prog w nw' rest dk root T S G := ⟨h.lay.keep k, h.ok, h.sh⟩
theorem Lay.kp {nw rest T} (h : Lay nw rest T) : Kp [] rest nw := fun p hp _ => h.sub p hp
theorem Lay.replace {nw nw' rest l₁ l₂} {nd nd' : Nd} (h : Lay nw rest (l₁ ++ nd :: l₂)) (hd : nd'.d = nd.d) (he : nd'.e = nd.e) (k : Kp [nd.d, nd.e] nw nw') (hm : ∀ p ∈ nd'.led, p ∈ nw') : Lay nw' rest (l₁ ++ nd' :: l₂) := by
  have hk : keys (tled (l₁ ++ nd' :: l₂)) = keys (tled (l₁ ++ nd :: l₂)) := by
    simp only [tled_app, tled_cons, keys_app]
    congr 2
    show [nd'.d, nd'.e] = [nd.d, nd.e]
    rw [hd, he]
  have hn := h.nod
  simp only [tled_app, tled_cons, keys_app] at hn
  have ke : keys nd.led = [nd.d, nd.e] := rfl
  rw [ke] at hn
  obtain ⟨n1, n2, n3⟩ := List.nodup_append.mp hn
  obtain ⟨n4, n5, n6⟩ := List.nodup_append.mp n2
  refine ⟨fun p hp => ?_, by rw [hk]; exact h.nod, fun p hp => ?_, by rw [hk]; exact h.sep⟩
  · rw [tled_app, tled_cons] at hp
    rcases List.mem_append.mp hp with hp | hp
    · refine k p (h.led p (by rw [tled_app]; exact List.mem_append_left _ hp)) fun hW => ?_
      exact n3 p.1 (List.mem_map_of_mem (f := (·.1)) hp) p.1 (List.mem_append_left _ hW) rfl
    · rcases List.mem_append.mp hp with hp | hp
      · exact hm p hp
      · refine k p (h.led p (by rw [tled_app, tled_cons]; exact List.mem_append_right _ (List.mem_append_right _ hp))) fun hW => ?_
        exact n6 p.1 hW p.1 (List.mem_map_of_mem (f := (·.1)) hp) rfl
  · refine k p (h.sub p hp) fun hW => h.sep p hp ?_
    simp only [tled_app, tled_cons, keys_app]
    exact List.mem_append_right _ (List.mem_append_left _ hW)
theorem Lay.cons {nw rest T} {c : Nd} (h : Lay nw rest T) (h1 : c.d ∉ keys (tled T)) (h2 : c.e ∉ keys (tled T)) (h3 : c.d ≠ c.e) (h4 : ∀ p ∈ rest, p.1 ≠ c.d ∧ p.1 ≠ c.e) (hm : ∀ p ∈ c.led, p ∈ nw) : Lay nw rest (c :: T) := by
  have hk : keys (tled (c :: T)) = c.d :: c.e :: keys (tled T) := rfl
  refine ⟨fun p hp => ?_, ?_, h.sub, fun p hp => ?_⟩
  · rw [tled_cons] at hp
    exact (List.mem_append.mp hp).elim (hm p) (h.led p)
  · rw [hk, List.nodup_cons, List.nodup_cons]
    refine ⟨?_, h2, h.nod⟩
    rw [List.mem_cons]
    exact fun q => q.elim h3 h1
  · rw [hk, List.mem_cons, List.mem_cons]
    rintro (q | q | q)
    · exact (h4 p hp).1 q
    · exact (h4 p hp).2 q
    · exact h.sep p hp q
theorem Lay.rest {nw rest T} (h : Lay nw rest T) (l : Led) (hl : ∀ p ∈ l, p ∈ nw ∧ p.1 ∉ keys (tled T)) : Lay nw (l ++ rest) T :=
  ⟨h.led, h.nod, fun p hp => (List.mem_append.mp hp).elim (fun q => (hl p q).1) (h.sub p), fun p hp => (List.mem_append.mp hp).elim (fun q => (hl p q).2) (h.sep p)⟩
theorem Lay.keysIn {nw rest T} (h : Lay nw rest T) {a : Addr} (ha : a ∈ keys (tled T)) : a ∈ keys nw := by
  obtain ⟨p, hp, e⟩ := List.mem_map.mp ha
  exact e ▸ List.mem_map_of_mem (f := (·.1)) (h.led p hp)
theorem key_pigeon {l : List Key} (h : l.Nodup) : l.length ≤ 6 := by
  have hs : l ⊆ [Key.a, .b, .c, .d, .z, .y] := fun k _ => by cases k <;> simp
  have := h.length_le_of_subset hs
  simpa using this
theorem kdict_len {prog w o kvs} (h : KDict prog w o kvs) : kvs.length ≤ 6 := by
  obtain ⟨_, _, _, _, _, _, hn⟩ := h
  have := key_pigeon hn
  simpa using this
end Mine

-- TR2
open PySem PySem.W PySem.Calls PyProof.Rows
set_option maxRecDepth 100000
set_option linter.unusedVariables false
namespace Mine
theorem ex_same {l₁ l₂ : List Nd} {nd nd' : Nd} {φ : Nd → Prop} (h : φ nd ↔ φ nd') : (∃ c ∈ l₁ ++ nd :: l₂, φ c) ↔ ∃ c ∈ l₁ ++ nd' :: l₂, φ c := by
  constructor
  · rintro ⟨c, hc, hφ⟩
    rcases List.mem_append.mp hc with hc | hc
    · exact ⟨c, List.mem_append_left _ hc, hφ⟩
    · rcases List.mem_cons.mp hc with rfl | hc
      · exact ⟨nd', List.mem_append_right _ (.head _), h.mp hφ⟩
      · exact ⟨c, List.mem_append_right _ (.tail _ hc), hφ⟩
  · rintro ⟨c, hc, hφ⟩
    rcases List.mem_append.mp hc with hc | hc
    · exact ⟨c, List.mem_append_left _ hc, hφ⟩
    · rcases List.mem_cons.mp hc with rfl | hc
      · exact ⟨nd, List.mem_append_right _ (.head _), h.mpr hφ⟩
      · exact ⟨c, List.mem_append_right _ (.tail _ hc), hφ⟩
theorem all_same {l₁ l₂ : List Nd} {nd nd' : Nd} {φ : Nd → Prop} (h : ∀ c ∈ l₁ ++ nd :: l₂, φ c) (hn : φ nd → φ nd') : ∀ c ∈ l₁ ++ nd' :: l₂, φ c := by
  intro c hc
  rcases List.mem_append.mp hc with hc | hc
  · exact h c (List.mem_append_left _ hc)
  · rcases List.mem_cons.mp hc with rfl | hc
    · exact hn (h nd (List.mem_append_right _ (.head _)))
    · exact h c (List.mem_append_right _ (.tail _ hc))
theorem nodup_other {l₁ l₂ : List Nd} {nd : Nd} (h : ((l₁ ++ nd :: l₂).map Nd.p).Nodup) : ∀ c, c ∈ l₁ ∨ c ∈ l₂ → c.p ≠ nd.p := by
  rw [List.map_append, List.map_cons] at h
  obtain ⟨n1, n2, n3⟩ := List.nodup_append.mp h
  rw [List.nodup_cons] at n2
  rintro c (hc | hc)
  · exact n3 _ (List.mem_map_of_mem (f := Nd.p) hc) _ (.head _)
  · exact fun e => n2.1 (e ▸ List.mem_map_of_mem (f := Nd.p) hc)
theorem Shape.congr {dk root T S S' G} (h : Shape dk root T S G) (hS : ∀ p, S' p ↔ S p) : Shape dk root T S' G :=
  ⟨h.nodup, h.rootIn, fun p => (hS p).trans (h.all p), h.kids, h.pars, h.errs, fun f hf => (hS _).mpr (h.gin f hf)⟩
theorem Shape.addErr {dk root l₁ l₂ nd S G} {f : Fa} {fs' : List Fa} {n' : Nat} (h : Shape dk root (l₁ ++ nd :: l₂) S G) (hp : f.path dk = nd.p) (hfs : fs'.Perm (nd.fs ++ [f])) :
    Shape dk root (l₁ ++ { nd with fs := fs', n := n' } :: l₂) S (f :: G) := by
  have hno := nodup_other h.nodup
  have hndm : nd ∈ l₁ ++ nd :: l₂ := List.mem_append_right _ (.head _)
  refine ⟨?_, ?_, ?_, ?_, ?_, ?_, ?_⟩
  · have := h.nodup; rw [List.map_append, List.map_cons] at this ⊢; exact this
  · exact (ex_same (nd := nd) (nd' := { nd with fs := fs', n := n' }) (φ := fun nd => nd.p = [] ∧ nd.x = root ∧ nd.par = .none ∧ nd.C = rootC dk) Iff.rfl).mp h.rootIn
  · exact fun p => (h.all p).trans (ex_same (nd := nd) (nd' := { nd with fs := fs', n := n' }) (φ := fun nd => nd.p = p) Iff.rfl)
  · have key : ∀ c ∈ l₁ ++ nd :: l₂, ∀ k v, valueAt c.kvs k = some v ↔ ∃ c' ∈ l₁ ++ { nd with fs := fs', n := n' } :: l₂, c'.p = c.p ++ [k] ∧ v = .ref c'.x := fun c hc k v =>
      (h.kids c hc k v).trans (ex_same (nd := nd) (nd' := { nd with fs := fs', n := n' }) (φ := fun c' => c'.p = c.p ++ [k] ∧ v = .ref c'.x) Iff.rfl)
    exact all_same (φ := fun c => ∀ k v, valueAt c.kvs k = some v ↔ ∃ c' ∈ l₁ ++ { nd with fs := fs', n := n' } :: l₂, c'.p = c.p ++ [k] ∧ v = .ref c'.x) key fun q => q
  · have key : ∀ c ∈ l₁ ++ nd :: l₂, ∀ q k, c.p = q ++ [k] → c.C = 342 ∧ ∃ a ∈ l₁ ++ { nd with fs := fs', n := n' } :: l₂, a.p = q ∧ c.par = .ref a.x := fun c hc q k e =>
      (h.pars c hc q k e).imp id (ex_same (nd := nd) (nd' := { nd with fs := fs', n := n' }) (φ := fun a => a.p = q ∧ c.par = .ref a.x) Iff.rfl).mp
    exact all_same (φ := fun c => ∀ q k, c.p = q ++ [k] → c.C = 342 ∧ ∃ a ∈ l₁ ++ { nd with fs := fs', n := n' } :: l₂, a.p = q ∧ c.par = .ref a.x) key fun q => q
  · intro c hc
    have hmem : c = { nd with fs := fs', n := n' } ∨ (c ∈ l₁ ∨ c ∈ l₂) := by
      rcases List.mem_append.mp hc with hc | hc
      · exact .inr (.inl hc)
      · rcases List.mem_cons.mp hc with hc | hc
        · exact .inl hc
        · exact .inr (.inr hc)
    rcases hmem with rfl | hc'
    · show fs'.Perm ((f :: G).filter fun f => decide (f.path dk = nd.p))
      rw [List.filter_cons, if_pos (by simpa using hp)]
      exact hfs.trans ((List.perm_append_comm (l₁ := nd.fs) (l₂ := [f])).trans ((h.errs nd hndm).cons f))
    · have hne := hno c hc'
      have hcm : c ∈ l₁ ++ nd :: l₂ := hc'.elim (fun q => List.mem_append_left _ q) fun q => List.mem_append_right _ (.tail _ q)
      rw [List.filter_cons, if_neg (by simpa using fun e : f.path dk = c.p => hne (e.symm.trans hp))]
      exact h.errs c hcm
  · intro g hg
    rcases List.mem_cons.mp hg with rfl | hg
    · exact (h.all _).mpr ⟨nd, hndm, hp.symm⟩
    · exact h.gin g hg
theorem valueAt_stored' {kvs : List (Key × Value)} {k : Key} {v : Value} (h : valueAt kvs k = none) (k' : Key) : valueAt (stored kvs k v) k' = if k' = k then some v else valueAt kvs k' := by
  have hany : kvs.any (fun kv => decide (kv.1 = k)) = false := by
    rw [List.any_eq_false]
    intro kv hkv
    unfold valueAt at h
    rw [Option.map_eq_none_iff, List.find?_eq_none] at h
    exact h kv hkv
  unfold stored
  rw [hany]
  simp only [Bool.false_eq_true, if_false]
  unfold valueAt at h ⊢
  rw [List.find?_append]
  by_cases e : k' = k
  · subst e
    rw [Option.map_eq_none_iff] at h
    rw [h, if_pos rfl]
    simp
  · rw [if_neg e]
    have e2 : ([(k, v)] : List (Key × Value)).find? (fun kv => decide (kv.1 = k')) = none := by simp [Ne.symm e]
    rw [e2]; simp
theorem Shape.addKid {dk root l₁ l₂ nd S G} {c : Nd} {k : Key} {o' : Obj} (h : Shape dk root (l₁ ++ nd :: l₂) S G) (hk : valueAt nd.kvs k = none) (cp : c.p = nd.p ++ [k]) (ck : c.kvs = []) (cf : c.fs = []) (cpar : c.par = .ref nd.x) (cC : c.C = 342) :
    Shape dk root (c :: (l₁ ++ { nd with od := o', kvs := stored nd.kvs k (.ref c.x) } :: l₂)) (fun p => S p ∨ p = c.p) G := by
  have hndm : nd ∈ l₁ ++ nd :: l₂ := List.mem_append_right _ (.head _)
  have hnew : ¬ ∃ m ∈ l₁ ++ nd :: l₂, m.p = c.p := by
    rintro ⟨m, hm, e⟩
    have := (h.kids nd hndm k (.ref m.x)).mpr ⟨m, hm, e.trans cp, rfl⟩
    rw [hk] at this; cases this
  have hnew' : ¬ S c.p := fun q => hnew ((h.all _).mp q)
  have noKid : ∀ m ∈ l₁ ++ nd :: l₂, ∀ k', m.p ≠ c.p ++ [k'] := by
    intro m hm k' e
    obtain ⟨_, a, ha, ea, _⟩ := h.pars m hm _ _ e
    exact hnew ⟨a, ha, ea⟩
  generalize hnd' : ({ nd with od := o', kvs := stored nd.kvs k (.ref c.x) } : Nd) = nd'
  have ep : nd'.p = nd.p := by rw [← hnd']
  have ex' : nd'.x = nd.x := by rw [← hnd']
  have epar : nd'.par = nd.par := by rw [← hnd']
  have eC : nd'.C = nd.C := by rw [← hnd']
  have efs : nd'.fs = nd.fs := by rw [← hnd']
  have ekvs : nd'.kvs = stored nd.kvs k (.ref c.x) := by rw [← hnd']
  have sw : ∀ φ : Nd → Prop, (φ nd ↔ φ nd') → ((∃ m ∈ c :: (l₁ ++ nd' :: l₂), φ m) ↔ φ c ∨ ∃ m ∈ l₁ ++ nd :: l₂, φ m) := by
    intro φ hφ
    rw [ex_same hφ]
    constructor
    · rintro ⟨m, hm, q⟩
      rcases List.mem_cons.mp hm with rfl | hm
      · exact .inl q
      · exact .inr ⟨m, hm, q⟩
    · rintro (q | ⟨m, hm, q⟩)
      · exact ⟨c, .head _, q⟩
      · exact ⟨m, .tail _ hm, q⟩
  refine ⟨?_, ?_, ?_, ?_, ?_, ?_, ?_⟩
  · rw [List.map_cons, List.nodup_cons]
    have e : (l₁ ++ nd' :: l₂).map Nd.p = (l₁ ++ nd :: l₂).map Nd.p := by rw [List.map_append, List.map_append, List.map_cons, List.map_cons, ep]
    rw [e]
    refine ⟨fun q => ?_, h.nodup⟩
    obtain ⟨m, hm, e⟩ := List.mem_map.mp q
    exact hnew ⟨m, hm, e⟩
  · exact (sw (fun nd => nd.p = [] ∧ nd.x = root ∧ nd.par = .none ∧ nd.C = rootC dk) (by rw [ep, ex', epar, eC])).mpr (.inr h.rootIn)
  · intro p
    rw [sw (fun nd => nd.p = p) (by rw [ep]), ← h.all p]
    exact ⟨fun q => q.elim .inr fun e => .inl e.symm, fun q => q.elim (fun e => .inr e.symm) .inl⟩
  · intro m hm k' v
    rw [sw (fun c' => c'.p = m.p ++ [k'] ∧ v = .ref c'.x) (by rw [ep, ex'])]
    rcases List.mem_cons.mp hm with rfl | hm
    · rw [ck]
      constructor
      · intro q; cases q
      · rintro (⟨e, _⟩ | ⟨m', hm', e, _⟩)
        · exact absurd (congrArg List.length e) (by simp)
        · exact absurd e (noKid m' hm' k')
    · have hcase : m = nd' ∨ (m ∈ l₁ ∨ m ∈ l₂) := by
        rcases List.mem_append.mp hm with hm | hm
        · exact .inr (.inl hm)
        · rcases List.mem_cons.mp hm with hm | hm
          · exact .inl hm
          · exact .inr (.inr hm)
      rcases hcase with rfl | hm'
      · rw [ekvs, valueAt_stored' hk, ep]
        by_cases e : k' = k
        · subst e
          rw [if_pos rfl]
          constructor
          · intro q; cases q; exact .inl ⟨cp, rfl⟩
          · rintro (⟨_, rfl⟩ | ⟨m', hm', e, _⟩)
            · rfl
            · exact absurd ⟨m', hm', e.trans cp.symm⟩ hnew
        · rw [if_neg e, h.kids nd hndm k' v]
          constructor
          · exact .inr
          · rintro (⟨e', _⟩ | q)
            · rw [cp] at e'
              have := List.append_cancel_left e'
              exact absurd (List.cons.inj this).1.symm e
            · exact q
      · have hmm : m ∈ l₁ ++ nd :: l₂ := hm'.elim (fun q => List.mem_append_left _ q) fun q => List.mem_append_right _ (.tail _ q)
        rw [h.kids m hmm k' v]
        constructor
        · exact .inr
        · rintro (⟨e', _⟩ | q)
          · rw [cp] at e'
            have e2 := List.append_inj_left' e' (by simp)
            exact absurd e2.symm (nodup_other h.nodup m hm')
          · exact q
  · intro m hm q k' e
    rw [sw (fun a => a.p = q ∧ m.par = .ref a.x) (by rw [ep, ex'])]
    rcases List.mem_cons.mp hm with rfl | hm
    · refine ⟨cC, .inr ⟨nd, hndm, ?_, cpar⟩⟩
      rw [cp] at e
      exact List.append_inj_left' e (by simp)
    · have key : ∀ m ∈ l₁ ++ nd :: l₂, ∀ q k', m.p = q ++ [k'] → m.C = 342 ∧ (∃ a ∈ l₁ ++ nd :: l₂, a.p = q ∧ m.par = .ref a.x) := h.pars
      have key2 := all_same (nd' := nd') (φ := fun m => ∀ q k', m.p = q ++ [k'] → m.C = 342 ∧ (∃ a ∈ l₁ ++ nd :: l₂, a.p = q ∧ m.par = .ref a.x)) key (fun z => by rw [ep, eC, epar]; exact z)
      exact (key2 m hm q k' e).imp id .inr
  · intro m hm
    rcases List.mem_cons.mp hm with rfl | hm
    · rw [cf, List.filter_eq_nil_iff.mpr]
      intro f hf
      simp only [decide_eq_true_eq]
      exact fun e => hnew' (e ▸ h.gin f hf)
    · exact all_same (nd' := nd') (φ := fun m => m.fs.Perm (G.filter fun f => decide (f.path dk = m.p))) h.errs (fun z => by rw [efs, ep]; exact z) m hm
  · exact fun f hf => .inl (h.gin f hf)
/-- every front of a path in the tree -/
theorem Shape.front {dk root T S G} (h : Shape dk root T S G) : ∀ n p, p.length = n → S p → ∀ q, q <+: p → S q := by
  intro n
  induction n with
  | zero =>
    intro p hp hS q hq
    obtain rfl : p = [] := List.length_eq_zero_iff.mp hp
    rw [List.prefix_nil.mp hq]; exact hS
  | succ n ih =>
    intro p hp hS q hq
    by_cases e : q = p
    · rw [e]; exact hS
    · have hne : p ≠ [] := fun e => by rw [e] at hp; cases hp
      obtain ⟨nd, hnd, rfl⟩ := (h.all p).mp hS
      obtain ⟨_, a, ha, ea, _⟩ := h.pars nd hnd nd.p.dropLast (nd.p.getLast hne) (List.dropLast_concat_getLast hne).symm
      have hq2 : q <+: nd.p.dropLast := by
        obtain ⟨t, ht⟩ := hq
        have htn : t ≠ [] := fun e' => e (by rw [← ht, e', List.append_nil])
        refine ⟨t.dropLast, ?_⟩
        rw [← ht, List.dropLast_append_of_ne_nil htn]
      exact ih nd.p.dropLast (by rw [List.length_dropLast]; omega) ((h.all _).mpr ⟨a, ha, ea⟩) q hq2
end Mine

-- TN6
open PySem PySem.W PySem.Calls PyProof.Rows
set_option maxRecDepth 100000
set_option linter.unusedVariables false
namespace Mine
theorem kf_noseq {P : Params} {C : Addr} (hC : IsNC C) : noSeq (KH P) C = true := by rcases hC with rfl | rfl | rfl <;> kernel_rfl
theorem kf_fn294 {P : Params} : fnIn (KH P) 294 = true := by kernel_rfl
theorem kf_isfn294 {P : Params} : isFn (KH P) (.ref 294) = true := by kernel_rfl
theorem kf_isfn308 {P : Params} : isFn (KH P) (.ref 308) = true := by kernel_rfl
theorem kf_getitem {P : Params} {C : Addr} (hC : IsNC C) : findIn (KH P) (.ref C) "__getitem__" = some (some (.ref 294)) := by rcases hC with rfl | rfl | rfl; exact kf_getitem_342; exact kf_getitem_405; exact kf_getitem_417
theorem kf_setitem {P : Params} {C : Addr} (hC : IsNC C) : findIn (KH P) (.ref C) "__setitem__" = some (some (.ref 308)) := by rcases hC with rfl | rfl | rfl; exact kf_setitem_342; exact kf_setitem_405; exact kf_setitem_417
theorem kf_path_of {P : Params} {C : Addr} (hC : IsNC C) : MethAttr (KH P) C "_path_of_" 338 := by rcases hC with rfl | rfl | rfl; exact kf_path_of_342; exact kf_path_of_405; exact kf_path_of_417
theorem kk_338 {P : Params} : keepIn (KH P) (.ref 338) = true := by kernel_rfl
theorem kk_331 {P : Params} : keepIn (KH P) (.ref 331) = true := by kernel_rfl
theorem kk_374 {P : Params} : keepIn (KH P) (.ref 374) = true := by kernel_rfl
theorem kk_388 {P : Params} : keepIn (KH P) (.ref 388) = true := by kernel_rfl
section
variable {prog : Program} {w : World} {A : Around} {h₀ : Heap} {L : Addr} {m : Loc} {nw : Led} {mg mb : Loc} {r : Nat} {env : Env} {K : Frag} {x C d e pa root de : Addr} {par : Value} {b : Bool} {o : Obj} {kvs : List (Key × Value)} {k : Key} {key v : Value}
theorem Fn.led {dd : Nat} {f : Value} {args : List Value} {P : Value → Led → Prop} (h : Fn prog w K mg mb dd f args nw P) : Fn prog w K mg mb dd f args nw P := h
theorem nd_item {value slice : Expr} (M : Fm (KH w.params) mg mb (r + 1) A h₀ L) (hr : 1 ≤ r) (hC : IsNC C) (N : NodeAt nw x C d e par pa root) (hm : (d, o) ∈ nw) (hd : KDict prog w o kvs) (lo : (d == sysModules) = false) (hk : vkey key = some k)
    (hsl : subscripted slice true (.ref x) key = runValue (.builtin "lifetime.subscript" ⟨[.ref x, key], []⟩) := by with_unfolding_all rfl) :
    Rv prog w A h₀ L m nw (subscriptTail value slice (.ref x) key) (· = (valueAt kvs k).getD .none) := fun os fx s hs => by
  obtain ⟨ox, I, _⟩ := N.ins (K := KH w.params)
  exact sub_K hs.F M.gr.X (I.inst hs M) (kf_getitem hC) kf_fn294 kf_isfn294 (run_fp M.in1 (t_getitem hC N hm hd lo hk) hr os fx s hs) hsl
theorem nd_item_def {value slice : Expr} {a : Addr} {c : Nat} {rl : Option Str} {fs : List Fa} {n : Nat} (M : Fm (KH w.params) mg mb (r + 1) A h₀ L) (hr : 1 ≤ r) (hC : IsNC C) (N : NodeAt nw x C d e par pa root) (he : (e, elObj de (refs fs) n) ∈ nw) (hf : ∀ f ∈ fs, FaOk nw f) (D : DefAt (KH w.params) a c rl)
    (hsl : subscripted slice true (.ref x) (.ref a) = runValue (.builtin "lifetime.subscript" ⟨[.ref x, .ref a], []⟩) := by with_unfolding_all rfl) :
    Rv prog w A h₀ L m nw (subscriptTail value slice (.ref x) (.ref a)) (· = firstOf fs c) := fun os fx s hs => by
  obtain ⟨ox, I, _⟩ := N.ins (K := KH w.params)
  exact sub_K hs.F M.gr.X (I.inst hs M) (kf_getitem hC) kf_fn294 kf_isfn294 (run_fp M.in1 (t_getdef hC N he hf D) hr os fx s hs) hsl
theorem nd_setitem {Q : Unit → Loc → Led → Prop} (M : Fm (KH w.params) mg mb r A h₀ L) (hr : 1 ≤ r) (hC : IsNC C) (N : NodeAt nw x C d e par pa root) (hm : (d, o) ∈ nw) (hd : KDict prog w o kvs) (hk : vkey key = some k)
    (h : ∀ o', KDict prog w o' (stored kvs k v) → Q () m (setL nw d o')) : Run prog w A h₀ L m nw (setItem (.ref x) key v) Q := fun os fx s hs => by
  obtain ⟨ox, I, _⟩ := N.ins (K := KH w.params)
  refine ksp_setItem hs.F M.gr.X (I.inst hs M) (kf_noseq hC) (kf_setitem hC) kf_isfn308 ?_
  exact run_call (Q := fun _ m' nw' => Q () m' nw') (t_setitem hC N hm hd hk (by have := kdict_len hd; omega)) M hr (fun _ nw' ⟨o', h1, h2⟩ => by subst h2; exact h o' h1) os fx s hs
theorem nd_method {f : Addr} {name : Str} {pl : Sem Bool} {Q : Value × List Value → Loc → Led → Prop} (M : Fm (KH w.params) mg mb r A h₀ L) (N : NodeAt nw x C d e par pa root) (a : MethAttr (KH w.params) C name f) (h : Q (.ref f, [.ref x]) m nw) : Run prog w A h₀ L m nw (getMethod (.ref x) name pl) Q := by
  obtain ⟨ox, I, _⟩ := N.ins (K := KH w.params)
  exact run_method M I a rfl h
theorem sx_setitem {oe i pos' value pos rest} {P : Value → Loc → Led → Prop} {ov iv : Value} {R : Flow → Loc → Led → Prop} (hv : Ex prog w A h₀ L env m nw value P) (ho : ∀ v m' nw', P v m' nw' → Ev prog w A h₀ L env m' nw' oe (· = ov)) (hi : ∀ v m' nw', P v m' nw' → Ev prog w A h₀ L env m' nw' i (· = iv))
    (k : ∀ v m' nw', P v m' nw' → Run prog w A h₀ L m' nw' (setItem ov iv v) (fun _ m'' nw'' => Sx prog w A h₀ L env m'' nw'' rest R))
    (hs : swapsWith value (some (.Subscript oe i pos')) pos.line env = pure false := by rfl) : Sx prog w A h₀ L env m nw (.Assign [.Subscript oe i pos'] value pos :: rest) R :=
  sx_cons fun os fx s hst => wpAny_Assign_Subscript (wpAny_mono (hv os fx s hst) (fun v' s₁ ⟨m1, nw1, hs1, hp⟩ => by
    have ho1 := ho v' m1 nw1 hp
    have hi1 := hi v' m1 nw1 hp
    have k1 := k v' m1 nw1 hp
    exact wpAny_mono (ho1 os fx s₁ hs1) (fun o' s₂ ⟨m2, nw2, hs2, a2, b2, c2⟩ => by
      subst a2; subst b2; subst c2
      exact wpAny_mono (hi1 os fx s₂ hs2) (fun i' s₃ ⟨m3, nw3, hs3, a3, b3, c3⟩ => by
        subst a3; subst b3; subst c3
        exact wpAny_mono (k1 os fx s₃ hs3) (fun _ s₄ ⟨m4, nw4, hs4, h⟩ => ⟨m4, nw4, hs4, h⟩) fun _ _ x => x) fun _ _ x => x) fun _ _ x => x) fun _ _ x => x) hs
/-- self._path_of_(error) -/
theorem ev_path_of {oe fe : Expr} {apos pos : Pos} {dk : Bool} {f : Fa} (M : Fm (KH w.params) mg mb r A h₀ L) (hr : 3 ≤ r) (hC : TypeOk dk C x root) (N : NodeAt nw x C d e par pa root) (R : RootAt nw dk root) {nv : Led} (V : FaOk nv f) (kv : Kp [] nv nw)
    (ho : Ev prog w A h₀ L env m nw oe (· = .ref x)) (hf : Ev prog w A h₀ L env m nw fe (· = .ref f.x)) {pl : Sem Bool}
    (he : eval (.Call (.Attribute oe "_path_of_" apos) [fe] [] pos) env = (do
      let ov ← eval oe env
      standAt apos.atName
      let (f, first) ← holding [ov] (getMethod ov "_path_of_" pl)
      callWith pos f first (backTo pos (starEach [fe] env)) (backToKw pos (keywordEach [] env))) := by rfl)
    (hs : starEach [fe] env = [(false, eval fe env)] := by rfl) :
    Ev prog w A h₀ L env m nw (.Call (.Attribute oe "_path_of_" apos) [fe] [] pos) (fun v => ∃ a, v = .ref a ∧ PathAt nv a (f.path dk)) :=
  ev_methK ho (nd_method M N (kf_path_of hC.nc) ⟨rfl, rfl, rfl⟩) (cw_K M kk_338 (arg1 hf hs) (fun vs m' nw' ⟨v, e1, e2, e3, e4⟩ => by subst e1; subst e2; subst e3; subst e4; exact run_fp M (t_path_of hC N R V kv) hr) hs rfl) he
end
end Mine

-- TA1
open PySem PySem.W PySem.Calls PyProof.Rows
set_option maxRecDepth 100000
set_option linter.unusedVariables false
namespace Mine
def Spre (S : List Key → Prop) (q : List Key) : List Key → Prop := fun p => S p ∨ (p ≠ [] ∧ p <+: q)
def SK (dk : Bool) (S : List Key → Prop) (f : Fa) (kid : Option Fa) : List Key → Prop := match kid with | none => Spre S (f.path dk) | some c => Spre (Spre S (f.path dk)) (c.path dk)
def GK (G : List Fa) (f : Fa) (kid : Option Fa) : List Fa := match kid with | none => f :: G | some c => c :: f :: G
def AddPost (prog : Program) (w : World) (dk : Bool) (root : Addr) (rest : Led) (S : List Key → Prop) (G : List Fa) : Value → Led → Prop := fun v nw' => v = .none ∧ ∃ rest' T', Tr prog w nw' rest' dk root T' S G ∧ Kp [] rest rest'
def FaKid (nw : Led) (f : Fa) (kid : Option Fa) : Prop := match kid with
  | none => ((f.code &&& 128 : Nat) : Int) = 0
  | some c => ((f.code &&& 128 : Nat) : Int) ≠ 0 ∧ ∃ el de nI n k, (f.info, tupO [.ref el] nI) ∈ nw ∧ (el, elObj de (refs [c]) n) ∈ nw ∧ (de, dictOf [] k) ∈ nw ∧ FaOk nw c
theorem FaKid.keep0 {nw nw' f kid} (h : FaKid nw f kid) (k : Kp [] nw nw') : FaKid nw' f kid := by
  cases kid with
  | none => exact h
  | some c => obtain ⟨h1, el, de, nI, n, kk, a, b, c', d⟩ := h; exact ⟨h1, el, de, nI, n, kk, k.get a, k.get b, k.get c', d.keep0 k⟩
theorem perm_refs {l : List Value} {fs : List Fa} (h : l.Perm (refs fs)) : ∃ fs', l = refs fs' ∧ fs'.Perm fs := by
  generalize hm : refs fs = m at h
  induction h generalizing fs with
  | nil => obtain rfl : fs = [] := by simpa using hm
           exact ⟨[], rfl, .nil⟩
  | cons x _ ih =>
    cases fs with
    | nil => cases hm
    | cons f fs =>
      obtain ⟨h1, h2⟩ := List.cons.inj hm
      obtain ⟨fs', e, p⟩ := ih h2
      exact ⟨f :: fs', by rw [e, ← h1]; rfl, p.cons f⟩
  | swap x y l =>
    match fs, hm with
    | f :: g :: fs, hm =>
      obtain ⟨h1, h2⟩ := List.cons.inj hm
      obtain ⟨h3, h4⟩ := List.cons.inj h2
      exact ⟨g :: f :: fs, by rw [← h1, ← h3, ← h4]; rfl, .swap f g fs⟩
  | trans _ _ ih1 ih2 =>
    obtain ⟨fs1, e1, p1⟩ := ih2 hm
    obtain ⟨fs2, e2, p2⟩ := ih1 e1.symm
    exact ⟨fs2, e2, p2.trans p1⟩
theorem Tr.rootAt {prog w nw rest dk root T S G} (h : Tr prog w nw rest dk root T S G) : ∃ nd ∈ T, nd.p = [] ∧ nd.x = root ∧ nd.par = .none ∧ nd.C = rootC dk ∧ RootAt rest dk root := by
  obtain ⟨nd, hm, h1, h2, h3, h4⟩ := h.sh.rootIn
  have N := (h.ok nd hm).node
  rw [h2, h4] at N
  exact ⟨nd, hm, h1, h2, h3, h4, _, _, _, _, _, N⟩
section
variable {prog : Program} {w : World} {A : Around} {h₀ : Heap} {L : Addr} {m : Loc} {nw rest : Led} {mg mb : Loc} {r : Nat} {env : Env} {K : Frag} {dk : Bool} {root : Addr} {T : List Nd} {S : List Key → Prop} {G : List Fa}
theorem sx_join {test body orelse pos rest'} {B : Bool → Prop} {J : Loc → Led → Prop} {R : Flow → Loc → Led → Prop} (h : Tv prog w A h₀ L env m nw test B)
    (k1 : B true → Sx prog w A h₀ L env m nw body (fun fl m' nw' => fl = .next ∧ J m' nw')) (k2 : B false → Sx prog w A h₀ L env m nw orelse (fun fl m' nw' => fl = .next ∧ J m' nw')) (hr : ∀ m' nw', J m' nw' → Sx prog w A h₀ L env m' nw' rest' R) :
    Sx prog w A h₀ L env m nw (.If test body orelse pos :: rest') R :=
  sv_if h (fun b => Run.mono (k1 b) fun fl m' nw' ⟨e, j⟩ => by subst e; exact hr m' nw' j) (fun b => Run.mono (k2 b) fun fl m' nw' ⟨e, j⟩ => by subst e; exact hr m' nw' j)
/-- a fault laid to a node's errors -/
theorem Tr.addErr {l₁ l₂ : List Nd} {nd : Nd} {f : Fa} {fs' : List Fa} {n' : Nat} (h : Tr prog w nw rest dk root (l₁ ++ nd :: l₂) S G) (hp : f.path dk = nd.p) (hf : FaOk rest f) (hfs : fs'.Perm (nd.fs ++ [f])) :
    Tr prog w (setL nw nd.e (elObj nd.de (refs fs') n')) rest dk root (l₁ ++ { nd with fs := fs', n := n' } :: l₂) S (f :: G) := by
  have hm := mem_tled (T := l₁ ++ nd :: l₂) (List.mem_append_right _ (.head _))
  have hne : nd.d ≠ nd.e := by
    have hn := h.lay.nod
    simp only [tled_app, tled_cons, keys_app] at hn
    have n2 := (List.nodup_append.mp (List.nodup_append.mp hn).2.1).1
    have ke : keys nd.led = [nd.d, nd.e] := rfl
    rw [ke] at n2
    simpa using n2
  refine ⟨h.lay.replace rfl rfl ?_ ?_, ?_, h.sh.addErr hp hfs⟩
  · intro p hp hW
    exact mem_setL_ne hp fun e => hW (by rw [e]; exact .tail _ (.head _))
  · intro p hp
    rcases List.mem_cons.mp hp with rfl | hp
    · exact mem_setL_ne (h.lay.led _ hm.1) hne
    · obtain rfl := List.mem_singleton.mp hp
      exact mem_setL_self (h.lay.led _ hm.2)
  · refine all_same (nd' := { nd with fs := fs', n := n' }) (φ := NdOk prog w rest dk root) h.ok fun o => ⟨o.node, o.path, o.len, o.de, o.od, o.sys, o.ty, fun g hg => ?_⟩
    rcases List.mem_append.mp ((hfs.mem_iff).mp hg) with hg | hg
    · exact o.fs g hg
    · rw [List.mem_singleton.mp hg]; exact hf
theorem Tr.setErr {l₁ l₂ : List Nd} {nd : Nd} {fs' : List Fa} {n' : Nat} (h : Tr prog w nw rest dk root (l₁ ++ nd :: l₂) S G) (hfs : fs'.Perm nd.fs) :
    Tr prog w (setL nw nd.e (elObj nd.de (refs fs') n')) rest dk root (l₁ ++ { nd with fs := fs', n := n' } :: l₂) S G := by
  have hm := mem_tled (T := l₁ ++ nd :: l₂) (List.mem_append_right _ (.head _))
  have hne : nd.d ≠ nd.e := by
    have hn := h.lay.nod
    simp only [tled_app, tled_cons, keys_app] at hn
    have n2 := (List.nodup_append.mp (List.nodup_append.mp hn).2.1).1
    have ke : keys nd.led = [nd.d, nd.e] := rfl
    rw [ke] at n2
    simpa using n2
  have hndm : nd ∈ l₁ ++ nd :: l₂ := List.mem_append_right _ (.head _)
  refine ⟨h.lay.replace rfl rfl ?_ ?_, ?_, ?_⟩
  · intro p hp hW
    exact mem_setL_ne hp fun e => hW (by rw [e]; exact .tail _ (.head _))
  · intro p hp
    rcases List.mem_cons.mp hp with rfl | hp
    · exact mem_setL_ne (h.lay.led _ hm.1) hne
    · obtain rfl := List.mem_singleton.mp hp
      exact mem_setL_self (h.lay.led _ hm.2)
  · refine all_same (nd' := { nd with fs := fs', n := n' }) (φ := NdOk prog w rest dk root) h.ok fun o => ⟨o.node, o.path, o.len, o.de, o.od, o.sys, o.ty, fun g hg => o.fs g ((hfs.mem_iff).mp hg)⟩
  · have s := h.sh
    refine ⟨?_, ?_, ?_, ?_, ?_, ?_, s.gin⟩
    · have := s.nodup; rw [List.map_append, List.map_cons] at this ⊢; exact this
    · exact (ex_same (nd := nd) (nd' := { nd with fs := fs', n := n' }) (φ := fun nd => nd.p = [] ∧ nd.x = root ∧ nd.par = .none ∧ nd.C = rootC dk) Iff.rfl).mp s.rootIn
    · exact fun p => (s.all p).trans (ex_same (nd := nd) (nd' := { nd with fs := fs', n := n' }) (φ := fun nd => nd.p = p) Iff.rfl)
    · have key : ∀ c ∈ l₁ ++ nd :: l₂, ∀ k v, valueAt c.kvs k = some v ↔ ∃ c' ∈ l₁ ++ { nd with fs := fs', n := n' } :: l₂, c'.p = c.p ++ [k] ∧ v = .ref c'.x := fun c hc k v =>
        (s.kids c hc k v).trans (ex_same (nd := nd) (nd' := { nd with fs := fs', n := n' }) (φ := fun c' => c'.p = c.p ++ [k] ∧ v = .ref c'.x) Iff.rfl)
      exact all_same (φ := fun c => ∀ k v, valueAt c.kvs k = some v ↔ ∃ c' ∈ l₁ ++ { nd with fs := fs', n := n' } :: l₂, c'.p = c.p ++ [k] ∧ v = .ref c'.x) key fun q => q
    · have key : ∀ c ∈ l₁ ++ nd :: l₂, ∀ q k, c.p = q ++ [k] → c.C = 342 ∧ ∃ a ∈ l₁ ++ { nd with fs := fs', n := n' } :: l₂, a.p = q ∧ c.par = .ref a.x := fun c hc q k e =>
        (s.pars c hc q k e).imp id (ex_same (nd := nd) (nd' := { nd with fs := fs', n := n' }) (φ := fun a => a.p = q ∧ c.par = .ref a.x) Iff.rfl).mp
      exact all_same (φ := fun c => ∀ q k, c.p = q ++ [k] → c.C = 342 ∧ ∃ a ∈ l₁ ++ { nd with fs := fs', n := n' } :: l₂, a.p = q ∧ c.par = .ref a.x) key fun q => q
    · exact all_same (nd' := { nd with fs := fs', n := n' }) (φ := fun c => c.fs.Perm (G.filter fun f => decide (f.path dk = c.p))) s.errs fun z => hfs.trans z
/-- a new child -/
theorem Tr.addKid {l₁ l₂ : List Nd} {nd : Nd} {nw' : Led} {q : List Key} {k : Key} {x dx d e de pa pth : Addr} {n : Nat} {o' : Obj} (h : Tr prog w nw rest dk root (l₁ ++ nd :: l₂) S G)
    (hk : valueAt nd.kvs k = none) (hq : q.take (nd.p.length + 1) = nd.p ++ [k]) (hz : q.length < 100) (hpth : PathAt rest pth q) (fx : x ∉ keys nw) (fdx : dx ∉ keys nw) (hxd : x ≠ dx)
    (kk : Kq [x] ((x, instObj 342 dx) :: (dx, dictOf [] 0) :: nw) nw') (hx : (x, nodeO 342 dx d e (.ref nd.x) pa root) ∈ nw') (hdx : (dx, dictOf [] 0) ∈ nw') (hpa : PathAt nw' pa (q.take (nd.p.length + 1)))
    (hpa2 : (pa = pth ∧ nd.p.length + 1 = q.length) ∨ pa ∉ keys ((x, instObj 342 dx) :: (dx, dictOf [] 0) :: nw)) (npd : pa ≠ d) (npe : pa ≠ e) (hd : (d, dictOf [] 0) ∈ nw') (hds : (d == sysModules) = false) (he : (e, elObj de [] n) ∈ nw') (hde : (de, dictOf [] 0) ∈ nw')
    (fd : d ∉ keys ((x, instObj 342 dx) :: (dx, dictOf [] 0) :: nw)) (fe : e ∉ keys ((x, instObj 342 dx) :: (dx, dictOf [] 0) :: nw)) (fde : de ∉ keys ((x, instObj 342 dx) :: (dx, dictOf [] 0) :: nw)) (nde : d ≠ e) (ndde : d ≠ de) (nede : e ≠ de)
    (ho' : KDict prog w o' (stored nd.kvs k (.ref x))) :
    ∃ rest' c, Tr prog w (setL nw' nd.d o') rest' dk root (c :: (l₁ ++ { nd with od := o', kvs := stored nd.kvs k (.ref x) } :: l₂)) (fun p => S p ∨ p = nd.p ++ [k]) G ∧ Kp [] rest rest' ∧ c.p = nd.p ++ [k] ∧ c.x = x ∧ c.C = 342 := by
  have hm := mem_tled (T := l₁ ++ nd :: l₂) (List.mem_append_right _ (.head _))
  have hne : nd.d ≠ nd.e := by
    have hn := h.lay.nod
    simp only [tled_app, tled_cons, keys_app] at hn
    have n2 := (List.nodup_append.mp (List.nodup_append.mp hn).2.1).1
    have ke : keys nd.led = [nd.d, nd.e] := rfl
    rw [ke] at n2
    simpa using n2
  have kk0 : Kp [] nw nw' := fun p hp _ => kk.1 p (.tail _ (.tail _ hp)) fun hW => fx (by rw [← List.mem_singleton.mp hW]; exact List.mem_map_of_mem (f := (·.1)) hp)
  have h1 := h.keep kk0
  have ndd : nd.d ∈ keys nw := keys_mem (h.lay.led _ hm.1)
  have lay2 : Lay (setL nw' nd.d o') rest (l₁ ++ { nd with od := o', kvs := stored nd.kvs k (.ref x) } :: l₂) := by
    refine h1.lay.replace rfl rfl ?_ ?_
    · intro p hp hW
      exact mem_setL_ne hp fun e => hW (by rw [e]; exact .head _)
    · intro p hp
      rcases List.mem_cons.mp hp with rfl | hp
      · exact mem_setL_self (h1.lay.led _ hm.1)
      · obtain rfl := List.mem_singleton.mp hp
        exact mem_setL_ne (h1.lay.led _ hm.2) (Ne.symm hne)
  have keq : keys (tled (l₁ ++ { nd with od := o', kvs := stored nd.kvs k (.ref x) } :: l₂)) = keys (tled (l₁ ++ nd :: l₂)) := by
    simp only [tled_app, tled_cons, keys_app]
    rfl
  have inNw : ∀ a ∈ keys (tled (l₁ ++ nd :: l₂)), a ∈ keys nw := fun a ha => h.lay.keysIn ha
  have up : ∀ {a : Addr}, a ∉ keys ((x, instObj 342 dx) :: (dx, dictOf [] 0) :: nw) → a ∉ keys nw ∧ a ≠ x ∧ a ≠ dx := fun {a} hn => ⟨fun z => hn (.tail _ (.tail _ z)), fun z => hn (by rw [z]; exact .head _), fun z => hn (by rw [z]; exact .tail _ (.head _))⟩
  obtain ⟨fd1, fd2, fd3⟩ := up fd
  obtain ⟨fe1, fe2, fe3⟩ := up fe
  obtain ⟨fde1, fde2, fde3⟩ := up fde
  have keep : ∀ {p : Addr × Obj}, p ∈ nw' → p.1 ∉ keys nw → p ∈ setL nw' nd.d o' := fun hp hn => mem_setL_ne hp fun z => hn (by rw [z]; exact ndd)
  obtain ⟨tp, np, hp1, hp2⟩ := hpa
  obtain ⟨c, hc⟩ : ∃ c : Nd, c = { x := x, d := d, e := e, de := de, pa := pa, C := 342, par := .ref nd.x, p := nd.p ++ [k], od := dictOf [] 0, kvs := [], fs := [], n := n } := ⟨_, rfl⟩
  have lay3 : Lay (setL nw' nd.d o') rest (c :: (l₁ ++ { nd with od := o', kvs := stored nd.kvs k (.ref x) } :: l₂)) := by
    refine lay2.cons ?_ ?_ ?_ ?_ ?_
    · rw [keq, hc]; exact fun z => fd1 (inNw _ z)
    · rw [keq, hc]; exact fun z => fe1 (inNw _ z)
    · rw [hc]; exact nde
    · intro p hp
      have hpk : p.1 ∈ keys nw := List.mem_map_of_mem (f := (·.1)) (h.lay.sub p hp)
      rw [hc]
      exact ⟨fun z => fd1 (by rw [← (show p.1 = d from z)]; exact hpk), fun z => fe1 (by rw [← (show p.1 = e from z)]; exact hpk)⟩
    · intro p hp
      rw [hc] at hp
      rcases List.mem_cons.mp hp with rfl | hp
      · exact keep hd fd1
      · obtain rfl := List.mem_singleton.mp hp
        exact keep he fe1
  have kc : keys (tled (c :: (l₁ ++ { nd with od := o', kvs := stored nd.kvs k (.ref x) } :: l₂))) = d :: e :: keys (tled (l₁ ++ nd :: l₂)) := by
    rw [← keq, hc]; rfl
  have out : ∀ {a : Addr}, a ∉ keys nw → a ≠ d → a ≠ e → a ∉ keys (tled (c :: (l₁ ++ { nd with od := o', kvs := stored nd.kvs k (.ref x) } :: l₂))) := by
    intro a h1 h2 h3
    rw [kc, List.mem_cons, List.mem_cons]
    rintro (z | z | z)
    · exact h2 z
    · exact h3 z
    · exact h1 (inNw _ z)
  -- the path of the child, and where it stands
  have hpaC : ∃ ext : Led, (∀ p ∈ ext, p ∈ setL nw' nd.d o' ∧ p.1 ∉ keys (tled (c :: (l₁ ++ { nd with od := o', kvs := stored nd.kvs k (.ref x) } :: l₂)))) ∧ PathAt (ext ++ rest) pa (nd.p ++ [k]) := by
    rcases hpa2 with ⟨rfl, hlen⟩ | hfr
    · refine ⟨[], (fun p hp => absurd hp (List.not_mem_nil)), ?_⟩
      have e : q.take (nd.p.length + 1) = q := by rw [hlen, List.take_length]
      rw [← hq, e]; exact hpth
    · obtain ⟨fp1, fp2, fp3⟩ := up hfr
      refine ⟨[(pa, tupO tp np)], fun p hp => ?_, tp, np, .head _, by rw [← hq]; exact hp2⟩
      obtain rfl := List.mem_singleton.mp hp
      exact ⟨keep hp1 fp1, out fp1 npd npe⟩
  obtain ⟨ext, hext, hpathC⟩ := hpaC
  have lay4 := (lay3.rest ext hext).rest [(x, nodeO 342 dx d e (.ref nd.x) pa root), (dx, dictOf [] 0), (de, dictOf [] 0)] (by
    intro p hp
    rcases List.mem_cons.mp hp with rfl | hp
    · exact ⟨keep hx fx, out fx (Ne.symm fd2) (Ne.symm fe2)⟩
    · rcases List.mem_cons.mp hp with rfl | hp
      · exact ⟨keep hdx fdx, out fdx (Ne.symm fd3) (Ne.symm fe3)⟩
      · obtain rfl := List.mem_singleton.mp hp
        exact ⟨keep hde fde1, out fde1 (Ne.symm ndde) (Ne.symm nede)⟩)
  have kpr : Kp [] rest ([(x, nodeO 342 dx d e (.ref nd.x) pa root), (dx, dictOf [] 0), (de, dictOf [] 0)] ++ (ext ++ rest)) := fun p hp _ => List.mem_append_right _ (List.mem_append_right _ hp)
  refine ⟨_, c, ⟨lay4, ?_, ?_⟩, kpr, by rw [hc], by rw [hc], by rw [hc]⟩
  · intro m' hm'
    rcases List.mem_cons.mp hm' with rfl | hm'
    · rw [hc]
      have hl : (nd.p ++ [k]).length < 100 := by rw [← hq, List.length_take]; omega
      exact ⟨⟨dx, .head _, .tail _ (.head _)⟩, hpathC.keep0 fun p hp _ => List.mem_append_right _ hp, hl, .tail _ (.tail _ (.head _)), kdict_nil 0, hds, .inl rfl, fun f hf => nomatch hf⟩
    · exact (all_same (nd' := { nd with od := o', kvs := stored nd.kvs k (.ref x) }) (φ := NdOk prog w rest dk root) h.ok (fun o => ⟨o.node, o.path, o.len, o.de, ho', o.sys, o.ty, o.fs⟩) m' hm').mono kpr
  · have cx : c.x = x := by rw [hc]
    have := h.sh.addKid (c := c) (k := k) (o' := o') hk (by rw [hc]) (by rw [hc]) (by rw [hc]) (by rw [hc]) (by rw [hc])
    rw [cx] at this
    exact this.congr fun p => by rw [show c.p = nd.p ++ [k] from by rw [hc]]
end
end Mine

-- TA2
open PySem PySem.W PySem.Calls PyProof.Rows
set_option maxRecDepth 100000
set_option linter.unusedVariables false
namespace Mine
theorem kf_isfn280 {P : Params} : isFn (KH P) (.ref 280) = true := by kernel_rfl
section
variable {prog : Program} {w : World} {A : Around} {h₀ : Heap} {L : Addr} {m : Loc} {nw rest : Led} {mg mb : Loc} {r : Nat} {env : Env} {K : Frag} {dk : Bool} {root : Addr} {T : List Nd} {S : List Key → Prop} {G : List Fa}
theorem KVs.keyAt {items : List Value} {p : List Key} (h : KVs items p) {i : Nat} (hi : i < p.length) : ∃ u, items[i]? = some u ∧ vkey u = some p[i] := by
  have hl := h.length
  obtain ⟨u, hu⟩ : ∃ u, items[i]? = some u := ⟨_, List.getElem?_eq_getElem (by omega)⟩
  obtain ⟨k, hk, hv⟩ := h.get hu
  rw [List.getElem?_eq_getElem hi] at hk
  exact ⟨u, hu, by rw [hv, hk]⟩
theorem Spre_one {S : List Key → Prop} {q p0 : List Key} (h0 : p0 ≠ []) (hp : p0 <+: q) (p : List Key) : Spre (fun p => S p ∨ p = p0) q p ↔ Spre S q p := by
  unfold Spre
  constructor
  · rintro ((h | rfl) | h)
    · exact .inl h
    · exact .inr ⟨h0, hp⟩
    · exact .inr h
  · rintro (h | h)
    · exact .inl (.inl h)
    · exact .inr h
theorem SK_congr {S S' : List Key → Prop} {f : Fa} {kid : Option Fa} (h : ∀ p, Spre S (f.path dk) p ↔ Spre S' (f.path dk) p) (p : List Key) : SK dk S f kid p ↔ SK dk S' f kid p := by
  cases kid with
  | none => exact h p
  | some c => show (Spre S (f.path dk) p ∨ _) ↔ (Spre S' (f.path dk) p ∨ _); rw [h p]
theorem AddPost.congr {S S' : List Key → Prop} {v nw'} (h : AddPost prog w dk root rest S G v nw') (hS : ∀ p, S' p ↔ S p) : AddPost prog w dk root rest S' G v nw' := by
  obtain ⟨e, rest', T', t, k⟩ := h
  exact ⟨e, rest', T', ⟨t.lay, t.ok, t.sh.congr hS⟩, k⟩
abbrev TAdd (prog : Program) (w : World) (mg mb : Loc) (dk : Bool) (root : Addr) (N dT : Nat) (f : Fa) (kid : Option Fa) : Prop := ∀ nw rest T S G, Tr prog w nw rest dk root T S G → FaOk rest f → FaKid rest f kid → G.length < N →
  Fn prog w (KH w.params) mg mb dT (.ref 374) [.ref root, .ref f.x] nw (AddPost prog w dk root rest (SK dk S f kid) (GK G f kid))
theorem t_nadd_step {f : Fa} {kid : Option Fa} {N dT D D' n0 : Nat} (hN : N ≤ 62) (HK : ∀ c, kid = some c → TAdd prog w mg mb dk root (N + 1) dT c none) (hkc : ∀ c, kid = some c → ((c.code &&& 128 : Nat) : Int) = 0)
    (rec : ∀ nw rest T S G (c : Nd), c ∈ T → c.C = 342 → c.p.length = n0 + 1 → c.p <+: f.path dk → c.p.length < (f.path dk).length → Tr prog w nw rest dk root T S G → FaOk rest f → FaKid rest f kid → G.length < N →
      Fn prog w (KH w.params) mg mb D (.ref 331) [.ref c.x, .ref f.x] nw (AddPost prog w dk root rest (SK dk S f kid) (GK G f kid)))
    (hD : D ≤ D') (hD2 : 25 + dT ≤ D') {nd : Nd} (htr : Tr prog w nw rest dk root T S G) (hnd : nd ∈ T) (hn0 : nd.p.length = n0) (hpre : nd.p <+: f.path dk) (hlt : nd.p.length < (f.path dk).length) (hf : FaOk rest f) (hk : FaKid rest f kid) (hG : G.length < N) :
    Fn prog w (KH w.params) mg mb (D' + 1) (.ref 331) [.ref nd.x, .ref f.x] nw (AddPost prog w dk root rest (SK dk S f kid) (GK G f kid)) := by
  obtain ⟨l₁, l₂, rfl⟩ := List.append_of_mem hnd
  have nok := htr.ok nd hnd
  have kr := htr.lay.kp
  obtain ⟨r0, hr0, _, _, _, _, R⟩ := htr.rootAt
  have lq : (f.path dk).length < 100 := by
    obtain ⟨_, _, _, _, _, _, _, _, ⟨_, _, h1⟩, ⟨_, _, h2⟩, _⟩ := id hf
    cases dk <;> assumption
  refine Fn.intro (d := D') (binds := [("self", .ref nd.x), ("error", .ref f.x)]) (by with_unfolding_all exact rfl) (by kernel_rfl) (fun s => BindsTo.of_eq rfl) (locs rfl) (by decide) rfl rfl rfl ?_
  intro r A h₀ L hr M
  obtain ⟨r', rfl⟩ : ∃ r', r = r' + 1 := ⟨r - 1, by omega⟩
  have Nn := nok.node.keep0 kr
  have hC := nok.ty
  -- error_path
  refine sv_assign rfl rfl rfl (ev_path_of M (by omega) hC Nn (R.keep0 kr) hf kr (ex_local rfl rfl rfl rfl) (ex_local rfl rfl rfl rfl)) fun v ⟨pth, ev, hpth⟩ => ?_
  subst ev
  obtain ⟨qs, nq, hq1, hq2⟩ := id hpth
  have hq1' := kr.get hq1
  have lqs := hq2.length
  obtain ⟨u, hu, hvu⟩ := hq2.keyAt hlt
  generalize hk0 : (f.path dk)[nd.p.length] = k0 at hvu
  have htake : (f.path dk).take (nd.p.length + 1) = nd.p ++ [k0] := by
    rw [List.take_add_one, List.getElem?_eq_getElem hlt, hk0, ← List.prefix_iff_eq_take.mp hpre]; rfl
  have hpre2 : nd.p ++ [k0] <+: f.path dk := by rw [← htake]; exact List.take_prefix _ _
  -- key
  refine sv_assign rfl rfl rfl (V := (· = u)) (ev_sub (V := (· = .ref pth)) (V' := VI nd.p.length) (ex_local rfl rfl rfl rfl) (ev_at (ex_local rfl rfl rfl rfl) (nd_depth M (by omega) hC.nc Nn (nok.path.keep0 kr) nok.len)) fun o i ho ⟨t, hi⟩ => by
    subst ho; subst hi; exact run_item_tuple hq1' (by omega) (by have := nok.len; omega) hu ⟨rfl, rfl, rfl⟩) fun v ev => ?_
  subst ev
  have hmem := mem_tled (T := l₁ ++ nd :: l₂) hnd
  have hdm := htr.lay.led _ hmem.1
  -- the child
  refine sx_join (B := fun b => b = !(valueAt nd.kvs k0).isSome) (J := fun m' nw2 => m' "self" = some (.ref nd.x) ∧ m' "error" = some (.ref f.x) ∧ m' "error_path" = some (.ref pth) ∧ m' "key" = some v ∧
      ∃ rest2 T2 S2 nd2 c, Tr prog w nw2 rest2 dk root T2 S2 G ∧ Kp [] rest rest2 ∧ nd2 ∈ T2 ∧ nd2.x = nd.x ∧ nd2.p = nd.p ∧ nd2.C = nd.C ∧ valueAt nd2.kvs k0 = some (.ref c.x) ∧ c ∈ T2 ∧ c.p = nd.p ++ [k0] ∧ (∀ p, Spre S2 (f.path dk) p ↔ Spre S (f.path dk) p))
    (tv_cmp (V := (· = v)) (V' := (· = .ref nd.d)) (ex_local rfl rfl rfl rfl) (ev_at (ex_local rfl rfl rfl rfl) (nd_desc M hC.nc Nn)) fun a b ha hb => by
      subst ha; subst hb; exact Run.mono (rv_dict_notin hdm nok.od nok.sys hvu) fun c m' nw' ⟨e, e1⟩ => ⟨_, e, rfl, e1⟩) (fun hb => ?_) (fun hb => ?_) ?_
  · have hnone : valueAt nd.kvs k0 = none := by simpa using hb.symm
    refine sx_setitem (ov := .ref nd.x) (iv := v) (P := fun v' m' nw' => (m' "self" = some (.ref nd.x) ∧ m' "error" = some (.ref f.x) ∧ m' "error_path" = some (.ref pth) ∧ m' "key" = some v) ∧ ∃ x dx, v' = .ref x ∧ x ≠ dx ∧ x ∉ keys nw ∧ dx ∉ keys nw ∧ Kq [x] ((x, instObj 342 dx) :: (dx, dictOf [] 0) :: nw) nw' ∧ ∃ d e de pa n, ((x, nodeO 342 dx d e (.ref nd.x) pa root) ∈ nw' ∧ (dx, dictOf [] 0) ∈ nw') ∧ PathAt nw' pa ((f.path dk).take (nd.p.length + 1)) ∧
      ((pa = pth ∧ nd.p.length + 1 = (f.path dk).length) ∨ pa ∉ keys ((x, instObj 342 dx) :: (dx, dictOf [] 0) :: nw)) ∧ pa ≠ d ∧ pa ≠ e ∧
      (d, dictOf [] 0) ∈ nw' ∧ (d == sysModules) = false ∧ (e, elObj de [] n) ∈ nw' ∧ (de, dictOf [] 0) ∈ nw' ∧ d ∉ keys ((x, instObj 342 dx) :: (dx, dictOf [] 0) :: nw) ∧ e ∉ keys ((x, instObj 342 dx) :: (dx, dictOf [] 0) :: nw) ∧ de ∉ keys ((x, instObj 342 dx) :: (dx, dictOf [] 0) :: nw) ∧ d ≠ e ∧ d ≠ de ∧ e ≠ de)
      ?_ ?_ ?_ ?_
    · refine ex_callK (P := fun vs m' nw' => vs = [.ref pth, .ref nd.x] ∧ (m' "self" = some (.ref nd.x) ∧ m' "error" = some (.ref f.x) ∧ m' "error_path" = some (.ref pth) ∧ m' "key" = some v) ∧ nw' = nw) M (ex_global M rfl rfl rfl kg_ErrorTreeNode) kk_ErrorTreeNode (args_ev (V := (· = .ref pth)) (ex_local rfl rfl rfl rfl) fun a ea => args_ev (V := (· = .ref nd.x)) (ex_local rfl rfl rfl rfl) fun b eb => args_nil ⟨by rw [ea, eb], ⟨rfl, rfl, rfl, rfl⟩, rfl⟩) ?_
      rintro vs m' nwz ⟨rfl, hm4, hnw⟩
      rw [hnw]
      refine run_new (d := 3) (P := fun x nw' => ∃ dx, x ≠ dx ∧ x ∉ keys nw ∧ dx ∉ keys nw ∧ Kq [x] ((x, instObj 342 dx) :: (dx, dictOf [] 0) :: nw) nw' ∧ ∃ d e de pa n, ((x, nodeO 342 dx d e (.ref nd.x) pa root) ∈ nw' ∧ (dx, dictOf [] 0) ∈ nw') ∧ PathAt nw' pa ((f.path dk).take (nd.p.length + 1)) ∧
        ((pa = pth ∧ nd.p.length + 1 = (f.path dk).length) ∨ pa ∉ keys ((x, instObj 342 dx) :: (dx, dictOf [] 0) :: nw)) ∧ pa ≠ d ∧ pa ≠ e ∧
        (d, dictOf [] 0) ∈ nw' ∧ (d == sysModules) = false ∧ (e, elObj de [] n) ∈ nw' ∧ (de, dictOf [] 0) ∈ nw' ∧ d ∉ keys ((x, instObj 342 dx) :: (dx, dictOf [] 0) :: nw) ∧ e ∉ keys ((x, instObj 342 dx) :: (dx, dictOf [] 0) :: nw) ∧ de ∉ keys ((x, instObj 342 dx) :: (dx, dictOf [] 0) :: nw) ∧ d ≠ e ∧ d ≠ de ∧ e ≠ de)
        M kf_makes_342 kf_init_342 kf_isfn280 (fun x dx hxd fx fdx => ?_) (by omega) (fun x nw' ⟨dx, h⟩ => ⟨hm4, x, dx, rfl, h⟩)
      have kc : Kp [] nw ((x, instObj 342 dx) :: (dx, dictOf [] 0) :: nw) := Kp.cons.trans Kp.cons
      have hxP : nd.x ≠ x := fun e => by
        obtain ⟨dd, n1, _⟩ := Nn
        exact fx (e ▸ keys_mem n1)
      exact (t_node_init hxd (.head _) (.tail _ (.head _)) hxP hC.nc (Nn.keep0 kc) ((nok.path.keep0 kr).keep0 kc) ((hpth.keep0 kr).keep0 kc) (by omega) lq).mono (Nat.le_refl _) fun vv nw2 ⟨e1, e2, e3⟩ => ⟨e1, dx, hxd, fx, fdx, e2, e3⟩
    · rintro v' m' nw' ⟨hm4, _⟩
      exact ex_local rfl rfl rfl hm4.1
    · rintro v' m' nw' ⟨hm4, _⟩
      exact ex_local rfl rfl rfl hm4.2.2.2
    · rintro v' m' nw' ⟨hm4, x, dx, rfl, hxd, fx, fdx, kk, d, e, de, pa, n, ⟨hx, hdx⟩, hpa, hpa2, npd, npe, hd, hds, he, hde, fd, fe, fde, nde, ndde, nede⟩
      have kk0 : Kp [] nw nw' := fun p hp _ => kk.1 p (.tail _ (.tail _ hp)) fun hW => fx (by rw [← List.mem_singleton.mp hW]; exact List.mem_map_of_mem (f := (·.1)) hp)
      refine nd_setitem M (by omega) hC.nc (Nn.keep0 kk0) (kk0.get hdm) nok.od hvu fun o' ho' => sx_nil ⟨rfl, hm4.1, hm4.2.1, hm4.2.2.1, hm4.2.2.2, ?_⟩
      obtain ⟨rest', c, tr', kp', cp, cx, cC⟩ := htr.addKid (k := k0) (o' := o') hnone htake lq hpth fx fdx hxd kk hx hdx hpa hpa2 npd npe hd hds he hde fd fe fde nde ndde nede ho'
      refine ⟨rest', _, _, { nd with od := o', kvs := stored nd.kvs k0 (.ref x) }, c, tr', kp', .tail _ (List.mem_append_right _ (.head _)), rfl, rfl, rfl, ?_, .head _, cp, Spre_one (by simp) hpre2⟩
      show valueAt (stored nd.kvs k0 (.ref x)) k0 = _
      rw [valueAt_stored' hnone, if_pos rfl, cx]
  · have hsome : (valueAt nd.kvs k0).isSome = true := by simpa using hb.symm
    obtain ⟨cv, hcv⟩ := Option.isSome_iff_exists.mp hsome
    obtain ⟨c, hcT, hcp, rfl⟩ := (htr.sh.kids nd hnd k0 cv).mp hcv
    exact sx_nil ⟨rfl, rfl, rfl, rfl, rfl, rest, _, S, nd, c, htr, Kp.refl, hnd, rfl, rfl, rfl, hcv, hcT, hcp, fun p => Iff.rfl⟩
  clear hdm hmem
  rintro m2 nw2 ⟨ms, me, mp, mk, rest2, T2, S2, nd2, c, ht2, kr2, hnd2, ex2, ep2, eC2, hv2, hcT, hcp, hS2⟩
  have nok2 := ht2.ok nd2 hnd2
  have kk2 := ht2.lay.kp
  have N2 := nok2.node.keep0 kk2
  have cok := ht2.ok c hcT
  have hC2 := nok2.ty
  rw [ex2] at N2 hC2
  have hmem2 := mem_tled hnd2
  have hdm2 := ht2.lay.led _ hmem2.1
  have cC : c.C = 342 := (ht2.sh.pars c hcT nd.p k0 hcp).1
  -- node
  refine sv_assign rfl rfl rfl (V := (· = .ref c.x)) (ev_sub (V := (· = .ref nd.x)) (V' := (· = v)) (ex_local rfl rfl rfl ms) (ex_local rfl rfl rfl mk) fun o i ho hi => by
    subst ho; subst hi; exact Run.mono (nd_item M (by omega) hC2.nc N2 hdm2 nok2.od nok2.sys hvu) fun a m' nw' ⟨e, e1⟩ => ⟨by rw [e, hv2]; rfl, e1⟩) fun v' ev => ?_
  subst ev
  have hq1'' := kk2.get (kr2.get hq1)
  have hf2 := hf.keep0 kr2
  have hk2 := hk.keep0 kr2
  have Nc := cok.node.keep0 kk2
  have hcl : c.p.length = nd.p.length + 1 := by rw [hcp]; simp
  refine sv_if (B := fun b => b = decide ((f.path dk).length = nd.p.length + 1)) (tv_cmp (V := VI qs.length) (V' := VI (nd.p.length + 1 : Nat)) (ev_len_tuple M rfl rfl rfl rfl (ex_local rfl rfl rfl mp) hq1'' (by omega)) (ev_binop (V := VI nd2.p.length) (V' := VI 1) (ev_at (ex_local rfl rfl rfl ms) (nd_depth M (by omega) hC2.nc N2 (nok2.path.keep0 kk2) nok2.len)) ex_int fun a b ⟨t, e⟩ ⟨t', e'⟩ => by subst e; subst e'; rw [ep2]; exact rv_add) fun a b ⟨t, e⟩ ⟨t', e'⟩ => by
    subst e; subst e'; exact run_eq_int ⟨_, rfl, by
      rw [lqs]
      by_cases h : (f.path dk).length = nd.p.length + 1
      · rw [h]; simp
      · rw [decide_eq_false h]; exact beq_eq_false_iff_ne.mpr (by omega), rfl, rfl⟩) (fun hb => ?_) (fun hb => ?_)
  · have hlen : (f.path dk).length = nd.p.length + 1 := by simpa using hb.symm
    have hcq : c.p = f.path dk := by rw [hcp, ← htake, ← hlen, List.take_length]
    have hSq : S2 (f.path dk) := (ht2.sh.all _).mpr ⟨c, hcT, hcq⟩
    have hSf : ∀ p, Spre S2 (f.path dk) p ↔ S2 p := fun p => ⟨fun h => h.elim id fun h => ht2.sh.front _ _ rfl hSq _ h.2, .inl⟩
    obtain ⟨a₁, a₂, rfl⟩ := List.append_of_mem hcT
    have hcm := mem_tled (T := a₁ ++ c :: a₂) hcT
    have hce := ht2.lay.led _ hcm.2
    have hcde := kk2.get cok.de
    have hfl : c.fs.length ≤ G.length := by
      rw [(ht2.sh.errs c hcT).length_eq]; exact List.length_filter_le _ _
    -- append
    refine sx_expr (P := fun v m' nw' => v = .none ∧ (m' "self" = some (.ref nd.x) ∧ m' "error" = some (.ref f.x) ∧ m' "node" = some (.ref c.x)) ∧ ∃ n', nw' = setL nw2 c.e (elObj c.de (refs (c.fs ++ [f])) n'))
      (ev_methK (ev_at (ex_local rfl rfl rfl rfl) (nd_errs M cok.ty.nc Nc)) (el_method M hce hcde kf_el_append kf_el_t_append (.inl rfl) ⟨rfl, rfl, rfl⟩)
        (cw_builtin (arg1 (V := (· = .ref f.x)) (ex_local rfl rfl rfl me)) (fun vs m' nwz ⟨v, e1, e2, e3, e4⟩ => by
          subst e1; subst e2; subst e3; rw [e4]
          refine run_el_append M hce (by rw [List.length_map]; omega) fun n' => ⟨rfl, ⟨ms, me, rfl⟩, n', by simp [refs]⟩))) (fun v m3 nw3 ⟨e1, ⟨ms3, me3, mn3⟩, n', e3⟩ => ⟨by rw [e1]; rfl, ?_⟩)
    have ht3 := ht2.addErr (n' := n') (fs' := c.fs ++ [f]) hcq.symm hf2 (List.Perm.refl _)
    rw [← e3] at ht3

    have hcT3 : ({ c with fs := c.fs ++ [f], n := n' } : Nd) ∈ a₁ ++ { c with fs := c.fs ++ [f], n := n' } :: a₂ := List.mem_append_right _ (.head _)
    have hce3 := ht3.lay.led _ (mem_tled hcT3).2
    have kk3 := ht3.lay.kp
    have Nc3 := cok.node.keep0 kk3
    -- sort
    refine sx_expr (P := fun v m' nw' => v = .none ∧ (m' "self" = some (.ref nd.x) ∧ m' "error" = some (.ref f.x)) ∧ ∃ T4, Tr prog w nw' rest2 dk root T4 S2 (f :: G))
      (ev_methK (ev_at (ex_local rfl rfl rfl mn3) (nd_errs M cok.ty.nc Nc3)) (el_method M hce3 (kk3.get cok.de) kf_el_sort kf_el_t_sort (.inl rfl) ⟨rfl, rfl, rfl⟩)
        (cw_builtin0 (run_el_sort M (by omega) hce3 (by simp; omega) (fun o' => faults_of fun g hg => ?_) fun items' n'' hp => ?_))) (fun v m4 nw4 ⟨e1, ⟨ms4, me4⟩, T4, ht4⟩ => ⟨by rw [e1]; rfl, ?_⟩)
    · have hg2 : FaOk rest2 g := (List.mem_append.mp hg).elim (cok.fs g) fun h => by rw [List.mem_singleton.mp h]; exact hf2
      exact hg2.keep0 fun p hp _ => mem_setL_ne (ht3.lay.sub p hp) fun e => ht3.lay.sep p hp (by rw [e]; exact keys_mem (mem_tled hcT3).2)
    · obtain ⟨fs', rfl, hfs'⟩ := perm_refs hp
      exact ⟨rfl, ⟨ms3, me3⟩, _, ht3.setErr hfs'⟩

    have kk4 := ht4.lay.kp
    have hf4 := hf2.keep0 kk4
    have hk4 := hk2.keep0 kk4
    -- a group
    refine sv_if (B := (· = (((f.code &&& 128 : Nat) : Int) != 0))) (tv_is (ev_at (ex_local rfl rfl rfl me4) (ve_is_group M hf4 (by omega)))) (fun hb => ?_) (fun hb => ?_)
    · have hne : ((f.code &&& 128 : Nat) : Int) ≠ 0 := by simpa using hb.symm
      cases kid with
      | none => exact absurd hk hne
      | some cf =>
        obtain ⟨_, el, elde, nI, nE, kE, i1, i2, i3, i4⟩ := hk2
        refine sx_forE (e := el) (de := elde) (refs [cf]) nE (fun i m' nw' => m' "self" = some (.ref nd.x) ∧ (el, elObj elde (refs [cf]) nE) ∈ nw' ∧ ((i = 0 ∧ Tr prog w nw' rest2 dk root T4 S2 (f :: G)) ∨ (i = 1 ∧ AddPost prog w dk root rest2 (SK dk S2 cf none) (GK (f :: G) cf none) .none nw'))) (fun _ _ => False) M rfl rfl rfl
          (ev_at (ex_local rfl rfl rfl me4) (ve_child M hf4 (v := .ref el) (kk4.get i1) (fun _ => rfl) (fun h => absurd h hne) rfl (by omega))) ?_ (fun i m' nw' h => h.2.1) ?_ (fun _ _ h => h.elim) ?_
        · rintro v m' nw' ⟨rfl, rfl, rfl⟩
          exact ⟨rfl, kk4.get i2, ms4, kk4.get i2, .inl ⟨rfl, ht4⟩⟩
        · rintro i u m5 nw5 hu5 ⟨ms5, hel5, h5⟩
          rcases h5 with ⟨rfl, ht5⟩ | ⟨rfl, _⟩
          · obtain rfl : Value.ref cf.x = u := by simpa [refs] using hu5
            have kk5 := ht5.lay.kp
            have N5 : NodeAt nw5 nd.x nd2.C nd2.d nd2.e nd2.par nd2.pa root := by
              have := nok2.node.keep0 kk5
              rw [ex2] at this; exact this
            obtain ⟨r5, hr5, _, hx5, _, hC5, _⟩ := ht5.rootAt
            have NR := (ht5.ok r5 hr5).node.keep0 kk5
            rw [hx5, hC5] at NR
            refine sx_expr (P := fun v m' nw' => m' "self" = some (.ref nd.x) ∧ AddPost prog w dk root rest2 (SK dk S2 cf none) (GK (f :: G) cf none) v nw') (ev_methK (ev_at (ex_local rfl rfl rfl ms5) (nd_root M hC2.nc N5)) (f := .ref 374) (first := [.ref root]) ?_ (cw_K M kk_374 (arg1 (V := (· = .ref cf.x)) (ex_local rfl rfl rfl rfl)) (fun vs m' nwz ⟨v, e1, e2, e3, e4⟩ => by
              subst e1; subst e2; subst e3; rw [e4]
              exact run_call (HK cf rfl nw5 rest2 T4 S2 (f :: G) ht5 i4 (hkc cf rfl) (by simp; omega)) M (by omega) fun v nw' h => ⟨ms5, h⟩))) (fun v m' nw' ⟨hm, h⟩ => ⟨by rw [h.1]; rfl, sx_nil ⟨hm, ?_, .inr ⟨rfl, by have := h.1; subst this; exact h⟩⟩⟩)
            · cases dk with
              | true => exact nd_method M NR kf_add_405 ⟨rfl, rfl, rfl⟩
              | false => exact nd_method M NR kf_add_417 ⟨rfl, rfl, rfl⟩
            · obtain ⟨_, rest', T', t, k⟩ := h
              exact t.lay.kp.get (k.get i2)
          · simp [refs] at hu5
        · rintro m' nw' ⟨_, _, h⟩
          rcases h with ⟨h, _⟩ | ⟨_, h⟩
          · exact absurd h (by simp [refs])
          · refine sx_nil (sx_nil (sx_nil ?_))
            obtain ⟨e, rest', T', t, k⟩ := h
            refine AddPost.congr (S := SK dk S2 cf none) ⟨rfl, rest', T', t, kr2.trans k⟩ fun p => ?_
            show (Spre S (f.path dk) p ∨ _) ↔ (S2 p ∨ _)
            rw [← hS2 p, hSf p]
    · have he : ((f.code &&& 128 : Nat) : Int) = 0 := by simpa using hb.symm
      cases kid with
      | some cf => exact absurd he hk.1
      | none => 
        refine sx_nil (sx_nil (sx_nil (AddPost.congr (S := S2) ⟨rfl, rest2, T4, ht4, kr2⟩ fun p => ?_)))
        show Spre S (f.path dk) p ↔ _
        rw [← hS2 p, hSf p]
  · have hlen : (f.path dk).length ≠ nd.p.length + 1 := by simpa using hb.symm
    refine sx_expr (P := fun v m' nw' => AddPost prog w dk root rest2 (SK dk S2 f kid) (GK G f kid) v nw') (ev_methK (ex_local rfl rfl rfl rfl) (nd_method M Nc (by rw [cC]; exact kf_add_342) ⟨rfl, rfl, rfl⟩) (cw_K M kk_331 (arg1 (V := (· = .ref f.x)) (ex_local rfl rfl rfl me)) (fun vs m' nw' ⟨v, e1, e2, e3, e4⟩ => by
      subst e1; subst e2; subst e3; subst e4
      exact run_call (rec nw' rest2 T2 S2 G c hcT cC (by omega) (by rw [hcp]; exact hpre2) (by omega) ht2 hf2 hk2 hG) M (by omega) fun v nw' h => h))) (fun v m' nw' h => ⟨by rw [h.1]; rfl, sx_nil (sx_nil ?_)⟩)
    obtain ⟨e, rest', T', t, k⟩ := h
    exact AddPost.congr (S := SK dk S2 f kid) ⟨rfl, rest', T', t, kr2.trans k⟩ fun p => (SK_congr hS2 p).symm
end
end Mine

-- TS
open PySem PySem.W PySem.Calls PyProof.Rows
set_option maxRecDepth 100000
set_option linter.unusedVariables false
namespace Mine
section
variable {prog : Program} {w : World} {A : Around} {h₀ : Heap} {L : Addr} {m : Loc} {nw : Led} {mg mb : Loc} {r : Nat} {env : Env} {K : Frag} {c : Code} {α : Type}
/-- where the activation is known -/
def RunAt (prog : Program) (w : World) (A : Around) (c : Code) (h₀ : Heap) (L : Addr) (m : Loc) (nw : Led) (t : Sem α) (P : α → Loc → Led → Prop) : Prop :=
  ∀ os fx s, St h₀ L os m nw fx s → _root_.PySem.wpAt (model prog w) A c t (fun a s' => ∃ m' nw', St h₀ L os m' nw' fx s' ∧ P a m' nw') (fun _ _ => False) s
theorem Run.at {t : Sem α} {P : α → Loc → Led → Prop} (h : Run prog w A h₀ L m nw t P) : RunAt prog w A c h₀ L m nw t P := fun os fx s hs => _root_.PySem.wpAt_of_wpAny (h os fx s hs)
theorem sa_nil {R : Flow → Loc → Led → Prop} (h : R .next m nw) : RunAt prog w A c h₀ L m nw (execs [] env) R := (sx_nil h).at
theorem sa_cons {st rest} {R : Flow → Loc → Led → Prop} (h : RunAt prog w A c h₀ L m nw (exec st env) (fun f m' nw' => match f with | .next => RunAt prog w A c h₀ L m' nw' (execs rest env) R | f => R f m' nw')) : RunAt prog w A c h₀ L m nw (execs (st :: rest) env) R := fun os fx s hs =>
  ks_wpAt_execs_cons (ks_wpAt_mono (h os fx s hs) (fun f s' ⟨m', nw', hs', hc⟩ => by
    cases f with
    | next => exact hc os fx s' hs'
    | brk => exact ⟨m', nw', hs', hc⟩
    | cont => exact ⟨m', nw', hs', hc⟩
    | ret v => exact ⟨m', nw', hs', hc⟩) fun _ _ x => x)
theorem sa_if {test body orelse pos} {B : Bool → Prop} {R : Flow → Loc → Led → Prop} (h : Tv prog w A h₀ L env m nw test B)
    (k1 : B true → RunAt prog w A c h₀ L m nw (execs body env) R) (k2 : B false → RunAt prog w A c h₀ L m nw (execs orelse env) R) : RunAt prog w A c h₀ L m nw (exec (.If test body orelse pos) env) R := fun os fx s hs =>
  ks_wpAt_If (ks_wpAt_mono (Run.at h os fx s hs) (fun b s' ⟨m', nw', hs', hb, e1, e2⟩ => by
    subst e1; subst e2
    cases b with
    | true => exact k1 hb os fx s' hs'
    | false => exact k2 hb os fx s' hs') fun _ _ x => x)
theorem sa_expr {e pos} {P : Value → Loc → Led → Prop} {R : Flow → Loc → Led → Prop} (h : RunAt prog w A c h₀ L m nw (eval e env) P) (k : ∀ v m' nw', P v m' nw' → R .next m' nw')
    (hi : interactive env = false := by rfl) (hs : swapsWith e none pos.line env = pure false := by rfl) : RunAt prog w A c h₀ L m nw (exec (.Expr e pos) env) R := fun os fx s hst =>
  ks_wpAt_Expr_any (ks_wpAt_mono (h os fx s hst) (fun v s' ⟨m', nw', hs', hp⟩ => ⟨m', nw', hs', k v m' nw' hp⟩) fun _ _ x => x) hi hs
theorem FnS.intro {d : Nat} {f cc : Addr} {oc : Value} {od : Option Addr} {osl : Array (Option Value)} {name qual : Str} {params : Arguments} {body : List Stmt} {scope : Scope} {dV kV doc pm cdv ct : Value} {an : Option Addr} {args : List Value} {binds : List (Str × Value)} {P : Value → Led → Prop}
    (ho : K.lookup f = some ⟨oc, od, .func (ksFn name qual params body scope dV kV doc pm an cdv ct cc), osl⟩) (hcd : codeIn K cdv qual = true)
    (hbind : ∀ s, BindsTo s (ksFn name qual params body scope dV kV doc pm an cdv ct cc) ⟨args, []⟩ binds) (hloc : ∀ y ∈ binds, scope.names.lookup y.1 = some .local)
    (hcell : ∀ x ∈ scope.names, x.2 ≠ .cell) (hco : scope.isCoroutine = false) (hgen : scope.isGenerator = false) (hk : scope.kind = .function)
    (h : ∀ r A h₀ L, d ≤ r → Fm K mg mb r A h₀ L → RunAt prog w A (.func body (ksEnv qual scope L f cdv cc)) h₀ L (fun y => binds.reverse.lookup y) nw (execs body (ksEnv qual scope L f cdv cc)) (fun fl _ nw' => P (match fl with | .ret v => v | _ => .none) nw')) :
    Fn prog w K mg mb (d + 1) (.ref f) args nw P := by
  intro r A h₀ L m os fx s hr M hs
  obtain ⟨A₀, base, outer, fe, B, hA, hf, hke⟩ := M.below
  have X : K.In s.heap := hs.inK M
  obtain ⟨r', rfl⟩ : ∃ r', r = r' + 1 := ⟨r - 1, by omega⟩
  obtain ⟨FG, BG, st, lv⟩ := groundX (R := fun res s' => ∃ v nw', res = .ok (.ret v) ∧ St h₀ L os m nw' fx s' ∧ P v nw') B hs.F hs.N hA hf hke
  refine ks_codeAny_call_defAt (fd := ksFn name qual params body scope dV kV doc pm an cdv ct cc) (body := body) (binds := binds) (by have := M.room; omega) (X _ _ ho) rfl (M.gr.nolimit.keeps hs.F.keep) (codeRec_of X hcd) rfl (hbind s) hcell hloc (fun h₁ hns hk₁ => ?_) hco hgen hk
  have M' : Fm K mg mb r' (A.deeper (ksEnv qual scope s.heap.objs.size f cdv cc)) (hideAll s.heap ((nw ++ fx).map (·.1))) s.heap.objs.size := Fm.deeper M BG hA (M.gr.keeps st) rfl hk
  have F' : Fr (hideAll s.heap ((nw ++ fx).map (·.1))) s.heap.objs.size h₁ (fun y => binds.reverse.lookup y) := ⟨hns, fun b o e => hk₁ b o (of_hideAll _ e), Nat.le_of_eq (hideAll_size _ _)⟩
  have N' : News (hideAll s.heap ((nw ++ fx).map (·.1))) s.heap.objs.size h₁ (nw ++ fx) := fun p hp => ⟨hk₁ _ _ (hs.N p hp).1, Nat.ne_of_lt (Heap.lt_size (hs.N p hp).1), hideAll_none _ (List.mem_map_of_mem hp)⟩
  refine ks_wpAt_mono (h r' _ _ s.heap.objs.size (by omega) M' os fx _ ⟨F', N', hs.D, hs.os, hs.bare⟩) (fun fl s' ⟨m', nw', hs', hp⟩ => ?_) fun _ _ x => x.elim
  exact lv _ _ ⟨_, m', nw' ++ fx, hs'.F, hs'.N, fun F N => ⟨_, nw', rfl, ⟨F, N, hs'.D, hs'.os, hs'.bare⟩, hp⟩⟩
structure PG (prog : Program) : Prop where
  file : ((prog.main.file : Str) == ("/claim/cut.py" : Str)) = true
  top : (prog.main.scope.names.lookup ("super" : Str)).isSome = false
end
end Mine

-- TS2
open PySem PySem.W PySem.Calls PyProof.Rows
set_option maxRecDepth 100000
set_option linter.unusedVariables false
namespace Mine
section
variable {P : Params}
theorem ks_sup_405 : ks_superIn (KH P) 405 391 "add" = some (some (.ref 331)) := by kernel_rfl
theorem ks_sup_417 : ks_superIn (KH P) 417 391 "add" = some (some (.ref 331)) := by kernel_rfl
theorem kg_tp : nsIn (KH P) cStatics "thirdparty.any" = some none := by kernel_rfl
theorem kf_mro_405 : mroIn (KH P) 405 (.ref 391) = some true := by kernel_rfl
theorem kf_mro_417 : mroIn (KH P) 417 (.ref 391) = some true := by kernel_rfl
theorem kf_ty331 : typeIn (KH P) (.ref 331) = some (.type "function") := by kernel_rfl
theorem kf_fn331 : fnIn (KH P) 331 = true := by kernel_rfl
theorem kf_cls391 : (clsIn (KH P) 391).isSome = true := by kernel_rfl
theorem pg_ : PG Challenge.rw_bc6001_01.row.prog := ⟨by kernel_rfl, by kernel_rfl⟩
end
section
variable {prog : Program} {w : World} {A : Around} {h₀ : Heap} {L : Addr} {m : Loc} {nw rest : Led} {mg mb : Loc} {r : Nat} {env : Env} {K : Frag} {dk : Bool} {root : Addr} {T : List Nd} {S : List Key → Prop} {G : List Fa}
theorem run_truthy_tuple {a : Addr} {items : List Value} {n : Nat} {Q : Bool → Loc → Led → Prop} (ha : (a, tupO items n) ∈ nw) (hz : items.length < 1000) (h : Q (!items.isEmpty) m nw) : Run prog w A h₀ L m nw (truthy (.ref a)) Q := fun os fx s hs =>
  truthy_tuple (items := items.toArray) ⟨_, hs.get ha, rfl, n, rfl⟩ (by rw [List.size_toArray]; omega) ⟨m, nw, hs.toks, by
    have e : items.toArray.isEmpty = items.isEmpty := by simp
    rw [e]; exact h⟩
/-- super().name(e) -/
theorem sa_super {body : List Stmt} {q : Str} {scope : Scope} {f cda cc x D C f2 : Addr} {p0 p1 apos pos : Pos} {name : Str} {e : Expr} {fd : FuncData} {ar : Arg} {vs : Array Value} {file : Str} {tf : Tok} {oc ccl cl : Value} {od cdd cld : Option Addr} {osl ccs csl : Array (Option Value)} {ox oxd : Obj} {V : Value → Prop} {Q : Value → Loc → Led → Prop}
    (HP : PG prog) (M : Fm K mg mb r A h₀ L) (hf : K.lookup f = some ⟨oc, od, .func fd, osl⟩) (hp : (fd.params.posonlyargs ++ fd.params.args).head? = some ar) (hv : m ar.arg = some (.ref x)) (I : Ins K nw x C ox oxd)
    (hcode : K.lookup cda = some ⟨ccl, cdd, .fields vs, ccs⟩) (hvs : vs[2]? = some (.str file tf)) (hfile : file = "/claim/cut.py")
    (hcell : K.lookup cc = some ⟨cl, cld, .cell (some (.ref D)), csl⟩) (hD : (clsIn K D).isSome = true) (hsub : mroIn K C (.ref D) = some true) (hsuper : nsIn K mainGlobals "super" = some none) (htp : nsIn K cStatics "thirdparty.any" = some none)
    (hks : scope.names.lookup ("super" : Str) = some .globalImplicit) (hkc : scope.names.lookup ("__class__" : Str) = some .free) (hka : scope.names.lookup ar.arg = some .local) (hk : scope.kind = .function)
    (hat : (name == ("__class__" : Str)) = false) (hm : ks_superIn K C D name = some (some (.ref f2))) (ht : typeIn K (.ref f2) = some (.type "function")) (hfn : fnIn K f2 = true)
    (he : ∀ nw', Kp [] nw nw' → Ev prog w A h₀ L (ksEnv q scope L f (.ref cda) cc) m nw' e V)
    {d : Nat} {P : Value → Led → Prop} (k : ∀ v nw', V v → Kp [] nw nw' → Fn prog w K mg mb d (.ref f2) [.ref x, v] nw' P) (hd : d ≤ r) (kq : ∀ v nw', P v nw' → Q v m nw')
    (hev : ∃ pl, eval (.Call (.Attribute (.Call (.Name "super" p0) [] [] p1) name apos) [e] [] pos) (ksEnv q scope L f (.ref cda) cc) = (do
      let ov ← attributeBase (.Call (.Name "super" p0) [] [] p1) name (ksEnv q scope L f (.ref cda) cc) (eval (.Call (.Name "super" p0) [] [] p1) (ksEnv q scope L f (.ref cda) cc))
      standAt apos.atName
      let (g1, first) ← holding [ov] (getMethod ov name pl)
      callWith pos g1 first (backTo pos (starEach [e] (ksEnv q scope L f (.ref cda) cc))) []) := by exact ⟨_, rfl⟩)
    (hs : starEach [e] (ksEnv q scope L f (.ref cda) cc) = [(false, eval e (ksEnv q scope L f (.ref cda) cc))] := by rfl) :
    RunAt prog w A (.func body (ksEnv q scope L f (.ref cda) cc)) h₀ L m nw (eval (.Call (.Attribute (.Call (.Name "super" p0) [] [] p1) name apos) [e] [] pos) (ksEnv q scope L f (.ref cda) cc)) Q := fun os fx s hst => by
  obtain ⟨pl, hev⟩ := hev
  have X := hst.inK M
  have I' := I.inst hst M
  have F := hst.F
  have N := hst.N
  obtain ⟨cdD, hD⟩ := Option.isSome_iff_exists.mp hD
  have G0 := M.gr
  subst hfile
  refine ks_wpAt_MethodCall (pl := pl) ?_ hev
  obtain ⟨hh, g, dr, t, os'⟩ := s
  obtain ⟨oD, hD1, hD2⟩ : ∃ oD, hh.get? D = some oD ∧ oD.data = .cls cdD := by
    unfold clsIn at hD
    split at hD
    · rename_i c d cd' sl ho
      cases hD
      exact ⟨_, X _ _ ho, rfl⟩
    · cases hD
  refine ks_wpAt_super_base (env := ksEnv q scope L f (.ref cda) cc) hks hkc hat rfl (X _ _ hf) rfl hp rfl (X _ _ hcode) rfl hvs HP.file HP.top ?_
  refine ks_loadName_global hk hks (loadGlobal_builtin (env := ksEnv q scope L f (.ref cda) cc) (G0.g.keeps F.keep) (mg_none_of G0.X G0.g hsuper) (G0.b.keeps F.keep) ((G0.bi _ (by decide +kernel)).trans (by first | rfl | kernel_rfl)) ⟨rfl, ?_⟩)
  refine wpAny_loadName_free hk hkc rfl ⟨_, X _ _ hcell, rfl⟩ ?_
  refine wpAny_loadName_local hk hka F.ns hv ?_
  refine ks_wpAny_isType_cls hD1 hD2 ⟨rfl, ?_⟩
  refine ks_wpAny_call_super hD1 hD2 I'.at_ I'.cls (fun c e => ?_) (looks_mroIn X hsub) (fun h' e k' => ?_)
  · have := I'.no
    unfold notCls at this
    rw [e] at this
    exact Bool.noConfusion this
  · have hgrow := hst.grow (tk := t) k'
    obtain ⟨F', N', l'⟩ := ks_newsPush (s := ⟨hh, g, dr, t, os'⟩) F N rfl e k'
    have hst2 : St h₀ L os m ((hh.objs.size, ks_superObj D x C) :: nw) fx ⟨h', g, dr, t, os'⟩ := by
      refine ⟨F', N', ?_, hst.os, hst.bare⟩
      rw [List.cons_append, List.map_cons, List.nodup_cons]
      refine ⟨fun hmm => ?_, hst.D⟩
      obtain ⟨p, hp, e⟩ := List.mem_map.mp hmm
      exact absurd (l' p hp) (by rw [e]; exact Nat.lt_irrefl _)
    have I2 := (I.keep0 (Kp.cons (p := (hh.objs.size, ks_superObj D x C)))).inst hst2 M
    refine ks_method F' M.gr.X N' (.head _) I2 htp hm ht hat fun mq h3 F3 N3 l3 => ?_
    have hst3 : St h₀ L os m ((mq, methodObj (.ref f2) (.ref x)) :: (hh.objs.size, ks_superObj D x C) :: nw) fx ⟨h3, g, dr, t + 1, os'⟩ := by
      refine ⟨F3, N3, ?_, hst.os, hst.bare⟩
      rw [List.cons_append, List.map_cons, List.nodup_cons]
      refine ⟨fun hmm => ?_, hst2.D⟩
      obtain ⟨p, hp, e⟩ := List.mem_map.mp hmm
      exact absurd (l3 p hp) (by rw [e]; exact Nat.lt_irrefl _)
    have kp : Kp [] nw ((mq, methodObj (.ref f2) (.ref x)) :: (hh.objs.size, ks_superObj D x C) :: nw) := Kp.cons.trans Kp.cons
    refine callWith_M (K := K) M.gr.X N3 (.head _) hfn ?_ hs rfl
    refine wpAny_mono (arg1 (he _ kp) hs os fx _ hst3) (fun vs s₁ ⟨m1, nw1, hs1, v, e1, hV, e2, e3⟩ => ?_) fun _ _ x => x
    subst e1; subst e2; subst e3
    refine ⟨⟨hs1.get (.head _), hs1.inK M⟩, ?_⟩
    refine call_meth (N := hs1.N) (.head _) ?_
    exact codeAny_mono (k v _ hV kp r A h₀ L _ os fx s₁ hd M hs1) fun _ _ ⟨v', nw', e, x, y⟩ => by subst e; exact ⟨_, nw', x, kq _ _ y⟩
end
end Mine

-- TS3
open PySem PySem.W PySem.Calls PyProof.Rows
set_option maxRecDepth 100000
set_option linter.unusedVariables false
namespace Mine
section
variable {prog : Program} {w : World} {A : Around} {h₀ : Heap} {L : Addr} {m : Loc} {nw rest : Led} {mg mb : Loc} {r : Nat} {env : Env} {K : Frag} {dk : Bool} {root : Addr} {T : List Nd} {S : List Key → Prop} {G : List Fa}
theorem t_nadd {f : Fa} {kid : Option Fa} {N dT : Nat} (hN : N ≤ 62) (HK : ∀ c, kid = some c → TAdd prog w mg mb dk root (N + 1) dT c none) (hkc : ∀ c, kid = some c → ((c.code &&& 128 : Nat) : Int) = 0) :
    ∀ k nw rest T S G (nd : Nd), (f.path dk).length - nd.p.length = k + 1 → Tr prog w nw rest dk root T S G → nd ∈ T → nd.p <+: f.path dk → FaOk rest f → FaKid rest f kid → G.length < N →
      Fn prog w (KH w.params) mg mb (k + 26 + dT) (.ref 331) [.ref nd.x, .ref f.x] nw (AddPost prog w dk root rest (SK dk S f kid) (GK G f kid)) := by
  intro k
  induction k with
  | zero =>
    intro nw rest T S G nd hk htr hnd hpre hf hkid hG
    exact (t_nadd_step (D := 0) (D' := 25 + dT) (n0 := nd.p.length) hN HK hkc (fun nw rest T S G c _ _ h1 _ h2 => absurd h2 (by omega)) (Nat.zero_le _) (Nat.le_refl _) htr hnd rfl hpre (by omega) hf hkid hG).mono (by omega) fun _ _ h => h
  | succ k ih =>
    intro nw rest T S G nd hk htr hnd hpre hf hkid hG
    exact (t_nadd_step (D := k + 26 + dT) (D' := k + 26 + dT) (n0 := nd.p.length) hN HK hkc (fun nw rest T S G c hc _ h1 h3 h2 htr' hf' hk' hG' => ih nw rest T S G c (by omega) htr' hc h3 hf' hk' hG') (Nat.le_refl _) (by omega) htr hnd rfl hpre (by omega) hf hkid hG).mono (by omega) fun _ _ h => h
theorem t_tadd {f : Fa} {kid : Option Fa} {N dT : Nat} (HP : PG prog) (hN : N ≤ 62) (HK : ∀ c, kid = some c → TAdd prog w mg mb dk root (N + 1) dT c none) (hkc : ∀ c, kid = some c → ((c.code &&& 128 : Nat) : Int) = 0)
    (hne : ∀ c, kid = some c → f.path dk ≠ []) (hl : (f.path dk).length ≤ 5) : TAdd prog w mg mb dk root N (31 + dT) f kid := by
  intro nw rest T S G htr hf hkid hG
  obtain ⟨nd, hnd, hp0, hx0, hpar0, hC0, R⟩ := htr.rootAt
  obtain ⟨l₁, l₂, rfl⟩ := List.append_of_mem hnd
  have nok := htr.ok nd hnd
  have kr := htr.lay.kp
  have Nn := nok.node.keep0 kr
  rw [hx0, hC0] at Nn
  have hC : TypeOk dk (rootC dk) root root := .inr ⟨rfl, rfl⟩
  have main : ∀ r A h₀ L (m : Loc), 30 + dT ≤ r → Fm (KH w.params) mg mb r A h₀ L → ∀ nw', Kp [] nw nw' → f.path dk ≠ [] → Fn prog w (KH w.params) mg mb (30 + dT) (.ref 331) [.ref root, .ref f.x] nw' (AddPost prog w dk root rest (SK dk S f kid) (GK G f kid)) := by
    intro r A h₀ L m hr M nw' kp hq
    have hlen : 0 < (f.path dk).length := List.length_pos_iff.mpr hq
    have := t_nadd (f := f) hN HK hkc ((f.path dk).length - 1) nw' rest _ S G nd (by rw [hp0]; simp; omega) (htr.keep kp) hnd (by rw [hp0]; exact List.nil_prefix) hf hkid hG
    rw [hx0] at this
    exact this.mono (by omega) fun _ _ h => h
  refine (FnS.intro (d := 30 + dT) (binds := [("self", .ref root), ("error", .ref f.x)]) (by with_unfolding_all exact rfl) (by kernel_rfl) (fun s => BindsTo.of_eq rfl) (locs rfl) (by decide) rfl rfl rfl ?_).mono (by omega) fun _ _ h => h
  intro r A h₀ L hr M
  refine sa_cons (sa_if (B := fun b => b = decide (f.path dk = [])) (tv_not (B' := fun b => b = decide (f.path dk ≠ [])) (tx_val (ev_path_of M (by omega) hC Nn (R.keep0 kr) hf kr (ex_local rfl rfl rfl rfl) (ex_local rfl rfl rfl rfl)) fun v m' nw' ⟨⟨a, e, ha⟩, e1, e2⟩ => ?_) fun b e => by rw [e]; by_cases h : f.path dk = [] <;> simp [h]) (fun hb => ?_) (fun hb => ?_))
  · subst e; subst e1; subst e2
    obtain ⟨qs, nq, hq1, hq2⟩ := ha
    have lq := hq2.length
    refine run_truthy_tuple (kr.get hq1) (by omega) ⟨?_, rfl, rfl⟩
    by_cases h : f.path dk = []
    · rw [h] at lq
      have : qs = [] := List.length_eq_zero_iff.mp lq
      simp [h, this]
    · have : qs ≠ [] := fun e => h (List.length_eq_zero_iff.mp (by rw [← lq, e]; rfl))
      simp [h, this]
  · have hq : f.path dk = [] := by simpa using hb.symm
    have hkn : kid = none := by
      cases kid with
      | none => rfl
      | some c => exact absurd hq (hne c rfl)
    subst hkn
    refine Run.at ?_
    have hcm := mem_tled (T := l₁ ++ nd :: l₂) hnd
    have hce := htr.lay.led _ hcm.2
    have hcde := kr.get nok.de
    have hfl : nd.fs.length ≤ G.length := by
      rw [(htr.sh.errs nd hnd).length_eq]; exact List.length_filter_le _ _
    refine sx_expr (P := fun v m' nw' => v = .none ∧ (m' "self" = some (.ref root)) ∧ ∃ n', nw' = setL nw nd.e (elObj nd.de (refs (nd.fs ++ [f])) n'))
      (ev_methK (ev_at (ex_local rfl rfl rfl rfl) (nd_errs M (rootC_nc dk) Nn)) (el_method M hce hcde kf_el_append kf_el_t_append (.inl rfl) ⟨rfl, rfl, rfl⟩)
        (cw_builtin (arg1 (V := (· = .ref f.x)) (ex_local rfl rfl rfl rfl)) (fun vs m' nwz ⟨v, e1, e2, e3, e4⟩ => by
          subst e1; subst e2; subst e3; rw [e4]
          refine run_el_append M hce (by rw [List.length_map]; omega) fun n' => ⟨rfl, rfl, n', by simp [refs]⟩))) (fun v m3 nw3 ⟨e1, ms3, n', e3⟩ => ⟨by rw [e1]; rfl, ?_⟩)
    have ht3 := htr.addErr (n' := n') (fs' := nd.fs ++ [f]) (by rw [hq, hp0]) hf (List.Perm.refl _)
    rw [← e3] at ht3
    have hcT3 : ({ nd with fs := nd.fs ++ [f], n := n' } : Nd) ∈ l₁ ++ { nd with fs := nd.fs ++ [f], n := n' } :: l₂ := List.mem_append_right _ (.head _)
    have hce3 := ht3.lay.led _ (mem_tled hcT3).2
    have kk3 := ht3.lay.kp
    have Nc3 := nok.node.keep0 kk3
    rw [hx0, hC0] at Nc3
    refine sx_expr (P := fun v m' nw' => v = .none ∧ ∃ T4, Tr prog w nw' rest dk root T4 S (f :: G))
      (ev_methK (ev_at (ex_local rfl rfl rfl ms3) (nd_errs M (rootC_nc dk) Nc3)) (el_method M hce3 (kk3.get nok.de) kf_el_sort kf_el_t_sort (.inl rfl) ⟨rfl, rfl, rfl⟩)
        (cw_builtin0 (run_el_sort M (by omega) hce3 (by simp; omega) (fun o' => faults_of fun g hg => ?_) fun items' n'' hp => ?_))) (fun v m4 nw4 ⟨e1, T4, ht4⟩ => ⟨by rw [e1]; rfl, ?_⟩)
    · have hg2 : FaOk rest g := (List.mem_append.mp hg).elim (nok.fs g) fun h => by rw [List.mem_singleton.mp h]; exact hf
      exact hg2.keep0 fun p hp _ => mem_setL_ne (ht3.lay.sub p hp) fun e => ht3.lay.sep p hp (by rw [e]; exact keys_mem (mem_tled hcT3).2)
    · obtain ⟨fs', rfl, hfs'⟩ := perm_refs hp
      exact ⟨rfl, _, ht3.setErr hfs'⟩
    refine sx_nil (sa_nil (AddPost.congr (S := S) ⟨rfl, rest, T4, ht4, Kp.refl⟩ fun p => ?_))
    show Spre S (f.path dk) p ↔ S p
    rw [hq]
    exact ⟨fun h => h.elim id fun h => absurd (List.prefix_nil.mp h.2) h.1, .inl⟩
  · have hq : f.path dk ≠ [] := by simpa using hb.symm
    obtain ⟨ox, I, _⟩ := Nn.ins (K := KH w.params)
    refine sa_cons (sa_expr (P := fun v m' nw' => AddPost prog w dk root rest (SK dk S f kid) (GK G f kid) v nw') ?_ fun v m' nw' h => sa_nil (sa_nil (by have := h.1; subst this; exact h)))
    cases dk with
    | true => exact sa_super (x := root) (C := 405) (D := 391) (f2 := 331) (V := (· = .ref f.x)) HP M (by with_unfolding_all exact rfl) (by with_unfolding_all exact rfl) rfl I (by with_unfolding_all exact rfl) (by with_unfolding_all exact rfl) rfl (by with_unfolding_all exact rfl) kf_cls391 kf_mro_405 kb_super kg_tp rfl rfl rfl rfl (by decide +kernel) ks_sup_405 kf_ty331 kf_fn331 (fun nw' kp => ex_local rfl rfl rfl rfl) (fun v nw' e kp => by subst e; exact main r A h₀ L (fun _ => none) hr M nw' kp hq) hr (fun v nw' h => h)
    | false => exact sa_super (x := root) (C := 417) (D := 391) (f2 := 331) (V := (· = .ref f.x)) HP M (by with_unfolding_all exact rfl) (by with_unfolding_all exact rfl) rfl I (by with_unfolding_all exact rfl) (by with_unfolding_all exact rfl) rfl (by with_unfolding_all exact rfl) kf_cls391 kf_mro_417 kb_super kg_tp rfl rfl rfl rfl (by decide +kernel) ks_sup_417 kf_ty331 kf_fn331 (fun nw' kp => ex_local rfl rfl rfl rfl) (fun v nw' e kp => by subst e; exact main r A h₀ L (fun _ => none) hr M nw' kp hq) hr (fun v nw' h => h)
end
end Mine

-- TI
open PySem PySem.W PySem.Calls PyProof.Rows
set_option maxRecDepth 100000
set_option linter.unusedVariables false
namespace Mine
section
variable {P : Params} {C : Addr}
theorem kf_set_descendants (hC : IsNC C) : SlotSet (KH P) C "descendants" 0 := by rcases hC with rfl | rfl | rfl; exact kf_set_descendants_342; exact kf_set_descendants_405; exact kf_set_descendants_417
theorem kf_set_errors (hC : IsNC C) : SlotSet (KH P) C "errors" 1 := by rcases hC with rfl | rfl | rfl; exact kf_set_errors_342; exact kf_set_errors_405; exact kf_set_errors_417
theorem kf_set_parent_node (hC : IsNC C) : SlotSet (KH P) C "parent_node" 2 := by rcases hC with rfl | rfl | rfl; exact kf_set_parent_node_342; exact kf_set_parent_node_405; exact kf_set_parent_node_417
theorem kf_set_path (hC : IsNC C) : SlotSet (KH P) C "path" 3 := by rcases hC with rfl | rfl | rfl; exact kf_set_path_342; exact kf_set_path_405; exact kf_set_path_417
theorem kf_set_tree_root (hC : IsNC C) : SlotSet (KH P) C "tree_root" 4 := by rcases hC with rfl | rfl | rfl; exact kf_set_tree_root_342; exact kf_set_tree_root_405; exact kf_set_tree_root_417
theorem kf_makes_405 : makesIn (KH P) 405 = true := by kernel_rfl
theorem kf_makes_417 : makesIn (KH P) 417 = true := by kernel_rfl
theorem kf_init_405 : findIn (KH P) (.ref 405) "__init__" = some (some (.ref 366)) := by kernel_rfl
theorem kf_init_417 : findIn (KH P) (.ref 417) "__init__" = some (some (.ref 366)) := by kernel_rfl
theorem kf_isfn366 : isFn (KH P) (.ref 366) = true := by kernel_rfl
end
abbrev Fk := Fa × Option Fa
def Sall (dk : Bool) (l : List Fk) : List Key → Prop := l.foldl (fun S p => SK dk S p.1 p.2) (fun p => p = [])
def Gall (l : List Fk) : List Fa := l.foldl (fun G p => GK G p.1 p.2) []
theorem Gall_len (l : List Fk) : (Gall l).length ≤ 2 * l.length := by
  have : ∀ (l : List Fk) (G : List Fa), (l.foldl (fun G p => GK G p.1 p.2) G).length ≤ G.length + 2 * l.length := by
    intro l
    induction l with
    | nil => intro G; simp
    | cons a l ih =>
      intro G
      have := ih (GK G a.1 a.2)
      have h2 : (GK G a.1 a.2).length ≤ G.length + 2 := by
        unfold GK; split <;> simp
      simp only [List.foldl_cons, List.length_cons]
      omega
  have := this l []
  simpa [Gall] using this
structure FkOk (nw : Led) (dk : Bool) (p : Fk) : Prop where
  f : FaOk nw p.1
  k : FaKid nw p.1 p.2
  plain : ∀ c, p.2 = some c → ((c.code &&& 128 : Nat) : Int) = 0
  ne : ∀ c, p.2 = some c → p.1.path dk ≠ []
  lf : (p.1.path dk).length ≤ 5
  lc : ∀ c, p.2 = some c → (c.path dk).length ≤ 5
section
variable {prog : Program} {w : World} {A : Around} {h₀ : Heap} {L : Addr} {m : Loc} {nw rest : Led} {mg mb : Loc} {r : Nat} {env : Env} {K : Frag} {dk : Bool} {root : Addr} {T : List Nd} {S : List Key → Prop} {G : List Fa}
theorem Fn.introD {d : Nat} {f : Addr} {oc : Value} {od : Option Addr} {osl : Array (Option Value)} {name qual : Str} {params : Arguments} {body : List Stmt} {scope : Scope} {dV kV doc pm cdv ct : Value} {an : Option Addr} {args : List Value} {binds : List (Str × Value)} {P : Value → Led → Prop}
    (ho : K.lookup f = some ⟨oc, od, .func (fnOf name qual params body scope dV kV doc pm an cdv ct), osl⟩) (hcd : codeIn K cdv qual = true)
    (hbind : ∀ s, K.In s.heap → BindsTo s (fnOf name qual params body scope dV kV doc pm an cdv ct) ⟨args, []⟩ binds) (hloc : ∀ y ∈ binds, scope.names.lookup y.1 = some .local)
    (hcell : ∀ x ∈ scope.names, x.2 ≠ .cell) (hco : scope.isCoroutine = false) (hgen : scope.isGenerator = false) (hk : scope.kind = .function)
    (h : ∀ r A h₀ L, d ≤ r → Fm K mg mb r A h₀ L → Run prog w A h₀ L (fun y => binds.reverse.lookup y) nw (execs body (envX qual scope L f cdv [])) (fun fl _ nw' => P (match fl with | .ret v => v | _ => .none) nw')) :
    Fn prog w K mg mb (d + 1) (.ref f) args nw P := by
  intro r A h₀ L m os fx s hr M hs
  obtain ⟨A₀, base, outer, fe, B, hA, hf, hke⟩ := M.below
  have X : K.In s.heap := hs.inK M
  obtain ⟨r', rfl⟩ : ∃ r', r = r' + 1 := ⟨r - 1, by omega⟩
  refine callX_plain (cl := []) B hs.F hs.N M.gr.nolimit hA hf hke (X _ _ ho) rfl (codeRec_of X hcd) (by have := M.room; omega) (hbind s X) hloc (fun g L' h₁ FG F' N' BG st _ => ?_) hcell hco hgen hk
  have M' : Fm K mg mb r' (A.deeper (envX qual scope L' f cdv [])) g L' := Fm.deeper M BG hA (M.gr.keeps st) rfl hk
  refine wpAny_mono (h r' _ g L' (by omega) M' os fx _ ⟨F', N', hs.D, hs.os, hs.bare⟩) (fun fl s' ⟨m', nw', hs', hp⟩ => ?_) fun _ _ x => x.elim
  exact ⟨L', m', nw' ++ fx, hs'.F, hs'.N, fun F N => ⟨_, nw', rfl, ⟨F, N, hs'.D, hs'.os, hs'.bare⟩, hp⟩⟩

theorem tadd_of {p : Fk} {N : Nat} (HP : PG prog) (hN : N + 1 ≤ 62) (h : FkOk nw dk p) : TAdd prog w mg mb dk root N 62 p.1 p.2 := by
  have := t_tadd (w := w) (mg := mg) (mb := mb) (root := root) (N := N) (dT := 31) (f := p.1) (kid := p.2) (dk := dk) HP (by omega) (fun c hc => by
    have := t_tadd (w := w) (mg := mg) (mb := mb) (root := root) (N := N + 1) (dT := 0) (f := c) (kid := none) (dk := dk) HP (by omega) (fun c h => by cases h) (fun c h => by cases h) (fun c h => by cases h) (h.lc c hc)
    exact this) h.plain h.ne h.lf
  exact this
theorem setL_skip {a d : Addr} {o o' : Obj} {r : Led} (h : a ≠ d) : setL ((a, o) :: r) d o' = (a, o) :: setL r d o' := by rw [setL, if_neg h]
theorem setL_here {d : Addr} {o o' : Obj} {r : Led} : setL ((d, o) :: r) d o' = (d, o') :: r := by rw [setL, if_pos rfl]
theorem Tr.start {x dx d e de pa : Addr} {n : Nat} (hn : (keys ((d, dictOf [] 0) :: (e, elObj de [] n) :: (de, dictOf [] 0) :: (pa, tupO [] 0) :: (x, nodeO (rootC dk) dx d e .none pa x) :: (dx, dictOf [] 0) :: nw)).Nodup) (hds : (d == sysModules) = false) :
    Tr prog w ((d, dictOf [] 0) :: (e, elObj de [] n) :: (de, dictOf [] 0) :: (pa, tupO [] 0) :: (x, nodeO (rootC dk) dx d e .none pa x) :: (dx, dictOf [] 0) :: nw) ((de, dictOf [] 0) :: (pa, tupO [] 0) :: (x, nodeO (rootC dk) dx d e .none pa x) :: (dx, dictOf [] 0) :: nw) dk x
      [{ x := x, d := d, e := e, de := de, pa := pa, C := rootC dk, par := .none, p := [], od := dictOf [] 0, kvs := [], fs := [], n := n }] (fun p => p = []) [] := by
  have kt : keys (tled [({ x := x, d := d, e := e, de := de, pa := pa, C := rootC dk, par := .none, p := [], od := dictOf [] 0, kvs := [], fs := [], n := n } : Nd)]) = [d, e] := rfl
  have hn' : (d :: e :: keys ((de, dictOf [] 0) :: (pa, tupO [] 0) :: (x, nodeO (rootC dk) dx d e .none pa x) :: (dx, dictOf [] 0) :: nw)).Nodup := hn
  rw [List.nodup_cons, List.nodup_cons] at hn'
  obtain ⟨h1, h2, h3⟩ := hn'
  refine ⟨⟨fun p hp => ?_, ?_, fun p hp => .tail _ (.tail _ hp), fun p hp => ?_⟩, fun nd hnd => ?_, ⟨?_, ?_, ?_, ?_, ?_, ?_, ?_⟩⟩
  · rcases List.mem_cons.mp hp with rfl | hp
    · exact .head _
    · obtain rfl := List.mem_singleton.mp hp
      exact .tail _ (.head _)
  · rw [kt]
    simp only [List.nodup_cons, List.mem_singleton, List.not_mem_nil, not_false_eq_true, List.nodup_nil, and_true]
    exact fun z => h1 (by rw [z]; exact .head _)
  · rw [kt]
    have hpk := List.mem_map_of_mem (f := (·.1)) hp
    rw [List.mem_cons, List.mem_singleton]
    rintro (z | z)
    · exact h1 (z ▸ .tail _ hpk)
    · exact h2 (z ▸ hpk)
  · obtain rfl := List.mem_singleton.mp hnd
    exact ⟨⟨dx, .tail _ (.tail _ (.head _)), .tail _ (.tail _ (.tail _ (.head _)))⟩, ⟨[], 0, .tail _ (.head _), rfl⟩, (show 0 < 100 by decide), .head _, kdict_nil 0, hds, .inr ⟨rfl, rfl⟩, fun f hf => nomatch hf⟩
  · simp
  · exact ⟨_, .head _, rfl, rfl, rfl, rfl⟩
  · exact fun p => ⟨fun h => ⟨_, .head _, h.symm⟩, fun ⟨nd, hnd, e⟩ => by obtain rfl := List.mem_singleton.mp hnd; exact e.symm⟩
  · intro nd hnd k v
    obtain rfl := List.mem_singleton.mp hnd
    constructor
    · intro h; cases h
    · rintro ⟨c, hc, e, _⟩
      obtain rfl := List.mem_singleton.mp hc
      cases e
  · intro nd hnd q k e
    obtain rfl := List.mem_singleton.mp hnd
    exact absurd (congrArg List.length e) (by simp)
  · intro nd hnd
    obtain rfl := List.mem_singleton.mp hnd
    exact List.Perm.refl _
  · exact fun f hf => nomatch hf
theorem t_tree_init {x dx made : Addr} {nM : Nat} {fl : List Fk} (HP : PG prog) (hxd : x ≠ dx) (fx : x ∉ keys nw) (fdx : dx ∉ keys nw) (hmade : (made, listOf (refs (fl.map (·.1))).toArray nM) ∈ nw) (hfl : ∀ p ∈ fl, FkOk nw dk p) (hl : fl.length ≤ 5) :
    Fn prog w (KH w.params) mg mb 64 (.ref 366) [.ref x, .ref made] ((x, instObj (rootC dk) dx) :: (dx, dictOf [] 0) :: nw) (fun v nw' => v = .none ∧ ∃ rest' T', Tr prog w nw' rest' dk x T' (Sall dk fl) (Gall fl) ∧ Kp [] nw rest') := by
  have hCn := rootC_nc dk
  generalize hCe : rootC dk = C at hCn
  refine Fn.introD (d := 63) (binds := [("self", .ref x), ("errors", .ref made)]) (by with_unfolding_all exact rfl) (by kernel_rfl) (fun s X => binds_K X rfl (by with_unfolding_all exact rfl) rfl rfl rfl) (locs rfl) (by decide) rfl rfl rfl ?_
  intro r A h₀ L hr M
  -- self.parent_node
  refine sv_attr ex_none (ex_local rfl rfl rfl rfl) (run_set_slot M (.head _) ⟨rfl, rfl, dx, rfl, .inl ⟨.head _, .tail _ (.head _)⟩⟩ (kf_set_parent_node hCn) (ox' := { cls := .ref C, dict := some dx, data := .plain, slots := #[none, none, some .none] }) rfl rfl ?_)
  rw [show setL ((x, instObj C dx) :: (dx, dictOf [] 0) :: nw) x { cls := .ref C, dict := some dx, data := .plain, slots := #[none, none, some .none] } = (x, { cls := .ref C, dict := some dx, data := .plain, slots := #[none, none, some .none] }) :: (dx, dictOf [] 0) :: nw from by unfold setL; rw [if_pos rfl]]
  -- self.tree_root
  refine sv_attr (ex_local rfl rfl rfl rfl) (ex_local rfl rfl rfl rfl) (run_set_slot M (.head _) ⟨rfl, rfl, dx, rfl, .inl ⟨.head _, .tail _ (.head _)⟩⟩ (kf_set_tree_root hCn) (ox' := { cls := .ref C, dict := some dx, data := .plain, slots := #[none, none, some .none, none, some (.ref x)] }) rfl rfl ?_)
  rw [show setL ((x, { cls := .ref C, dict := some dx, data := .plain, slots := #[none, none, some .none] }) :: (dx, dictOf [] 0) :: nw) x { cls := .ref C, dict := some dx, data := .plain, slots := #[none, none, some .none, none, some (.ref x)] } = (x, { cls := .ref C, dict := some dx, data := .plain, slots := #[none, none, some .none, none, some (.ref x)] }) :: (dx, dictOf [] 0) :: nw from by unfold setL; rw [if_pos rfl]]
  -- self.path
  have nodup0 : (keys nw).Nodup → (keys ((x, { cls := Value.ref C, dict := some dx, slots := #[none, none, some Value.none, none, some (Value.ref x)] }) :: (dx, dictOf [] 0) :: nw)).Nodup := fun h => by
    show (x :: dx :: keys nw).Nodup
    rw [List.nodup_cons, List.nodup_cons, List.mem_cons]
    exact ⟨fun z => z.elim hxd fx, fdx, h⟩
  refine sx_attr (P := fun v m' nw' => (m' "self" = some (.ref x) ∧ m' "errors" = some (.ref made)) ∧ ∃ pa, v = .ref pa ∧ pa ∉ keys nw ∧ pa ≠ x ∧ pa ≠ dx ∧ nw' = (pa, tupO [] 0) :: (x, { cls := Value.ref C, dict := some dx, slots := #[none, none, some Value.none, none, some (Value.ref x)] }) :: (dx, dictOf [] 0) :: nw)
    (P2 := fun v o m' nw' => o = .ref x ∧ (m' "self" = some (.ref x) ∧ m' "errors" = some (.ref made)) ∧ ∃ pa, v = .ref pa ∧ pa ∉ keys nw ∧ pa ≠ x ∧ pa ≠ dx ∧ nw' = (pa, tupO [] 0) :: (x, { cls := Value.ref C, dict := some dx, slots := #[none, none, some Value.none, none, some (Value.ref x)] }) :: (dx, dictOf [] 0) :: nw)
    (Run.mono (Run.nod (ex_tuple (P := fun vs m' nw' => vs = [] ∧ (m' "self" = some (.ref x) ∧ m' "errors" = some (.ref made)) ∧ nw' = _) (Q := fun v m' nw' => (m' "self" = some (.ref x) ∧ m' "errors" = some (.ref made)) ∧ ∃ pa, v = .ref pa ∧ nw' = (pa, tupO [] 0) :: _) (args_nil ⟨rfl, ⟨rfl, rfl⟩, rfl⟩) (fun vs m' nw' ⟨e, _⟩ => by subst e; exact (show 0 < 1000 by decide)) (fun vs m' nw' a ⟨e, e2, e3⟩ => by subst e; rw [e3]; exact ⟨e2, a, rfl, rfl⟩))) ?_) ?_ ?_
  · rintro v m' nw' ⟨⟨hm, pa, rfl, rfl⟩, hn⟩
    have hn' : (pa :: x :: dx :: keys nw).Nodup := hn
    rw [List.nodup_cons, List.mem_cons, List.mem_cons] at hn'
    exact ⟨hm, pa, rfl, fun z => hn'.1 (.inr (.inr z)), fun z => hn'.1 (.inl z), fun z => hn'.1 (.inr (.inl z)), rfl⟩
  · rintro v m' nw' ⟨hm, h⟩
    exact Run.mono (ex_local (v := .ref x) rfl rfl rfl hm.1) fun o m'' nw'' ⟨e1, e2, e3⟩ => by subst e2; subst e3; exact ⟨e1, hm, h⟩
  rintro v ov m1 nw1 ⟨rfl, hm1, pa, rfl, fpa, npx, npdx, rfl⟩
  refine run_set_slot M (.tail _ (.head _)) ⟨rfl, rfl, dx, rfl, .inl ⟨.tail _ (.head _), .tail _ (.tail _ (.head _))⟩⟩ (kf_set_path hCn) (ox' := { cls := .ref C, dict := some dx, data := .plain, slots := #[none, none, some .none, some (.ref pa), some (.ref x)] }) rfl rfl ?_
  rw [setL_skip npx, setL_here]
  -- self.errors
  refine sx_attr (P := fun v m' nw' => (m' "self" = some (.ref x) ∧ m' "errors" = some (.ref made)) ∧ ∃ e de n, v = .ref e ∧ e ∉ pa :: x :: dx :: keys nw ∧ de ∉ pa :: x :: dx :: keys nw ∧ e ≠ de ∧ nw' = (e, elObj de [] n) :: (de, dictOf [] 0) :: (pa, tupO [] 0) :: (x, { cls := .ref C, dict := some dx, data := .plain, slots := #[none, none, some .none, some (.ref pa), some (.ref x)] }) :: (dx, dictOf [] 0) :: nw)
    (P2 := fun v o m' nw' => o = .ref x ∧ (m' "self" = some (.ref x) ∧ m' "errors" = some (.ref made)) ∧ ∃ e de n, v = .ref e ∧ e ∉ pa :: x :: dx :: keys nw ∧ de ∉ pa :: x :: dx :: keys nw ∧ e ≠ de ∧ nw' = (e, elObj de [] n) :: (de, dictOf [] 0) :: (pa, tupO [] 0) :: (x, { cls := .ref C, dict := some dx, data := .plain, slots := #[none, none, some .none, some (.ref pa), some (.ref x)] }) :: (dx, dictOf [] 0) :: nw)
    (ex_callK0 M (ex_global M rfl rfl rfl kg_ErrorList) kk_ErrorList (run_EL0 M fun e de n h1 h2 h3 => ⟨hm1, e, de, n, rfl, h1, h2, h3, rfl⟩))
    (fun v m' nw' ⟨hm, h⟩ => Run.mono (ex_local (v := .ref x) rfl rfl rfl hm.1) fun o m'' nw'' ⟨e1, e2, e3⟩ => by subst e2; subst e3; exact ⟨e1, hm, h⟩) ?_
  rintro v ov m2 nw2 ⟨rfl, hm2, e, de, n, rfl, fe, fde, nede, rfl⟩
  have nex : e ≠ x := fun z => fe (by rw [z]; exact .tail _ (.head _))
  have ndex : de ≠ x := fun z => fde (by rw [z]; exact .tail _ (.head _))
  refine run_set_slot M (.tail _ (.tail _ (.tail _ (.head _)))) ⟨rfl, rfl, dx, rfl, .inl ⟨.tail _ (.tail _ (.tail _ (.head _))), .tail _ (.tail _ (.tail _ (.tail _ (.head _))))⟩⟩ (kf_set_errors hCn) (ox' := { cls := .ref C, dict := some dx, data := .plain, slots := #[none, some (.ref e), some .none, some (.ref pa), some (.ref x)] }) rfl rfl ?_
  rw [setL_skip nex, setL_skip ndex, setL_skip npx, setL_here]
  -- self.descendants
  refine sx_attr (P := fun v m' nw' => (m' "self" = some (.ref x) ∧ m' "errors" = some (.ref made)) ∧ ∃ d, v = .ref d ∧ (d == sysModules) = false ∧ d ∉ e :: de :: pa :: x :: dx :: keys nw ∧ nw' = (d, dictOf [] 0) :: (e, elObj de [] n) :: (de, dictOf [] 0) :: (pa, tupO [] 0) :: (x, { cls := .ref C, dict := some dx, data := .plain, slots := #[none, some (.ref e), some .none, some (.ref pa), some (.ref x)] }) :: (dx, dictOf [] 0) :: nw)
    (P2 := fun v o m' nw' => o = .ref x ∧ (m' "self" = some (.ref x) ∧ m' "errors" = some (.ref made)) ∧ ∃ d, v = .ref d ∧ (d == sysModules) = false ∧ d ∉ e :: de :: pa :: x :: dx :: keys nw ∧ nw' = (d, dictOf [] 0) :: (e, elObj de [] n) :: (de, dictOf [] 0) :: (pa, tupO [] 0) :: (x, { cls := .ref C, dict := some dx, data := .plain, slots := #[none, some (.ref e), some .none, some (.ref pa), some (.ref x)] }) :: (dx, dictOf [] 0) :: nw)
    (ex_dict0 M fun d h1 h2 => ⟨hm2, d, rfl, h1, h2, rfl⟩)
    (fun v m' nw' ⟨hm, h⟩ => Run.mono (ex_local (v := .ref x) rfl rfl rfl hm.1) fun o m'' nw'' ⟨e1, e2, e3⟩ => by subst e2; subst e3; exact ⟨e1, hm, h⟩) ?_
  rintro v ov m3 nw3 ⟨rfl, hm3, d, rfl, hds, fd, rfl⟩
  have ndx : d ≠ x := fun z => fd (by rw [z]; exact .tail _ (.tail _ (.tail _ (.head _))))
  refine run_set_slot M (.tail _ (.tail _ (.tail _ (.tail _ (.head _))))) ⟨rfl, rfl, dx, rfl, .inl ⟨.tail _ (.tail _ (.tail _ (.tail _ (.head _)))), .tail _ (.tail _ (.tail _ (.tail _ (.tail _ (.head _)))))⟩⟩ (kf_set_descendants hCn) (ox' := nodeO C dx d e .none pa x) rfl rfl ?_
  rw [setL_skip ndx, setL_skip nex, setL_skip ndex, setL_skip npx, setL_here]
  refine Run.nodup fun hnd => ?_
  subst hCe
  have tr0 := Tr.start (prog := prog) (w := w) (dk := dk) hnd hds
  have kp0 : Kp [] nw ((de, dictOf [] 0) :: (pa, tupO [] 0) :: (x, nodeO (rootC dk) dx d e .none pa x) :: (dx, dictOf [] 0) :: nw) := ((Kp.cons.trans Kp.cons).trans Kp.cons).trans Kp.cons
  generalize hrest : ((de, dictOf [] 0) :: (pa, tupO [] 0) :: (x, nodeO (rootC dk) dx d e .none pa x) :: (dx, dictOf [] 0) :: nw : Led) = rest0 at tr0 kp0
  -- the faults
  refine sx_forL (refs (fl.map (·.1))) (n := nM) (P := fun v m' nw' => v = .ref made ∧ (m' "self" = some (.ref x)) ∧ nw' = _) (fun a i m' nw' => a = made ∧ m' "self" = some (.ref x) ∧ ∃ rest' T', Tr prog w nw' rest' dk x T' (Sall dk (fl.take i)) (Gall (fl.take i)) ∧ Kp [] nw rest') (fun _ _ => False) M rfl rfl rfl
    (Run.mono (ex_local (v := .ref made) rfl rfl rfl hm3.2) fun v m' nw' ⟨e1, e2, e3⟩ => ⟨e1, by rw [e2]; exact hm3.1, e3⟩) ?_ ?_ ?_ (fun _ _ h => h.elim) ?_
  · rintro v m' nw' ⟨rfl, hm, rfl⟩
    have e1 : Sall dk (fl.take 0) = fun p => p = [] := by rw [List.take_zero]; rfl
    have e2 : Gall (fl.take 0) = [] := by rw [List.take_zero]; rfl
    rw [e1, e2]
    exact ⟨made, rfl, tr0.lay.kp.get (kp0.get hmade), rfl, hm, rest0, _, tr0, kp0⟩
  · rintro a i m' nw' ⟨rfl, hm, rest', T', t, k⟩
    exact t.lay.kp.get (k.get hmade)
  · rintro a i u m5 nw5 hu ⟨rfl, ms5, rest5, T5, t5, k5⟩
    rw [List.getElem?_map, List.getElem?_map] at hu
    cases hfi : fl[i]? with
    | none => rw [hfi] at hu; cases hu
    | some p =>
      rw [hfi] at hu
      obtain rfl : Value.ref p.1.x = u := Option.some.inj hu
      have hp := hfl p (List.mem_of_getElem? hfi)
      obtain ⟨r5, hr5, _, hx5, _, hC5, _⟩ := t5.rootAt
      have NR := (t5.ok r5 hr5).node.keep0 t5.lay.kp
      rw [hx5, hC5] at NR
      have hGl := Gall_len (fl.take i)
      have hGl2 : (fl.take i).length ≤ 5 := by rw [List.length_take]; omega
      have htk : fl.take (i + 1) = fl.take i ++ [p] := by rw [List.take_add_one, hfi]; rfl
      refine sx_expr (P := fun v m' nw' => m' "self" = some (.ref x) ∧ AddPost prog w dk x rest5 (SK dk (Sall dk (fl.take i)) p.1 p.2) (GK (Gall (fl.take i)) p.1 p.2) v nw') (ev_methK (ex_local rfl rfl rfl ms5) (f := .ref 374) (first := [.ref x]) ?_ (cw_K M kk_374 (arg1 (V := (· = .ref p.1.x)) (ex_local rfl rfl rfl rfl)) (fun vs m' nwz ⟨v, e1, e2, e3, e4⟩ => by
        subst e1; subst e2; subst e3; rw [e4]
        exact run_call (tadd_of (N := 60) HP (by omega) hp nw5 rest5 T5 _ _ t5 (hp.f.keep0 k5) (hp.k.keep0 k5) (by omega)) M (by omega) fun v nw' h => ⟨ms5, h⟩))) (fun v m' nw' ⟨hm, h⟩ => ⟨by rw [h.1]; rfl, sx_nil ⟨rfl, hm, ?_⟩⟩)
      · cases dk with
        | true => exact nd_method M NR kf_add_405 ⟨rfl, rfl, rfl⟩
        | false => exact nd_method M NR kf_add_417 ⟨rfl, rfl, rfl⟩
      · obtain ⟨_, rest', T', t, k⟩ := h
        refine ⟨rest', T', ?_, k5.trans k⟩
        rw [htk]
        unfold Sall Gall
        rw [List.foldl_append, List.foldl_append]
        exact t
  · rintro a m' nw' ⟨rfl, hm, rest', T', t, k⟩
    have htk : fl.take (refs (fl.map (·.1))).length = fl := by simp
    rw [htk] at t
    exact sx_nil ⟨rfl, rest', T', t, k⟩
end
end Mine

-- LC
open PySem PySem.W PySem.Calls PyProof.Rows
set_option maxRecDepth 100000
set_option linter.unusedVariables false
namespace Mine
section
variable {prog : Program} {w : World} {A : Around} {h₀ : Heap} {L : Addr} {m : Loc} {nw rest : Led} {mg mb : Loc} {r : Nat} {env : Env} {K : Frag}
/-- a name of a comprehension -/
theorem ex_local2 {x : Str} {pos : Pos} {v : Value} {C : Addr} {oC : Obj} {m₂ : Loc} (hC : (C, oC) ∈ nw) (ho : LCg.NsObj oC m₂) (hl : env.locals = C) (hk : env.scope.kind = .function) (hx : env.kindOf x = some .local) (hv : m₂ x = some v) (hd : (x == ("__debug__" : Str)) = false := by decide) :
    Ex prog w A h₀ L env m nw (.Name x pos) (Is (· = v) m nw) := fun os fx s hs => by
  have n := ho.ns (hs.get hC)
  rw [← hl] at n
  exact wpAny_Name (wpAny_loadName_local hk hx n hv ⟨m, nw, hs, rfl, rfl, rfl⟩) hd
/-- an iterator is its own iterator -/
def SelfIt (prog : Program) (w : World) (A : Around) (It : Nat → Obj → Prop) : Prop := ∀ i h₀ L os m nw fx s I o Q, St h₀ L os m nw ((I, o) :: fx) s → It i o → Q (.ref I) s → wpAny (model prog w) A (pyIter (.ref I)) Q (fun _ _ => False) s
theorem self_list {l : Addr} : SelfIt prog w A (fun i o => o.cls = .type "list_iterator" ∧ o.data = .fields #[.ref l, .int i 0]) := fun i h₀ L os m nw fx s I o Q hs ho hQ =>
  wpAny_pyIter_listiter ⟨o, (hs.fixed (.head _)).1, ho.1, ho.2⟩ hQ
theorem self_range {n : Nat} : SelfIt prog w A (fun i o => o = ({ cls := .type "range_iterator", dict := none, data := .fields #[rawInt (i : Int), rawInt ((n : Int) - i), rawInt 1], slots := #[] } : Obj)) := fun i h₀ L os m nw fx s I o Q hs ho hQ => by
  subst ho
  exact wpAny_pyIter_rangeiter (hs.fixed (.head _)).1 hQ
theorem ex_comp {elt iter : Expr} {x : Str} {px pos : Pos} {ifs : List Expr} {scope : Scope} {cl : List (Str × Addr)} {P : Value → Loc → Led → Prop} {Q : Value → Loc → Led → Prop} {It : Value → Nat → Obj → Prop} {n : Value → Nat} {V : Value → Nat → Value → Prop} {need : Value → Led → Prop} (J : Value → Led → Nat → List Value → Prop)
    (hclos : closureFor scope env = pure cl) (hcell : ∀ y ∈ scope.names, y.2 ≠ .cell) (hkind : scope.kind = .function) (hnames : ∀ y ∈ scope.names, y.2 = .local → scope.names.lookup y.1 = some .local) (hx : scope.names.lookup x = some .local)
    (hiter : Ex prog w A h₀ L env m nw iter P)
    (hstart : ∀ v m' nw' os fx s Q, P v m' nw' → St h₀ L os m' nw' fx s → (∀ I o s', It v 0 o → St h₀ L os m' nw' ((I, o) :: fx) s' → Q (.ref I) s') → wpAny (model prog w) A (pyIter v) Q (fun _ _ => False) s)
    (W : ∀ v m' nw', P v m' nw' → Stepper prog w A (It v) (n v) (V v) (need v)) (hself : ∀ v m' nw', P v m' nw' → SelfIt prog w A (It v))
    (h0 : ∀ v m' nw', P v m' nw' → J v nw' 0 [] ∧ n v < 1000 ∧ ∀ nw2, Kp [] nw' nw2 → need v nw2)
    (turn : ∀ v m' nw' i u C oC m₂ D ys, P v m' nw' → i < n v → V v i u → LCg.NsObj oC m₂ → m₂ x = some u → J v nw' i ys →
      Run prog w A h₀ L m' ((C, oC) :: (D, LCg.lst ys) :: nw') (forIn ifs true fun c r => if r = true then do let ok ← isTrue c (compEnvC scope cl C env) (eval c (compEnvC scope cl C env)); pure (ForInStep.yield ok) else pure (ForInStep.yield r))
        (fun b m'' nw'' => (m'' = m' ∧ nw'' = (C, oC) :: (D, LCg.lst ys) :: nw') ∧ (b = true → Ev prog w A h₀ L (compEnvC scope cl C env) m' ((C, oC) :: (D, LCg.lst ys) :: nw') elt (fun y => J v nw' (i + 1) (ys ++ [y]))) ∧ (b = false → J v nw' (i + 1) ys)))
    (done : ∀ v m' nw' D ys, P v m' nw' → J v nw' (n v) ys → D ∉ keys nw' → Q (.ref D) m' ((D, LCg.lst ys) :: nw'))
    (hs : ∀ x, foldedSetIterable iter env x = pure x := by intro _; rfl) :
    Ex prog w A h₀ L env m nw (.ListComp elt [⟨.Name x px, iter, ifs, 0⟩] scope pos) Q := fun os fx s hst => by
  rw [eval_ListComp]
  refine wpAny_comprehension_free (use := none) rfl hs hclos hkind hnames (wpAny_mono (hiter os fx s hst) (fun v s₁ ⟨m', nw', hs1, hp⟩ => ?_) fun _ _ e => e.elim)
  refine wpAny_mono (hstart v m' nw' os fx s₁ (fun it s₂ => ∃ I o, it = .ref I ∧ It v 0 o ∧ St h₀ L os m' nw' ((I, o) :: fx) s₂) hp hs1 fun I o s' hi hs2 => ⟨I, o, rfl, hi, hs2⟩) (fun it s₂ h₂ => ?_) fun _ _ e => e.elim
  obtain ⟨I, o, rfl, hi0, hs2⟩ := h₂
  obtain ⟨hJ0, hn, hneed⟩ := h0 v m' nw' hp
  refine wpAny_newObj_type (wpAny_newFunctionEnv hcell (by intro y hy; simp at hy) (fun h₁ hns₁ hsb₁ => ?_) hkind)
  dsimp only at hns₁ hsb₁ ⊢
  have hs3 := hs2.push (LCg.lst []) rfl
  have fD : s₂.heap.objs.size ∉ keys nw' := fun hx => by
    obtain ⟨p, hp, e⟩ := List.mem_map.mp hx
    exact absurd (Heap.lt_size (hs2.get hp)) (by rw [e]; exact Nat.lt_irrefl _)
  have hs4 := hs3.push ({ cls := .type "dict", data := .dict #[] } : Obj) rfl
  generalize hD : s₂.heap.objs.size = D at hs3 hs4 fD ⊢
  generalize hH : ({ s₂ with heap := s₂.heap.push (LCg.lst []) } : Shared).heap.objs.size = C at hs4
  have hC : (s₂.heap.push { cls := Value.type "list", data := Data.seq ([] : List Value).toArray }).objs.size = C := hH
  rw [hC] at hns₁ hsb₁
  obtain ⟨oC, hoC, nC⟩ := LCg.ns_obj hns₁
  have hs5 := hs4.set (tk := s₂.toks + 0) (.head _) hsb₁ hoC
  rw [setL_here] at hs5
  have loop : ∀ s₃ : Shared, s₃ = { s₂ with heap := h₁, toks := s₂.toks + ([] : List (Str × Value)).length } →
      codeAny (model prog w) A (.compLoop (.ListComp elt [⟨.Name x px, iter, ifs, 0⟩] scope pos) 0 (.ref I) (.ref D) (compEnvC scope cl C env))
        (compPost (model prog w) A (fun _ _ => False) none (fun b s' => ∃ m' nw', St h₀ L os m' nw' fx s' ∧ Q b m' nw') (.ref D) C) s₃ := by
    rintro s₃ rfl
    refine codeAny_compLoop_tests (fun k s' => ∃ i ys oC m₂ oI, St h₀ L os m' ((C, oC) :: (D, LCg.lst ys) :: nw') ((I, oI) :: fx) s' ∧ LCg.NsObj oC m₂ ∧ It v i oI ∧ J v nw' i ys ∧ i ≤ n v ∧ ys.length ≤ i ∧ k = n v + 1 - i) ?_ (n v + 1) ⟨0, [], oC, _, o, hs5, nC, hi0, hJ0, Nat.zero_le _, Nat.le_refl _, rfl⟩
    rintro k s' ⟨i, ys, oC, m₂, oI, hst', hnC, hIt, hJ, hle, hyl, rfl⟩
    have kp : Kp [] nw' ((C, oC) :: (D, LCg.lst ys) :: nw') := Kp.cons.trans Kp.cons
    by_cases hlt : i < n v
    · refine wpAny_noRaise ((W v m' nw' hp).item i h₀ L os m' _ fx s' I oI _ hlt hst' hIt (hneed _ kp) fun u o' s₃ hv ho' hs₃ => ?_)
      have hcn : (s₃.heap).Ns C m₂ := hnC.ns (hs₃.get (.head _))
      refine wpAny_assign_Name (wpAny_storeName_local (lookup_relabel_local hx) hcn (fun h₃ hn₃ hsb₃ => ?_) (by simp [compEnvC, relabel, hkind]))
      obtain ⟨oC', hoC', nC'⟩ := LCg.ns_obj hn₃
      have hs₄ := hs₃.set (tk := s₃.toks + 1) (.head _) hsb₃ hoC'
      rw [setL_here] at hs₄
      refine wpAny_noRaise (wpAny_mono (turn v m' nw' i u C oC' _ D ys hp hlt hv nC' (by simp) hJ os ((I, o') :: fx) _ hs₄) (fun ok s₅ ⟨m5, nw5, hs₅, ⟨e1, e2⟩, k1, k2⟩ => ?_) fun _ _ e => e)
      subst e1; subst e2
      cases ok with
      | true =>
        simp only [if_true]
        refine wpAny_noRaise (wpAny_mono (k1 rfl os ((I, o') :: fx) s₅ hs₅) (fun y s₆ ⟨m6, nw6, hs₆, hy, e1, e2⟩ => ?_) fun _ _ e => e)
        subst e1; subst e2
        refine append_at (hsz := by rw [List.size_toArray]; have e : sizeLine = 2 ^ 24 := rfl; omega) (hs₆.get (.tail _ (.head _))) fun h₇ hs₇ hD₇ => ?_
        have hst7 := hs₆.set (tk := s₆.toks) (.tail _ (.head _)) hs₇ (hD₇.trans (congrArg some (LCg.lst_snoc ys y)))
        have hCD : C ≠ D := by
          have := hs₆.D
          simp only [List.cons_append, List.map_cons, List.nodup_cons, List.mem_cons] at this
          exact fun e => this.1 (.inl e)
        rw [setL_skip hCD, setL_here] at hst7
        exact ⟨n v + 1 - (i + 1), by omega, i + 1, ys ++ [y], oC', _, o', hst7, nC', ho', hy, hlt, by rw [List.length_append, List.length_singleton]; omega, rfl⟩
      | false =>
        simp only [Bool.false_eq_true, if_false]
        exact ⟨n v + 1 - (i + 1), by omega, i + 1, ys, oC', _, o', hs₅, nC', ho', k2 rfl, hlt, by omega, rfl⟩
    · have e : i = n v := by omega
      subst e
      refine wpAny_noRaise ((W v m' nw' hp).done h₀ L os m' _ fx s' I oI _ hst' hIt (hneed _ kp) fun s₃ hs₃ => ?_)
      refine ⟨m₂, hnC.ns (hs₃.get (.head _)), fun h' hsb => ?_⟩
      have hx3 := hs₃.N (C, oC) (.head _)
      have hC1 := hs₃.D
      simp only [List.cons_append, List.map_cons, List.nodup_cons] at hC1
      refine ⟨m', _, ⟨hs₃.F.change hsb hx3.2.1 hx3.2.2, fun p hp => ?_, ?_, hs₃.os, hs₃.bare⟩, done v m' nw' D ys hp hJ fD⟩
      · have hp2 : p ∈ (C, oC) :: ((D, LCg.lst ys) :: nw') ++ fx := .tail _ hp
        have z := hs₃.N p hp2
        refine ⟨(hsb.2 _ fun e => hC1.1 ?_).trans z.1, z.2⟩
        rw [← e]
        exact List.mem_map_of_mem (f := (·.1)) hp
      · have := hs₃.D
        simp only [List.cons_append, List.map_cons, List.nodup_cons] at this ⊢
        exact this.2
  exact codeAny_compStart_list (loop _ rfl) (wpAny_mono (hself v m' nw' hp 0 h₀ L os m' _ fx _ I o (fun it s' => it = .ref I ∧ s' = { s₂ with heap := h₁, toks := s₂.toks + ([] : List (Str × Value)).length }) hs5 hi0 ⟨rfl, rfl⟩) (fun it s' ⟨e1, e2⟩ => by subst e1; subst e2; exact loop _ rfl) fun _ _ e => e.elim)
end
end Mine

-- TF
open PySem PySem.W PySem.Calls PyProof.Rows
set_option maxRecDepth 100000
set_option linter.unusedVariables false
namespace Mine
theorem kf_isfn287 {P : Params} : isFn (KH P) (.ref 287) = true := by kernel_rfl
theorem kf_isfn301 {P : Params} : isFn (KH P) (.ref 301) = true := by kernel_rfl
theorem kf_iter {P : Params} {C : Addr} (hC : IsNC C) : findIn (KH P) (.ref C) "__iter__" = some (some (.ref 287)) := by rcases hC with rfl | rfl | rfl; exact kf_iter_342; exact kf_iter_405; exact kf_iter_417
theorem kf_len {P : Params} {C : Addr} (hC : IsNC C) : findIn (KH P) (.ref C) "__len__" = some (some (.ref 301)) := by rcases hC with rfl | rfl | rfl; exact kf_len_342; exact kf_len_405; exact kf_len_417
theorem uniq_p {T : List Nd} (h : (T.map Nd.p).Nodup) : ∀ a ∈ T, ∀ b ∈ T, a.p = b.p → a = b := by
  intro a ha b hb e
  obtain ⟨l₁, l₂, rfl⟩ := List.append_of_mem hb
  rcases List.mem_append.mp ha with ha | ha
  · exact absurd e (nodup_other h a (.inl ha))
  · rcases List.mem_cons.mp ha with rfl | ha
    · rfl
    · exact absurd e (nodup_other h a (.inr ha))
section
variable {prog : Program} {w : World} {A : Around} {h₀ : Heap} {L : Addr} {m : Loc} {nw rest : Led} {mg mb : Loc} {r : Nat} {env : Env} {K : Frag} {dk : Bool} {root : Addr} {T : List Nd} {S : List Key → Prop} {G : List Fa} {x C d e pa de : Addr} {par : Value}
theorem t_iter {items : List Value} {n : Nat} (hC : IsNC C) (N : NodeAt nw x C d e par pa root) (he : (e, elObj de items n) ∈ nw) :
    Fn prog w (KH w.params) mg mb 2 (.ref 287) [.ref x] nw (fun v nw' => ∃ I oI, v = .ref I ∧ (oI.cls = .type "list_iterator" ∧ oI.data = .fields #[.ref e, .int ((0 : Nat) : Int) 0]) ∧ nw' = (I, oI) :: nw) := by
  refine Fn.intro (d := 1) (binds := [("self", .ref x)]) (by with_unfolding_all exact rfl) (by kernel_rfl) (fun s => BindsTo.of_eq rfl) (locs rfl) (by decide) rfl rfl rfl ?_
  intro r A h₀ L hr M
  obtain ⟨r', rfl⟩ : ∃ r', r = r' + 1 := ⟨r - 1, by omega⟩
  refine sx_ret (P := fun v m' nw' => ∃ I oI, v = .ref I ∧ (oI.cls = .type "list_iterator" ∧ oI.data = .fields #[.ref e, .int ((0 : Nat) : Int) 0]) ∧ nw' = (I, oI) :: nw) (ev_call1 (V := (· = .ref e)) (ex_builtin M rfl rfl rfl rfl kb_iter rfl (by decide)) (ev_at (ex_local rfl rfl rfl rfl) (nd_errs M hC N)) fun v hv => ?_) fun v m' nw' h => h
  subst hv
  intro os fx s hs
  refine call_function_entry (by decide +kernel) (by decide +kernel) kdk_entry_iter (kdk_args_iter _) ?_
  unfold Builtin.«iter»
  refine wpAny_bind (m := someArgs "iter" 1 2 _) (wpAny_of_eq (a := [Value.ref e]) (by first | rfl | kernel_rfl!) ?_)
  show wpAny _ _ (pyIter (.ref e) >>= _) _ _ _
  refine wpAny_bind (wpAny_mono (start_el M.in1 he hs (Q := fun v s' => ∃ I o, v = .ref I ∧ (o.cls = .type "list_iterator" ∧ o.data = .fields #[.ref e, .int ((0 : Nat) : Int) 0]) ∧ St h₀ L os _ nw ((I, o) :: fx) s') fun I o s' h1 h2 => ⟨I, o, rfl, h1, h2⟩) (fun v s' ⟨I, o, e1, h1, h2⟩ => ?_) fun _ _ e => e)
  subst e1
  exact wpAny_pure ⟨_, rfl, _, _, h2.unfix, I, o, rfl, h1, rfl⟩
theorem start_nd {items : List Value} {n : Nat} (M : Fm (KH w.params) mg mb r A h₀ L) (hr : 2 ≤ r) (hC : IsNC C) (N : NodeAt nw x C d e par pa root) (he : (e, elObj de items n) ∈ nw) {os fx s Q} (hs : St h₀ L os m nw fx s)
    (h : ∀ I o s', (o.cls = .type "list_iterator" ∧ o.data = .fields #[.ref e, .int ((0 : Nat) : Int) 0]) → St h₀ L os m nw ((I, o) :: fx) s' → Q (.ref I) s') : wpAny (model prog w) A (pyIter (.ref x)) Q (fun _ _ => False) s := by
  obtain ⟨ox, I, _⟩ := N.ins (K := KH w.params)
  refine owit_iter hs.F M.gr.X (I.inst hs M) (kf_iter hC) kf_isfn287 (wpAny_mono (run_call (Q := fun v m' nw' => m' = m ∧ ∃ I oI, v = .ref I ∧ (oI.cls = .type "list_iterator" ∧ oI.data = .fields #[.ref e, .int ((0 : Nat) : Int) 0]) ∧ nw' = (I, oI) :: nw) (t_iter hC N he) M hr (fun v nw' h => ⟨rfl, h⟩) os fx s hs) (fun v s' ⟨m', nw', hs', e1, It, oI, e2, h2, e3⟩ => ?_) fun _ _ e => e)
  subst e1; subst e2; subst e3
  unfold OwitIt
  exact wpAny_specialOf (T := "list_iterator") ⟨_, hs'.get (.head _), h2.1⟩ slot_listiter_next.lookup (h It oI s' h2 hs'.fix)
theorem nd_len {items : List Value} {n : Nat} (M : Fm (KH w.params) mg mb (r + 1) A h₀ L) (hr : 1 ≤ r) (hC : IsNC C) (N : NodeAt nw x C d e par pa root) (he : (e, elObj de items n) ∈ nw) (hz : items.length < 1000) : Rv prog w A h₀ L m nw (call (.builtin "len") [.ref x]) (VI items.length) := fun os fx s hs => by
  obtain ⟨ox, I, _⟩ := N.ins (K := KH w.params)
  refine PySem.W.len_K hs.F M.gr.X (I.inst hs M) (kf_len hC) kf_isfn301 (wpAny_mono (run_fp M.in1 (t_len hC N he hz) hr os fx s hs) (fun v s' ⟨m', nw', hs', ⟨t, e1⟩, e2, e3⟩ => ?_) fun _ _ e => e)
  subst e1; subst e2; subst e3
  exact ⟨⟨by omega, by omega⟩, _, _, hs'.toks, ⟨_, rfl⟩, rfl, rfl⟩
/-- is it None -/
theorem rv_is_none {v : Value} (h : v = .none ∨ ∃ a, v = .ref a) : Rv prog w A h₀ L m nw (compareOp .Is v .none) (· = .bool (v == .none)) := fun os fx s hs => by
  rcases h with rfl | ⟨a, rfl⟩
  · exact wpAny_is_self rfl ⟨m, nw, hs, rfl, rfl, rfl⟩
  · exact is_ref_none ⟨m, nw, hs, rfl, rfl, rfl⟩
theorem t_fetch {q : List Key} {pq : Addr} (htr : Tr prog w nw rest dk root T S G) (hq : PathAt nw pq q) (hz : q.length < 100) :
    Fp prog w (KH w.params) mg mb 5 (.ref 388) [.ref root, .ref pq] nw (fun v => (v = .none ∨ ∃ a, v = .ref a) ∧ (∀ nd ∈ T, nd.p = q → v = .ref nd.x) ∧ ((¬ ∃ nd ∈ T, nd.p = q) → v = .none)) := by
  obtain ⟨nd0, hnd0, hp0, hx0, _, _, _⟩ := htr.rootAt
  obtain ⟨qs, nq, hq1, hq2⟩ := hq
  have lq := hq2.length
  have uniq : ∀ a ∈ T, ∀ b ∈ T, a.p = b.p → a = b := by
    exact uniq_p htr.sh.nodup
  refine Fn.intro (d := 4) (binds := [("self", .ref root), ("path", .ref pq)]) (by with_unfolding_all exact rfl) (by kernel_rfl) (fun s => BindsTo.of_eq rfl) (locs rfl) (by decide) rfl rfl rfl ?_
  intro r A h₀ L hr M
  obtain ⟨r', rfl⟩ : ∃ r', r = r' + 1 := ⟨r - 1, by omega⟩
  refine sv_assign rfl rfl rfl (V := (· = .ref root)) (ex_local rfl rfl rfl rfl) fun v ev => ?_
  subst ev
  refine sx_forT qs (n := nq) (P := fun v m' nw' => v = .ref pq ∧ (m' "context" = some (.ref root)) ∧ nw' = nw) (fun a i m' nw' => a = pq ∧ Kp [] nw nw' ∧ ∃ nd ∈ T, nd.p = q.take i ∧ m' "context" = some (.ref nd.x)) (fun m' nw' => Kp [] nw nw' ∧ m' "context" = some .none ∧ ¬ ∃ nd ∈ T, nd.p = q) M rfl rfl rfl
    (Run.mono (ex_local (v := .ref pq) rfl rfl rfl rfl) fun v m' nw' ⟨e1, e2, e3⟩ => ⟨e1, by rw [e2]; rfl, e3⟩) ?_ ?_ ?_ ?_ ?_
  · rintro v m' nw' ⟨rfl, hm, rfl⟩
    exact ⟨pq, rfl, hq1, rfl, Kp.refl, nd0, hnd0, by rw [List.take_zero, hp0], by rw [hx0]; exact hm⟩
  · rintro a i m' nw' ⟨rfl, k, _⟩
    exact k.get hq1
  · rintro a i u m₁ nw₁ hu ⟨rfl, k, nd, hnd, hp, hc⟩
    obtain ⟨ku, hku, hvu⟩ := hq2.get hu
    have nok := htr.ok nd hnd
    have N := (nok.node.keep0 htr.lay.kp).keep0 k
    have hd := k.get (htr.lay.led _ (mem_tled hnd).1)
    have htake : q.take (i + 1) = nd.p ++ [ku] := by rw [List.take_add_one, hku, hp]; rfl
    refine sv_assign rfl rfl rfl (V := (· = (valueAt nd.kvs ku).getD .none)) (ev_sub (V := (· = .ref nd.x)) (V' := (· = u)) (ex_local rfl rfl rfl hc) (ex_local rfl rfl rfl rfl) fun o i' ho hi => by
      subst ho; subst hi; exact nd_item M (by omega) nok.ty.nc N hd nok.od nok.sys hvu) fun v ev => ?_
    subst ev
    cases hcv : valueAt nd.kvs ku with
    | none =>
      refine sv_if (B := (· = true)) (tv_cmp (V := (· = .none)) (V' := (· = .none)) (ex_local rfl rfl rfl (by rw [upd, if_pos rfl]; rfl)) ex_none fun a b ha hb => by subst ha; subst hb; exact Run.mono (rv_is_none (.inl rfl)) fun c m' nw' ⟨e, e1⟩ => ⟨_, e, rfl, e1⟩) (fun _ => sx_brk ⟨k, rfl, ?_⟩) (fun h => absurd h (by decide))
      rintro ⟨nd', hnd', e⟩
      have hS : S (nd.p ++ [ku]) := htr.sh.front _ q rfl ((htr.sh.all q).mpr ⟨nd', hnd', e⟩) _ (by rw [← htake]; exact List.take_prefix _ _)
      obtain ⟨c, hcT, hcp⟩ := (htr.sh.all _).mp hS
      have := (htr.sh.kids nd hnd ku (.ref c.x)).mpr ⟨c, hcT, hcp, rfl⟩
      rw [hcv] at this; cases this
    | some cv =>
      obtain ⟨c, hcT, hcp, rfl⟩ := (htr.sh.kids nd hnd ku cv).mp hcv
      refine sv_if (B := (· = false)) (tv_cmp (V := (· = .ref c.x)) (V' := (· = .none)) (ex_local rfl rfl rfl (by rw [upd, if_pos rfl]; rfl)) ex_none fun a b ha hb => by subst ha; subst hb; exact Run.mono (rv_is_none (.inr ⟨_, rfl⟩)) fun c m' nw' ⟨e, e1⟩ => ⟨_, e, rfl, e1⟩) (fun h => absurd h (by decide)) (fun _ => sx_nil (sx_nil ⟨rfl, k, c, hcT, by rw [hcp, htake], rfl⟩))
  · rintro m' nw' ⟨k, hc, hno⟩
    exact sv_ret (ex_local rfl rfl rfl hc) fun v ev => by subst ev; exact ⟨⟨.inl rfl, fun nd hnd e => absurd ⟨nd, hnd, e⟩ hno, fun _ => rfl⟩, k⟩
  · rintro a m' nw' ⟨rfl, k, nd, hnd, hp, hc⟩
    rw [lq, List.take_length] at hp
    exact sv_ret (ex_local rfl rfl rfl hc) fun v ev => by subst ev; exact ⟨⟨.inr ⟨_, rfl⟩, fun nd' hnd' e => by rw [uniq nd hnd nd' hnd' (hp.trans e.symm)], fun h => absurd ⟨nd, hnd, hp⟩ h⟩, k⟩
theorem run_tree {made : Addr} {nM : Nat} {fl : List Fk} {Q : Value → Loc → Led → Prop} (HP : PG prog) (M : Fm (KH w.params) mg mb r A h₀ L) (hr : 65 ≤ r) (hmade : (made, listOf (refs (fl.map (·.1))).toArray nM) ∈ nw) (hfl : ∀ p ∈ fl, FkOk nw dk p) (hl : fl.length ≤ 5)
    (k : ∀ x nw' rest' T', Tr prog w nw' rest' dk x T' (Sall dk fl) (Gall fl) → Kp [] nw rest' → Q (.ref x) m nw') : Run prog w A h₀ L m nw (call (.ref (rootC dk)) [.ref made]) Q := by
  have hm : makesIn (KH w.params) (rootC dk) = true := by cases dk; exact kf_makes_417; exact kf_makes_405
  have hi : findIn (KH w.params) (.ref (rootC dk)) "__init__" = some (some (.ref 366)) := by cases dk; exact kf_init_417; exact kf_init_405
  exact run_new (d := 64) (P := fun x nw' => ∃ rest' T', Tr prog w nw' rest' dk x T' (Sall dk fl) (Gall fl) ∧ Kp [] nw rest') M hm hi kf_isfn366 (fun x dx hxd fx fdx => t_tree_init HP hxd fx fdx hmade hfl hl) (by omega) fun x nw' ⟨rest', T', t, kk⟩ => k x nw' rest' T' t kk
end
end Mine

-- LW1
open PySem PySem.W PySem.Calls PyProof.Rows
set_option maxRecDepth 100000
set_option linter.unusedVariables false
namespace Mine
structure AllInt (n : Nat) (vs : List Value) : Prop where
  len : vs.length = n
  all : ∀ v ∈ vs, ∃ i t, v = .int i t
def ruleV (r : Option Str) (v : Value) : Prop := match r with | none => v = .none | some s => ∃ t, v = .str s t
def RowAt (nw : Led) (v : Value) (x : Row) : Prop := ∃ a n cv rv, v = .ref a ∧ (a, tupO [.ref x.1, cv, rv] n) ∈ nw ∧ (∃ t, cv = .int x.2.1 t) ∧ ruleV x.2.2 rv
theorem RowAt.keep0 {nw nw' v x} (h : RowAt nw v x) (k : Kp [] nw nw') : RowAt nw' v x := let ⟨a, n, cv, rv, e, m, c, r⟩ := h; ⟨a, n, cv, rv, e, k.get m, c, r⟩
inductive RowsAt (nw : Led) : List Value → List Row → Prop
  | nil : RowsAt nw [] []
  | cons {v x vs xs} : RowAt nw v x → RowsAt nw vs xs → RowsAt nw (v :: vs) (x :: xs)
theorem RowsAt.keep0 {nw nw' vs xs} (h : RowsAt nw vs xs) (k : Kp [] nw nw') : RowsAt nw' vs xs := by
  induction h with
  | nil => exact .nil
  | cons a _ ih => exact .cons (a.keep0 k) ih
theorem RowsAt.length {nw vs xs} (h : RowsAt nw vs xs) : vs.length = xs.length := by
  induction h with
  | nil => rfl
  | cons _ _ ih => simp [ih]
theorem RowsAt.get {nw vs xs} (h : RowsAt nw vs xs) {i : Nat} {v : Value} (hv : vs[i]? = some v) : ∃ x, xs[i]? = some x ∧ RowAt nw v x := by
  induction h generalizing i with
  | nil => cases hv
  | cons a _ ih =>
    cases i with
    | zero => cases hv; exact ⟨_, rfl, a⟩
    | succ i => exact ih hv
section
variable {prog : Program} {w : World} {A : Around} {h₀ : Heap} {L : Addr} {m : Loc} {nw rest : Led} {mg mb : Loc} {r : Nat} {env : Env} {K : Frag}
theorem args_int {pos : Pos} {i : Int} {k : Nat} {p : Pos} {rest : List Expr} {n : Nat} (h : Run prog w A h₀ L m nw (spliced (backTo pos (starEach rest env))) (fun vs m' nw' => AllInt n vs ∧ nw' = nw))
    (he : starEach (.Constant (.int i) k p :: rest) env = (false, eval (.Constant (.int i) k p) env) :: starEach rest env := by rfl) :
    Run prog w A h₀ L m nw (spliced (backTo pos (starEach (.Constant (.int i) k p :: rest) env))) (fun vs m' nw' => AllInt (n + 1) vs ∧ nw' = nw) :=
  args_ev ex_int (fun v ⟨t, e⟩ => h.mono fun vs m' nw' ⟨⟨h1, h2⟩, h3⟩ => ⟨⟨by simp [h1], fun u hu => by
    rcases List.mem_cons.mp hu with rfl | hu
    · exact ⟨i, t, e⟩
    · exact h2 u hu⟩, h3⟩) he
set_option maxHeartbeats 400000 in
theorem t_rest : Fn prog w (KH w.params) mg mb 1 (.ref 426) [] nw (fun v nw' => ∃ a items, v = .ref a ∧ AllInt 15 items ∧ (a, listOf items.toArray 0) ∈ nw' ∧ Kp [] nw nw') := by
  refine Fn.intro (d := 0) (binds := []) (by with_unfolding_all exact rfl) (by kernel_rfl) (fun s => BindsTo.of_eq rfl) (locs rfl) (by decide) rfl rfl rfl ?_
  intro r A h₀ L hr M
  refine sx_ret (P := fun v m' nw' => ∃ a items, v = .ref a ∧ AllInt 15 items ∧ (a, listOf items.toArray 0) ∈ nw' ∧ Kp [] nw nw') ?_ ?_
  · refine ex_list (P := fun vs m' nw' => AllInt 15 vs ∧ nw' = nw) ?_ ?_ ?_
    · iterate 15 refine args_int ?_
      exact args_nil ⟨⟨rfl, fun v hv => nomatch hv⟩, rfl⟩
    · intro vs m' nw' h
      rw [h.1.len]; decide
    · rintro vs m' nw' a ⟨h1, h3⟩
      rw [h3]
      exact ⟨a, vs, rfl, h1, .head _, Kp.cons⟩
  · intro v m' nw' h
    exact h
theorem args_row1 {pos : Pos} {X : Str} {a : Addr} {c : Nat} {x : Str} {px pi ps pt : Pos} {k1 k2 k3 : Nat} {rest : List Expr} {rs : List Row} (M : Fm (KH w.params) mg mb r A h₀ L) (hg : env.globals = mainGlobals) (hk : env.scope.kind = .function) (hX : env.kindOf X = some .globalImplicit) (hv : nsIn (KH w.params) mainGlobals X = some (some (.ref a)))
    (h : ∀ nw', Kp [] nw nw' → Run prog w A h₀ L m nw' (spliced (backTo pos (starEach rest env))) (fun vs m' nw'' => Kp [] nw' nw'' ∧ RowsAt nw'' vs rs)) (hd : (X == ("__debug__" : Str)) = false := by decide)
    (h1 : starEach [.Name X px, .Constant (.int c) k1 pi, .Constant (.str x) k2 ps] env = (false, eval (.Name X px) env) :: starEach [.Constant (.int c) k1 pi, .Constant (.str x) k2 ps] env := by rfl) (h2 : starEach [.Constant (.int c) k1 pi, .Constant (.str x) k2 ps] env = (false, eval (.Constant (.int c) k1 pi) env) :: starEach [.Constant (.str x) k2 ps] env := by rfl) (h3 : starEach [.Constant (.str x) k2 ps] env = (false, eval (.Constant (.str x) k2 ps) env) :: starEach [] env := by rfl)
    (he : starEach (.Tuple [.Name X px, .Constant (.int c) k1 pi, .Constant (.str x) k2 ps] k3 pt :: rest) env = (false, eval (.Tuple [.Name X px, .Constant (.int c) k1 pi, .Constant (.str x) k2 ps] k3 pt) env) :: starEach rest env := by rfl) :
    Run prog w A h₀ L m nw (spliced (backTo pos (starEach (.Tuple [.Name X px, .Constant (.int c) k1 pi, .Constant (.str x) k2 ps] k3 pt :: rest) env))) (fun vs m' nw'' => Kp [] nw nw'' ∧ RowsAt nw'' vs ((a, c, some x) :: rs)) :=
  args_cons (P := fun v m' nw' => m' = m ∧ Kp [] nw nw' ∧ RowAt nw' v (a, c, some x)) (ex_tuple (P := fun vs m' nw' => (∃ t u, vs = [.ref a, .int c t, .str x u]) ∧ m' = m ∧ nw' = nw)
      (args_ev (ex_global M hg hk hX hv hd) (fun v e => args_ev ex_int (fun v' ⟨t, e'⟩ => args_ev ex_str (fun v'' ⟨u, e''⟩ => args_nil ⟨⟨t, u, by rw [e, e', e'']⟩, rfl, rfl⟩) h3) h2) h1)
      (fun vs m' nw' ⟨⟨t, u, e⟩, _⟩ => by subst e; exact (show 3 < 1000 by decide)) (fun vs m' nw' b ⟨⟨t, u, e⟩, e1, e2⟩ => by subst e; subst e1; subst e2; exact ⟨rfl, Kp.cons, b, 0, _, _, rfl, .head _, ⟨t, rfl⟩, u, rfl⟩))
    (fun v m' nw' ⟨e1, k, hr⟩ => by subst e1; exact (h nw' k).mono fun vs m'' nw'' ⟨k2, hrs⟩ => ⟨k.trans k2, .cons (hr.keep0 k2) hrs⟩) he
theorem args_row0 {pos : Pos} {X : Str} {a : Addr} {c : Nat} {px pi ps pt : Pos} {k1 k2 k3 : Nat} {rest : List Expr} {rs : List Row} (M : Fm (KH w.params) mg mb r A h₀ L) (hg : env.globals = mainGlobals) (hk : env.scope.kind = .function) (hX : env.kindOf X = some .globalImplicit) (hv : nsIn (KH w.params) mainGlobals X = some (some (.ref a)))
    (h : ∀ nw', Kp [] nw nw' → Run prog w A h₀ L m nw' (spliced (backTo pos (starEach rest env))) (fun vs m' nw'' => Kp [] nw' nw'' ∧ RowsAt nw'' vs rs)) (hd : (X == ("__debug__" : Str)) = false := by decide)
    (h1 : starEach [.Name X px, .Constant (.int c) k1 pi, .Constant .none k2 ps] env = (false, eval (.Name X px) env) :: starEach [.Constant (.int c) k1 pi, .Constant .none k2 ps] env := by rfl) (h2 : starEach [.Constant (.int c) k1 pi, .Constant .none k2 ps] env = (false, eval (.Constant (.int c) k1 pi) env) :: starEach [.Constant .none k2 ps] env := by rfl) (h3 : starEach [.Constant .none k2 ps] env = (false, eval (.Constant .none k2 ps) env) :: starEach [] env := by rfl)
    (he : starEach (.Tuple [.Name X px, .Constant (.int c) k1 pi, .Constant .none k2 ps] k3 pt :: rest) env = (false, eval (.Tuple [.Name X px, .Constant (.int c) k1 pi, .Constant .none k2 ps] k3 pt) env) :: starEach rest env := by rfl) :
    Run prog w A h₀ L m nw (spliced (backTo pos (starEach (.Tuple [.Name X px, .Constant (.int c) k1 pi, .Constant .none k2 ps] k3 pt :: rest) env))) (fun vs m' nw'' => Kp [] nw nw'' ∧ RowsAt nw'' vs ((a, c, none) :: rs)) :=
  args_cons (P := fun v m' nw' => m' = m ∧ Kp [] nw nw' ∧ RowAt nw' v (a, c, none)) (ex_tuple (P := fun vs m' nw' => (∃ t, vs = [.ref a, .int c t, .none]) ∧ m' = m ∧ nw' = nw)
      (args_ev (ex_global M hg hk hX hv hd) (fun v e => args_ev ex_int (fun v' ⟨t, e'⟩ => args_ev ex_none (fun v'' e'' => args_nil ⟨⟨t, by rw [e, e', e'']⟩, rfl, rfl⟩) h3) h2) h1)
      (fun vs m' nw' ⟨⟨t, e⟩, _⟩ => by subst e; exact (show 3 < 1000 by decide)) (fun vs m' nw' b ⟨⟨t, e⟩, e1, e2⟩ => by subst e; subst e1; subst e2; exact ⟨rfl, Kp.cons, b, 0, _, _, rfl, .head _, ⟨t, rfl⟩, rfl⟩))
    (fun v m' nw' ⟨e1, k, hr⟩ => by subst e1; exact (h nw' k).mono fun vs m'' nw'' ⟨k2, hrs⟩ => ⟨k.trans k2, .cons (hr.keep0 k2) hrs⟩) he
set_option maxHeartbeats 4000000 in
theorem t_table : Fn prog w (KH w.params) mg mb 1 (.ref 433) [] nw (fun v nw' => ∃ a vs, v = .ref a ∧ RowsAt nw' vs rows ∧ (a, listOf vs.toArray 0) ∈ nw' ∧ Kp [] nw nw') := by
  refine Fn.intro (d := 0) (binds := []) (by with_unfolding_all exact rfl) (by kernel_rfl) (fun s => BindsTo.of_eq rfl) (locs rfl) (by decide) rfl rfl rfl ?_
  intro r A h₀ L hr M
  refine sx_ret (P := fun v m' nw' => ∃ a vs, v = .ref a ∧ RowsAt nw' vs rows ∧ (a, listOf vs.toArray 0) ∈ nw' ∧ Kp [] nw nw') (ex_list (P := fun vs m' nw' => Kp [] nw nw' ∧ RowsAt nw' vs rows) ?_ (fun vs m' nw' h => by rw [h.2.length]; decide) (fun vs m' nw' a ⟨h2, h3⟩ => ⟨a, vs, rfl, h3.keep0 Kp.cons, .head _, h2.trans Kp.cons⟩)) fun v m' nw' h => h
  refine args_row0 M rfl rfl rfl (by kernel_rfl) fun nw0 k0 => ?_
  refine args_row1 M rfl rfl rfl (by kernel_rfl) fun nw1 k1 => ?_
  refine args_row0 M rfl rfl rfl (by kernel_rfl) fun nw2 k2 => ?_
  refine args_row1 M rfl rfl rfl (by kernel_rfl) fun nw3 k3 => ?_
  refine args_row1 M rfl rfl rfl (by kernel_rfl) fun nw4 k4 => ?_
  refine args_row1 M rfl rfl rfl (by kernel_rfl) fun nw5 k5 => ?_
  refine args_row1 M rfl rfl rfl (by kernel_rfl) fun nw6 k6 => ?_
  refine args_row1 M rfl rfl rfl (by kernel_rfl) fun nw7 k7 => ?_
  refine args_row1 M rfl rfl rfl (by kernel_rfl) fun nw8 k8 => ?_
  refine args_row1 M rfl rfl rfl (by kernel_rfl) fun nw9 k9 => ?_
  refine args_row1 M rfl rfl rfl (by kernel_rfl) fun nw10 k10 => ?_
  refine args_row1 M rfl rfl rfl (by kernel_rfl) fun nw11 k11 => ?_
  refine args_row1 M rfl rfl rfl (by kernel_rfl) fun nw12 k12 => ?_
  refine args_row1 M rfl rfl rfl (by kernel_rfl) fun nw13 k13 => ?_
  refine args_row1 M rfl rfl rfl (by kernel_rfl) fun nw14 k14 => ?_
  refine args_row1 M rfl rfl rfl (by kernel_rfl) fun nw15 k15 => ?_
  refine args_row1 M rfl rfl rfl (by kernel_rfl) fun nw16 k16 => ?_
  refine args_row1 M rfl rfl rfl (by kernel_rfl) fun nw17 k17 => ?_
  refine args_row1 M rfl rfl rfl (by kernel_rfl) fun nw18 k18 => ?_
  refine args_row1 M rfl rfl rfl (by kernel_rfl) fun nw19 k19 => ?_
  refine args_row1 M rfl rfl rfl (by kernel_rfl) fun nw20 k20 => ?_
  refine args_row0 M rfl rfl rfl (by kernel_rfl) fun nw21 k21 => ?_
  refine args_row1 M rfl rfl rfl (by kernel_rfl) fun nw22 k22 => ?_
  refine args_row1 M rfl rfl rfl (by kernel_rfl) fun nw23 k23 => ?_
  refine args_row1 M rfl rfl rfl (by kernel_rfl) fun nw24 k24 => ?_
  refine args_row1 M rfl rfl rfl (by kernel_rfl) fun nw25 k25 => ?_
  refine args_row0 M rfl rfl rfl (by kernel_rfl) fun nw26 k26 => ?_
  refine args_row1 M rfl rfl rfl (by kernel_rfl) fun nw27 k27 => ?_
  refine args_row1 M rfl rfl rfl (by kernel_rfl) fun nw28 k28 => ?_
  refine args_row1 M rfl rfl rfl (by kernel_rfl) fun nw29 k29 => ?_
  refine args_row1 M rfl rfl rfl (by kernel_rfl) fun nw30 k30 => ?_
  refine args_row1 M rfl rfl rfl (by kernel_rfl) fun nw31 k31 => ?_
  refine args_row1 M rfl rfl rfl (by kernel_rfl) fun nw32 k32 => ?_
  refine args_row1 M rfl rfl rfl (by kernel_rfl) fun nw33 k33 => ?_
  refine args_row0 M rfl rfl rfl (by kernel_rfl) fun nw34 k34 => ?_
  refine args_row1 M rfl rfl rfl (by kernel_rfl) fun nw35 k35 => ?_
  refine args_row1 M rfl rfl rfl (by kernel_rfl) fun nw36 k36 => ?_
  refine args_row1 M rfl rfl rfl (by kernel_rfl) fun nw37 k37 => ?_
  refine args_row1 M rfl rfl rfl (by kernel_rfl) fun nw38 k38 => ?_
  exact args_nil ⟨Kp.refl, .nil⟩
end
end Mine

-- LW2
open PySem PySem.W PySem.Calls PyProof.Rows
set_option maxRecDepth 100000
set_option linter.unusedVariables false
namespace Mine
section
variable {prog : Program} {w : World} {A : Around} {h₀ : Heap} {L : Addr} {m : Loc} {nw rest : Led} {mg mb : Loc} {r : Nat} {env : Env} {K : Frag}
theorem kf_isfn182 {P : Params} : isFn (KH P) (.ref 182) = true := by kernel_rfl
theorem VeAt.of {x dx dp sp info : Addr} {es : List DictEntry} {n : Nat} {t : Tok} {doc sch : List Key} {code : Nat} (h1 : (x, instObj 240 dx) ∈ nw) (h2 : (dx, dictOf es n) ∈ nw) (h3 : getL "document_path" es = some (some (.ref dp))) (h4 : PathAt nw dp doc) (h5 : doc.length < 100)
    (h6 : getL "schema_path" es = some (some (.ref sp))) (h7 : PathAt nw sp sch) (h8 : sch.length < 100) (h9 : getL "code" es = some (some (.int code t))) (h10 : getL "info" es = some (some (.ref info))) : VeAt nw x doc sch code info :=
  ⟨dx, es, n, dp, sp, t, h1, h2, ⟨h3, h4, h5⟩, ⟨h6, h7, h8⟩, h9, h10⟩
theorem run_ve {dp sp info : Addr} {doc sch : List Key} {code : Nat} {t : Tok} {v4 v5 v6 : Value} {Q : Value → Loc → Led → Prop} (M : Fm (KH w.params) mg mb r A h₀ L) (hr : 2 ≤ r) (hd : PathAt nw dp doc) (hs : PathAt nw sp sch) (ld : doc.length < 100) (ls : sch.length < 100)
    (k : ∀ x nw', VeAt nw' x doc sch code info → Kp [] nw nw' → x ∉ keys nw → Q (.ref x) m nw') : Run prog w A h₀ L m nw (call (.ref 240) [.ref dp, .ref sp, .int code t, v4, v5, v6, .ref info]) Q :=
  run_new (d := 1) (P := fun x nw' => VeAt nw' x doc sch code info ∧ Kp [] nw nw' ∧ x ∉ keys nw) M kf_makes_240 kf_init_240 kf_isfn182 (fun x dx hxd fx fdx => (t_ve_init hxd (.head _) (.tail _ (.head _))).mono (Nat.le_refl _) fun v nw' ⟨e, kp, hx, es, n, hdx, g1, g2, g3, g4⟩ => by
    have k0 : Kp [] nw nw' := fun p hp _ => kp p (.tail _ (.tail _ hp)) fun hW => fdx (by rw [← List.mem_singleton.mp hW]; exact List.mem_map_of_mem (f := (·.1)) hp)
    exact ⟨e, VeAt.of hx hdx g1 (hd.keep0 k0) ld g2 (hs.keep0 k0) ls g3 g4, k0, fx⟩) hr fun x nw' ⟨h1, h2, h3⟩ => k x nw' h1 h2 h3
theorem rv_isnot_bool {a b : Bool} : Rv prog w A h₀ L m nw (compareOp .IsNot (.bool a) (.bool b)) (· = .bool (a != b)) := fun os fx s hs => wpAny_isNot_plain (by cases a <;> cases b <;> rfl) ⟨m, nw, hs, by cases a <;> cases b <;> rfl, rfl, rfl⟩
theorem rv_isnot_none {v : Value} (h : v = .none ∨ ∃ a, v = .ref a) : Rv prog w A h₀ L m nw (compareOp .IsNot v .none) (· = .bool (!(v == .none))) := fun os fx s hs => by
  rcases h with rfl | ⟨a, rfl⟩
  · exact wpAny_isNot_self rfl ⟨m, nw, hs, rfl, rfl, rfl⟩
  · exact isnot_ref_none ⟨m, nw, hs, rfl, rfl, rfl⟩
theorem rv_ge {a b : Int} {t u : Tok} : Rv prog w A h₀ L m nw (compareOp .GtE (.int a t) (.int b u)) (· = .bool (decide (b ≤ a))) := fun os fx s hs => ge_int ⟨m, nw, hs, rfl, rfl, rfl⟩
theorem rv_lt {a b : Int} {t u : Tok} : Rv prog w A h₀ L m nw (compareOp .Lt (.int a t) (.int b u)) (· = .bool (decide (a < b))) := fun os fx s hs => PyProof.Rows.lt_int ⟨m, nw, hs, rfl, rfl, rfl⟩
theorem rv_le {a b : Int} {t u : Tok} : Rv prog w A h₀ L m nw (compareOp .LtE (.int a t) (.int b u)) (· = .bool (decide (a ≤ b))) := fun os fx s hs => le_int ⟨m, nw, hs, rfl, rfl, rfl⟩
theorem rv_ne_int {a b : Int} {t u : Tok} : Rv prog w A h₀ L m nw (compareOp .NotEq (.int a t) (.int b u)) (· = .bool (a != b)) := fun os fx s hs => PyProof.Rows.ne_int ⟨m, nw, hs, rfl, rfl, rfl⟩
theorem rv_ne_rule {x : Option Str} {u v : Value} (M : Fm K mg mb (r + 3) A h₀ L) (hu : ruleV x u) (hv : ruleV x v) : Rv prog w A h₀ L m nw (compareOp .NotEq u v) (· = .bool false) := by
  cases x with
  | none => subst hu; subst hv; exact fun os fx s hs => ne_dataH (a := .none) (b := .none) (.none) (.none) (by decide +kernel) (by decide +kernel) (by have := M.units; omega) ⟨m, nw, hs, rfl, rfl, rfl⟩
  | some x =>
    obtain ⟨t, rfl⟩ := hu
    obtain ⟨t', rfl⟩ := hv
    exact fun os fx s hs => PySem.P.ne_str ⟨m, nw, hs, by simp, rfl, rfl⟩
/-- a test between two pure values -/
theorem tv_op {l r' : Expr} {op : CmpOp} {pos : Pos} {whole : Sem Value} {V V' : Value → Prop} {b : Bool} (hl : Ev prog w A h₀ L env m nw l V) (hr : Ev prog w A h₀ L env m nw r' V') (ho : ∀ a c, V a → V' c → Rv prog w A h₀ L m nw (compareOp op a c) (· = .bool b)) (hm : behindInMarks op r' = false := by with_unfolding_all rfl) :
    Run prog w A h₀ L m nw (isTrue (.Compare l [op] [r'] pos) env whole) (fun c m' nw' => c = b ∧ m' = m ∧ nw' = nw) :=
  tv_cmp hl hr (fun a c ha hc => (ho a c ha hc).mono fun v m' nw' ⟨e, e1⟩ => ⟨b, e, rfl, e1⟩) hm
theorem ev_op {l r' : Expr} {op : CmpOp} {pos : Pos} {V V' W : Value → Prop} (hl : Ev prog w A h₀ L env m nw l V) (hr : Ev prog w A h₀ L env m nw r' V') (ho : ∀ a c, V a → V' c → Rv prog w A h₀ L m nw (compareOp op a c) W) (hm : behindInMarks op r' = false := by with_unfolding_all rfl) :
    Ev prog w A h₀ L env m nw (.Compare l [op] [r'] pos) W := ev_cmp hl hr ho hm
/-- an item of a row -/
theorem ev_item {value : Expr} {pos p : Pos} {k : Nat} {i : Nat} {a : Addr} {items : List Value} {n : Nat} {v : Value} (hv : Ev prog w A h₀ L env m nw value (· = .ref a)) (ha : (a, tupO items n) ∈ nw) (hi : items[i]? = some v) (hlt : i < 1000)
    (hs : ∀ t, subscripted (.Constant (.int i) k p) false (.ref a) (.int i t) = operate [.ref a, .int i t] (getItem (.ref a) (.int i t)) := by intro _; with_unfolding_all rfl) : Ev prog w A h₀ L env m nw (.Subscript value (.Constant (.int i) k p) pos) (· = v) :=
  ev_sub (V := (· = .ref a)) (V' := VI i) hv ex_int fun o j ho ⟨t, hj⟩ => by subst ho; subst hj; exact run_item_tuple ha (by omega) (by omega) (by simpa using hi) ⟨rfl, rfl, rfl⟩ (hs t)
end
end Mine

-- LW3
open PySem PySem.W PySem.Calls PyProof.Rows
set_option maxRecDepth 100000
set_option linter.unusedVariables false
namespace Mine
theorem rows_facts : ∀ x ∈ rows, ((((x.2.1 &&& 128 : Nat) : Int) != 0) = decide (128 ≤ x.2.1)) ∧ ((((x.2.1 &&& 16 : Nat) : Int) != 0) = decide (144 ≤ x.2.1)) ∧ ((x.2.1 < 32 ∨ 96 ≤ x.2.1) → (((x.2.1 &&& 96 : Nat) : Int) != 0) = (decide (96 ≤ x.2.1) && decide (x.2.1 < 128))) := by
  have h : rows.all (fun x => decide (((((x.2.1 &&& 128 : Nat) : Int) != 0) = decide (128 ≤ x.2.1)) ∧ ((((x.2.1 &&& 16 : Nat) : Int) != 0) = decide (144 ≤ x.2.1)) ∧ ((x.2.1 < 32 ∨ 96 ≤ x.2.1) → (((x.2.1 &&& 96 : Nat) : Int) != 0) = (decide (96 ≤ x.2.1) && decide (x.2.1 < 128))))) = true := by decide +kernel
  intro x hx
  exact of_decide_eq_true (List.all_eq_true.mp h x hx)
section
variable {prog : Program} {w : World} {A : Around} {h₀ : Heap} {L : Addr} {m : Loc} {nw rest : Led} {mg mb : Loc} {r : Nat} {env : Env} {K : Frag}
theorem args_kt {pos : Pos} {e : Expr} {rest : List Expr} {V : Value → Led → Prop} {Q : List Value → Loc → Led → Prop} (h : Ex prog w A h₀ L env m nw e (Kt m nw V))
    (k : ∀ v nw', Kp [] nw nw' → V v nw' → Run prog w A h₀ L m nw' (spliced (backTo pos (starEach rest env))) (fun vs => Q (v :: vs)))
    (he : starEach (e :: rest) env = (false, eval e env) :: starEach rest env := by rfl) : Run prog w A h₀ L m nw (spliced (backTo pos (starEach (e :: rest) env))) Q :=
  args_cons h (fun v m' nw' ⟨a, b, c⟩ => by subst a; exact k v nw' b c) he
theorem ex_path1 {s : Str} {k1 k2 : Nat} {p pos : Pos} {k : Key} (hk : ∀ t, vkey (.str s t) = some k) (hs : starEach [.Constant (.str s) k1 p] env = (false, eval (.Constant (.str s) k1 p) env) :: starEach [] env := by rfl) :
    Ex prog w A h₀ L env m nw (.Tuple [.Constant (.str s) k1 p] k2 pos) (Kt m nw fun v nw' => ∃ a, v = .ref a ∧ PathAt nw' a [k]) :=
  ex_tuple (P := fun vs m' nw' => (∃ t, vs = [.str s t]) ∧ m' = m ∧ nw' = nw) (args_ev ex_str (fun v ⟨t, e⟩ => args_nil ⟨⟨t, by rw [e]⟩, rfl, rfl⟩) hs)
    (fun vs m' nw' ⟨⟨t, e⟩, _⟩ => by subst e; exact (show 1 < 1000 by decide)) (fun vs m' nw' a ⟨⟨t, e⟩, e1, e2⟩ => by subst e; subst e1; subst e2; exact ⟨rfl, Kp.cons, a, rfl, _, 0, .head _, KVs.key (hk t)⟩)
theorem ev_chain2 {l r1 r2 : Expr} {op1 op2 : CmpOp} {pos : Pos} {a b c : Int} {x y : Bool} (hl : Ev prog w A h₀ L env m nw l (VI a)) (h1 : Ev prog w A h₀ L env m nw r1 (VI b)) (h2 : Ev prog w A h₀ L env m nw r2 (VI c))
    (o1 : ∀ t u, Rv prog w A h₀ L m nw (compareOp op1 (.int a t) (.int b u)) (· = .bool x)) (o2 : ∀ t u, Rv prog w A h₀ L m nw (compareOp op2 (.int b t) (.int c u)) (· = .bool y)) (hm : lastMarks [op1, op2] [r1, r2] = false := by with_unfolding_all rfl) :
    Ev prog w A h₀ L env m nw (.Compare l [op1, op2] [r1, r2] pos) (· = .bool (x && y)) := fun os fx s hs =>
  Compare_chain (wpAny_mono (hl os fx s hs) (fun v s₁ ⟨m1, nw1, hs1, ⟨t, e⟩, e1, e2⟩ => by
    subst e; subst e1; subst e2
    refine chain_link (wpAny_mono (h1 os fx s₁ hs1) (fun v s₂ ⟨m2, nw2, hs2, ⟨u, e⟩, e1, e2⟩ => ?_) fun _ _ x => x)
    subst e; subst e1; subst e2
    refine wpAny_mono (o1 t u os fx s₂ hs2) (fun v s₃ ⟨m3, nw3, hs3, e, e1, e2⟩ => ?_) fun _ _ x => x
    subst e; subst e1; subst e2
    refine wpAny_truthy_bool ?_
    cases x with
    | false => exact ⟨m3, nw3, hs3, rfl, rfl, rfl⟩
    | true =>
      refine chain_last (wpAny_mono (h2 os fx s₃ hs3) (fun v s₄ ⟨m4, nw4, hs4, ⟨u', e⟩, e1, e2⟩ => ?_) fun _ _ x => x)
      subst e; subst e1; subst e2
      exact wpAny_mono (o2 u u' os fx s₄ hs4) (fun v s₅ ⟨m5, nw5, hs5, e, e1, e2⟩ => by subst e; subst e1; subst e2; exact ⟨m5, nw5, hs5, rfl, rfl, rfl⟩) fun _ _ x => x) fun _ _ x => x) hm
theorem tv_b {e : Expr} {B B' : Bool → Prop} (h : Tv prog w A h₀ L env m nw e B') (k : ∀ b, B' b → B b) : Tv prog w A h₀ L env m nw e B := h.mono fun b m' nw' ⟨a, c⟩ => ⟨k b a, c⟩
theorem t_flags {x : Row} {ra : Addr} (hx : x ∈ rows) (hrow : RowAt nw (.ref ra) x) : Fp prog w (KH w.params) mg mb 12 (.ref 440) [.ref ra] nw (· = .bool true) := by
  obtain ⟨a, n, cv, rv, e, hra, ⟨tc, hcv⟩, hrv⟩ := hrow
  obtain rfl : ra = a := by injection e
  subst hcv
  obtain ⟨f1, f2, f3⟩ := rows_facts x hx
  have D := rows_def (P := w.params) x hx
  obtain ⟨da, c, rl⟩ := x
  dsimp only at f1 f2 f3 D hra hrv
  refine Fn.intro (d := 11) (binds := [("row", .ref ra)]) (by with_unfolding_all exact rfl) (by kernel_rfl) (fun s => BindsTo.of_eq rfl) (locs rfl) (by decide) rfl rfl rfl ?_
  intro r A h₀ L hr M
  -- fault
  refine sx_assign rfl rfl rfl (P := fun v m' nw' => (m' "row" = some (.ref ra)) ∧ Kp [] nw nw' ∧ ∃ xf info items ni, v = .ref xf ∧ VeAt nw' xf [.a] [.b] c info ∧ (info, tupO items ni) ∈ nw') (ex_callK (P := fun vs m' nw' => (m' "row" = some (.ref ra)) ∧ Kp [] nw nw' ∧ ∃ dp sp info items ni, vs = [.ref dp, .ref sp, .int c tc, rv, .none, .none, .ref info] ∧ PathAt nw' dp [.a] ∧ PathAt nw' sp [.b] ∧ (info, tupO items ni) ∈ nw') M (ex_global M rfl rfl rfl kg_ValidationError) kk_ValidationError ?_ ?_) ?_
  · refine args_kt (ex_path1 (k := .a) fun t => rfl) fun v1 nw1 k1 ⟨dp, e1, hdp⟩ => ?_
    refine args_kt (ex_path1 (k := .b) fun t => rfl) fun v2 nw2 k2 ⟨sp, e2, hsp⟩ => ?_
    have hra2 := k2.get (k1.get hra)
    refine args_ev (V := (· = .int c tc)) (ev_item (i := 1) (ex_local rfl rfl rfl rfl) hra2 rfl (by decide)) fun v3 e3 => ?_
    refine args_ev (V := (· = rv)) (ev_item (i := 2) (ex_local rfl rfl rfl rfl) hra2 rfl (by decide)) fun v4 e4 => ?_
    refine args_ev ex_none fun v5 e5 => args_ev ex_none fun v6 e6 => ?_
    refine args_kt (V := fun v nw' => ∃ info items ni, v = .ref info ∧ (info, tupO items ni) ∈ nw') (ex_ifexp (B := fun _ => True) (tv_b (tv_op (V := (· = .int c tc)) (V' := VI 128) (ev_item (i := 1) (ex_local rfl rfl rfl rfl) hra2 rfl (by decide)) ex_int fun a b ha ⟨t, hb⟩ => by subst ha; subst hb; exact rv_ge) fun _ _ => trivial) (fun _ => ?_) (fun _ => ?_)) fun v7 nw7 k7 ⟨info, items, ni, e7, h7⟩ => ?_
    · exact ex_tuple (P := fun vs m' nw' => vs.length = 1 ∧ m' = _ ∧ Kp [] nw2 nw') (args_cons (P := fun v m' nw' => m' = _ ∧ Kp [] nw2 nw') (ex_callK0 M (ex_global M rfl rfl rfl kg_ErrorList) kk_ErrorList (run_EL0 M fun e de n h1 h2 h3 => ⟨rfl, Kp.cons.trans Kp.cons⟩)) fun v m' nw' ⟨e1, k⟩ => args_nil ⟨rfl, e1, k⟩)
        (fun vs m' nw' ⟨e, _⟩ => by rw [e]; decide) (fun vs m' nw' b ⟨e, e1, k⟩ => ⟨e1, k.trans Kp.cons, b, vs, 0, rfl, .head _⟩)
    · exact ex_tuple (P := fun vs m' nw' => vs.length = 0 ∧ m' = _ ∧ Kp [] nw2 nw') (args_nil ⟨rfl, rfl, Kp.refl⟩)
        (fun vs m' nw' ⟨e, _⟩ => by rw [e]; decide) (fun vs m' nw' b ⟨e, e1, k⟩ => ⟨e1, k.trans Kp.cons, b, vs, 0, rfl, .head _⟩)
    · exact args_nil ⟨rfl, (k1.trans k2).trans k7, dp, sp, info, items, ni, by rw [e1, e2, e3, e4, e5, e6, e7], (hdp.keep0 k2).keep0 k7, hsp.keep0 k7, h7⟩
  · rintro vs m' nw' ⟨hm, kk, dp, sp, info, items, ni, rfl, hdp, hsp, hi⟩
    exact run_ve M (by omega) hdp hsp (by decide) (by decide) fun xf nw2 V k2 _ => ⟨hm, kk.trans k2, xf, info, items, ni, rfl, V, k2.get hi⟩
  rintro v m1 nw1 ⟨mr, kk, xf, info, items, ni, rfl, V, hinfo⟩
  have hra1 := kk.get hra
  have g128 : decide ((128 : Int) ≤ (c : Int)) = decide (128 ≤ c) := decide_eq_decide.mpr (by omega)
  have g144 : decide ((144 : Int) ≤ (c : Int)) = decide (144 ≤ c) := decide_eq_decide.mpr (by omega)
  have g32 : decide ((c : Int) < 32) = decide (c < 32) := decide_eq_decide.mpr (by omega)
  have g96 : decide ((96 : Int) ≤ (c : Int)) = decide (96 ≤ c) := decide_eq_decide.mpr (by omega)
  have gl128 : decide ((c : Int) < 128) = decide (c < 128) := decide_eq_decide.mpr (by omega)
  obtain ⟨r4, hr4⟩ : ∃ r4, r = r4 + 3 := ⟨r - 3, by omega⟩
  -- code and rule
  refine sv_if (B := (· = false)) (tv_or (or_cons (B := (· = false)) (tv_op (V := VI c) (V' := (· = .int c tc)) (ev_at (ev_item (i := 0) (ex_local rfl rfl rfl mr) hra1 rfl (by decide)) (def_code M D)) (ev_item (i := 1) (ex_local rfl rfl rfl mr) hra1 rfl (by decide)) fun a b ⟨t, ha⟩ hb => by
      subst ha; subst hb; exact Run.mono rv_ne_int fun v m' nw' ⟨e, e1⟩ => ⟨by rw [e]; simp, e1⟩) (fun h => absurd h (by decide)) fun _ =>
    or_cons (B := (· = false)) (tv_op (V := ruleV rl) (V' := (· = rv)) (ev_mono (ev_at (ev_item (i := 0) (ex_local rfl rfl rfl mr) hra1 rfl (by decide)) (def_rule M D)) fun v h => by cases rl <;> exact h) (ev_item (i := 2) (ex_local rfl rfl rfl mr) hra1 rfl (by decide)) fun a b ha hb => by
      subst hb; subst hr4; exact rv_ne_rule M ha hrv) (fun h => absurd h (by decide)) fun _ => or_nil ⟨rfl, rfl, rfl⟩)) (fun h => absurd h (by decide)) (fun _ => ?_)
  refine sx_nil ?_
  -- kinds
  refine sv_if (B := (· = false)) (tv_or (or_cons (B := (· = false)) (tv_op (V := (· = .bool (((c &&& 128 : Nat) : Int) != 0))) (V' := (· = .bool (decide ((128 : Int) ≤ c)))) (ev_at (ex_local rfl rfl rfl rfl) (ve_is_group M V (by omega))) (ev_op (V := (· = .int c tc)) (V' := VI 128) (ev_item (i := 1) (ex_local rfl rfl rfl mr) hra1 rfl (by decide)) ex_int fun a b ha ⟨t, hb⟩ => by subst ha; subst hb; exact rv_ge) fun a b ha hb => by
      subst ha; subst hb; exact Run.mono rv_isnot_bool fun v m' nw' ⟨e, e1⟩ => ⟨by rw [e, f1, g128]; simp, e1⟩) (fun h => absurd h (by decide)) fun _ =>
    or_cons (B := (· = false)) (tv_op (V := (· = .bool (((c &&& 16 : Nat) : Int) != 0))) (V' := (· = .bool (decide ((144 : Int) ≤ c)))) (ev_at (ex_local rfl rfl rfl rfl) (ve_is_logic M V (by omega))) (ev_op (V := (· = .int c tc)) (V' := VI 144) (ev_item (i := 1) (ex_local rfl rfl rfl mr) hra1 rfl (by decide)) ex_int fun a b ha ⟨t, hb⟩ => by subst ha; subst hb; exact rv_ge) fun a b ha hb => by
      subst ha; subst hb; exact Run.mono rv_isnot_bool fun v m' nw' ⟨e, e1⟩ => ⟨by rw [e, f2, g144]; simp, e1⟩) (fun h => absurd h (by decide)) fun _ => or_nil ⟨rfl, rfl, rfl⟩)) (fun h => absurd h (by decide)) (fun _ => ?_)
  refine sx_nil ?_
  -- of normalizing
  refine sv_if (B := (· = false)) (tv_and (and_cons (B := fun b => b = true → (c < 32 ∨ 96 ≤ c)) (tv_or (or_cons (B := fun b => b = decide (c < 32)) (tv_op (V := (· = .int c tc)) (V' := VI 32) (ev_item (i := 1) (ex_local rfl rfl rfl mr) hra1 rfl (by decide)) ex_int fun a b ha ⟨t, hb⟩ => by
        subst ha; subst hb; exact Run.mono rv_lt fun v m' nw' ⟨e, e1⟩ => ⟨by rw [e, g32], e1⟩) (fun h => ⟨fun _ => .inl (by simpa using h.symm), rfl, rfl⟩) fun _ =>
      or_cons (B := fun b => b = decide (96 ≤ c)) (tv_op (V := (· = .int c tc)) (V' := VI 96) (ev_item (i := 1) (ex_local rfl rfl rfl mr) hra1 rfl (by decide)) ex_int fun a b ha ⟨t, hb⟩ => by
        subst ha; subst hb; exact Run.mono rv_ge fun v m' nw' ⟨e, e1⟩ => ⟨by rw [e, g96], e1⟩) (fun h => ⟨fun _ => .inr (by simpa using h.symm), rfl, rfl⟩) fun _ => or_nil ⟨fun h => absurd h (by decide), rfl, rfl⟩)) (fun _ => ⟨rfl, rfl, rfl⟩) fun hc =>
    and_cons (B := (· = false)) (tv_op (V := (· = .bool (((c &&& 96 : Nat) : Int) != 0))) (V' := (· = .bool (decide ((96 : Int) ≤ c) && decide ((c : Int) < 128)))) (ev_at (ex_local rfl rfl rfl rfl) (ve_is_norm M V (by omega)))
        (ev_chain2 (a := 96) (b := c) (c := 128) ex_int (ev_mono (ev_item (i := 1) (ex_local rfl rfl rfl mr) hra1 rfl (by decide)) fun v e => ⟨tc, e⟩) ex_int (fun t u => rv_le) fun t u => rv_lt) fun a b ha hb => by
      subst ha; subst hb; exact Run.mono rv_isnot_bool fun v m' nw' ⟨e, e1⟩ => ⟨by rw [e, f3 (hc rfl), g96, gl128]; simp, e1⟩) (fun _ => ⟨rfl, rfl, rfl⟩) fun h => absurd h (by decide))) (fun h => absurd h (by decide)) (fun _ => ?_)
  refine sx_nil ?_
  -- plain ones
  refine sv_if (B := (· = false)) (tv_and (and_cons (B := fun b => b = decide (c < 128)) (tv_op (V := (· = .int c tc)) (V' := VI 128) (ev_item (i := 1) (ex_local rfl rfl rfl mr) hra1 rfl (by decide)) ex_int fun a b ha ⟨t, hb⟩ => by
        subst ha; subst hb; exact Run.mono rv_lt fun v m' nw' ⟨e, e1⟩ => ⟨by rw [e, gl128], e1⟩) (fun _ => ⟨rfl, rfl, rfl⟩) fun hc =>
    and_cons (B := (· = false)) (tv_op (V := (· = .none)) (V' := (· = .none)) (ev_at (ex_local rfl rfl rfl rfl) (ve_child M V (v := .none) hinfo (fun h => ?_) (fun _ => rfl) rfl (by omega))) ex_none fun a b ha hb => by
      subst ha; subst hb; exact rv_isnot_none (.inl rfl)) (fun _ => ⟨rfl, rfl, rfl⟩) fun h => absurd h (by decide))) (fun h => absurd h (by decide)) (fun _ => ?_)
  · have hc' : c < 128 := by simpa using hc.symm
    exfalso
    have : decide (128 ≤ c) = false := by simpa using hc'
    rw [this] at f1
    exact h (by simpa using f1)
  refine sx_nil ?_
  refine sv_ret (V := (· = .bool true)) (ex_or2 (B := fun b => b = decide (144 ≤ c)) (ev_op (V := (· = .int c tc)) (V' := VI 144) (ev_item (i := 1) (ex_local rfl rfl rfl mr) hra1 rfl (by decide)) ex_int fun a b ha ⟨t, hb⟩ => by
      subst ha; subst hb; exact Run.mono rv_ge fun v m' nw' ⟨e, e1⟩ => ⟨⟨_, e, by rw [g144]⟩, e1⟩) (fun _ => ⟨rfl, rfl, rfl⟩) fun hc => ?_) fun v hv => ⟨hv, kk⟩
  have hc' : ((c &&& 16 : Nat) : Int) = 0 := by
    rw [← hc] at f2
    simpa using f2
  exact ev_op (V := (· = .none)) (V' := (· = .none)) (ev_at (ex_local rfl rfl rfl rfl) (ve_defs M V hc' (by omega))) ex_none fun a b ha hb => by
    subst ha; subst hb; exact rv_is_none (.inl rfl)
end
end Mine

-- FC
open PySem PySem.W PySem.Calls PyProof.Rows
set_option maxRecDepth 100000
set_option linter.unusedVariables false
namespace Mine
section
variable {prog : Program} {w : World} {A : Around} {h₀ : Heap} {L : Addr} {m : Loc} {nw rest : Led} {mg mb : Loc} {r : Nat} {env : Env} {K : Frag}
/-- enter a def with one cell, a parameter of its own -/
theorem FnC.intro {d : Nat} {f : Addr} {oc : Value} {od : Option Addr} {osl : Array (Option Value)} {name qual cx : Str} {params : Arguments} {body : List Stmt} {scope : Scope} {dV kV doc pm cdv ct cv : Value} {an : Option Addr} {args : List Value} {binds : List (Str × Value)} {P : Value → Led → Prop}
    (ho : K.lookup f = some ⟨oc, od, .func (fnOf name qual params body scope dV kV doc pm an cdv ct), osl⟩) (hcd : codeIn K cdv qual = true)
    (hbind : ∀ s, BindsTo s (fnOf name qual params body scope dV kV doc pm an cdv ct) ⟨args, []⟩ binds)
    (hkind : ∀ n, ∀ x ∈ binds, scope.names.lookup x.1 = some .local ∨ (scope.names.lookup x.1 = some .cell ∧ ((cellsFrom n scope.names []).lookup x.1).isSome = true))
    (hone : ∀ n, cellsFrom n scope.names [] = [(cx, n)]) (hcv : ∀ L, bindC (envOfC qual scope L f cdv).kindOf binds (fun _ => none) cx = some cv)
    (hco : scope.isCoroutine = false) (hgen : scope.isGenerator = false) (hk : scope.kind = .function)
    (h : ∀ r A h₀ L oC, d ≤ r → Fm K mg mb r A h₀ L → oC.data = .cell (some cv) → (L + 1) ∉ keys nw → Run prog w A h₀ L (bindL (envOfC qual scope L f cdv).kindOf binds fun _ => none) ((L + 1, oC) :: nw) (execs body (envOfC qual scope L f cdv)) (fun fl _ nw' => P (match fl with | .ret v => v | _ => .none) nw')) :
    Fn prog w K mg mb (d + 1) (.ref f) args nw P := by
  intro r A h₀ L m os fx s hr M hs
  obtain ⟨A₀, base, outer, fe, B, hA, hf, hke⟩ := M.below
  have X : K.In s.heap := hs.inK M
  obtain ⟨r', rfl⟩ : ∃ r', r = r' + 1 := ⟨r - 1, by omega⟩
  refine callX_cells B hs.F hs.N M.gr.nolimit hA hf hke (X _ _ ho) rfl (codeRec_of X hcd) (by have := M.room; omega) (hbind s) hkind (by rw [hone]; simp) (fun g L' h₁ tk cells FG F' N' CA BG st hlt => ?_) hco hgen hk
  have M' : Fm K mg mb r' (A.deeper (envOfC qual scope L' f cdv)) g L' := Fm.deeper M BG hA (M.gr.keeps st) rfl hk
  rw [hone] at CA
  obtain ⟨oC, rfl, hoC⟩ := CA.one
  rw [hcv] at hoC
  have fresh : (L' + 1) ∉ (nw ++ fx).map (·.1) := fun hm => by
    obtain ⟨p, hp, e⟩ := List.mem_map.mp hm
    have := hlt p hp
    rw [e] at this
    exact Nat.lt_irrefl _ (Nat.lt_trans (Nat.lt_succ_self _) this)
  have hst : St g L' os (bindL (envOfC qual scope L' f cdv).kindOf binds fun _ => none) ((L' + 1, oC) :: nw) fx { s with heap := h₁, toks := tk } := by
    refine ⟨F', N', ?_, hs.os, hs.bare⟩
    rw [List.cons_append, List.map_cons, List.nodup_cons]
    exact ⟨fresh, hs.D⟩
  refine wpAny_mono (h r' _ g L' oC (by omega) M' hoC (fun hm => fresh (by rw [List.map_append]; exact List.mem_append_left _ hm)) os fx _ hst) (fun fl s' ⟨m', nw', hs', hp⟩ => ?_) fun _ _ x => x.elim
  exact ⟨L', m', nw' ++ fx, hs'.F, hs'.N, fun F N => ⟨_, nw', rfl, ⟨F, N, hs'.D, hs'.os, hs'.bare⟩, hp⟩⟩
end
end Mine

-- LP
open PySem PySem.W PySem.Calls PyProof.Rows
set_option maxRecDepth 100000
set_option linter.unusedVariables false
namespace Mine
section
variable {prog : Program} {w : World} {A : Around} {h₀ : Heap} {L : Addr} {m : Loc} {nw rest : Led} {mg mb : Loc} {r : Nat} {env : Env} {K : Frag}
theorem rv_mod {a b : Int} {t u : Tok} (hb : b ≠ 0) : Rv prog w A h₀ L m nw (binaryOp .Mod (.int a t) (.int b u)) (VI (a.fmod b)) := fun os fx s hs =>
  PySem.AutoIntOps.mod_1 (by simpa using hb) ⟨m, nw, hs.toks, ⟨_, rfl⟩, rfl, rfl⟩
theorem rv_fdiv {a b : Int} {t u : Tok} (hb : b ≠ 0) (hp : Builtin.divisionGoesByPylong a b = false) : Rv prog w A h₀ L m nw (binaryOp .FloorDiv (.int a t) (.int b u)) (VI (a.fdiv b)) := fun os fx s hs =>
  PySem.AutoIntOps.floordiv_1 (by simpa using hb) (by rw [hp]; decide) ⟨m, nw, hs.toks, ⟨_, rfl⟩, rfl, rfl⟩
theorem rv_pow3 {b : Nat} {t u : Tok} (h1 : 1 ≤ b) (h3 : b ≤ 3) : Rv prog w A h₀ L m nw (binaryOp .Pow (.int 3 t) (.int b u)) (VI (3 ^ b)) := fun os fx s hs => by
  refine PySem.AutoIntOps.pow_4 (by omega) (by simp; omega) (by decide) (by decide) ?_ ⟨m, nw, hs.toks, ⟨_, rfl⟩, rfl, rfl⟩
  have : b = 1 ∨ b = 2 ∨ b = 3 := by omega
  rcases this with rfl | rfl | rfl <;> decide +kernel
theorem pylong_small (a : Int) {b : Nat} (h1 : 1 ≤ b) (h3 : b ≤ 3) : Builtin.divisionGoesByPylong a (3 ^ b) = false := by
  have : b = 1 ∨ b = 2 ∨ b = 3 := by omega
  unfold Builtin.divisionGoesByPylong
  rcases this with rfl | rfl | rfl <;> (dsimp only; rw [Bool.and_eq_false_iff]; left; decide +kernel)
theorem run_item_list {value slice : Expr} {a : Addr} {items : List Value} {n : Nat} {k : Int} {u : Tok} {x : Value} {Q : Value → Loc → Led → Prop} (ha : (a, listOf items.toArray n) ∈ nw) (h0 : 0 ≤ k) (h1 : k < 2 ^ 30) (hx : items[k.toNat]? = some x) (h : Q x m nw)
    (hs : subscripted slice false (.ref a) (.int k u) = operate [.ref a, .int k u] (getItem (.ref a) (.int k u)) := by with_unfolding_all rfl) : Run prog w A h₀ L m nw (subscriptTail value slice (.ref a) (.int k u)) Q := fun os fx s hst => by
  have hl : s.heap.IsList a items.toArray := ⟨_, hst.get ha, rfl, n, rfl⟩
  exact tail_any hl.typeIs slot_list_getitem.lookup (wpAny_getItem_list hl h0 (by omega) (by simpa using hx) ⟨m, nw, hst, h⟩) hs
end
end Mine

-- LP2
open PySem PySem.W PySem.Calls PyProof.Rows
set_option maxRecDepth 100000
set_option linter.unusedVariables false
namespace Mine
section
variable {prog : Program} {w : World} {A : Around} {h₀ : Heap} {L : Addr} {m : Loc} {nw rest : Led} {mg mb : Loc} {r : Nat} {env : Env} {K : Frag} {α β : Type}
theorem tests_nil {env' : Env} {P : Bool → Loc → Led → Prop} (h : P true m nw) : Run prog w A h₀ L m nw (forIn ([] : List Expr) true fun c r => if r = true then do let ok ← PySem.isTrue c env' (eval c env'); pure (ForInStep.yield ok) else pure (ForInStep.yield r)) P := fun os fx s hs => wpAny_tests_nil ⟨m, nw, hs, h⟩
theorem tests_one {c : Expr} {env' : Env} {P : Bool → Loc → Led → Prop} (h : Run prog w A h₀ L m nw (PySem.isTrue c env' (eval c env')) P) : Run prog w A h₀ L m nw (forIn ([c] : List Expr) true fun c r => if r = true then do let ok ← PySem.isTrue c env' (eval c env'); pure (ForInStep.yield ok) else pure (ForInStep.yield r)) P := fun os fx s hs => wpAny_tests_one (h os fx s hs)
theorem run_tuple_list {l : Addr} {items : List Value} {n : Nat} {Q : Value → Loc → Led → Prop} (ha : (l, listOf items.toArray n) ∈ nw) (hz : items.length < 1000) (h : ∀ D, Q (.ref D) m ((D, tupO items 0) :: nw)) : Run prog w A h₀ L m nw (call (.type "tuple") [.ref l]) Q := fun os fx s hs =>
  call_tuple_list (items := items.toArray) ⟨_, hs.get ha, rfl, n, rfl⟩ (fun h' hk => ⟨m, _, (hs.grow (tk := s.toks) hk).push (tupO items 0) rfl, h _⟩) (by rw [List.size_toArray]; have e : sizeLine = 2 ^ 24 := rfl; omega)
theorem Run.genm {t : Sem α} {P : α → Loc → Led → Prop} (h : ∀ m0, m0 = m → Run prog w A h₀ L m0 nw t P) : Run prog w A h₀ L m nw t P := h m rfl
theorem t_path {i : Int} {t : Tok} : Fn prog w (KH w.params) mg mb 3 (.ref 445) [.int i t] nw (fun v nw' => ∃ a p, v = .ref a ∧ PathAt nw' a p ∧ p.length ≤ 3 ∧ Key.y ∉ p ∧ Kp [] nw nw') := by
  refine FnC.intro (d := 2) (cx := "n") (cv := .int i t) (binds := [("n", .int i t)]) (by with_unfolding_all exact rfl) (by kernel_rfl) (fun s => BindsTo.of_eq rfl) (fun n x hx => by rw [List.mem_singleton.mp hx]; exact .inr ⟨rfl, rfl⟩) (fun n => rfl) (fun L => rfl) rfl rfl rfl ?_
  intro r A h₀ L oC hr M hoC hfr
  refine Run.genm fun m0 hm0 => ?_
  clear hm0
  obtain ⟨c, hc⟩ : ∃ c : Nat, i.fmod 4 = (c : Int) := ⟨(i.fmod 4).toNat, by have := Int.fmod_nonneg_of_pos i (show (0 : Int) < 4 by decide); omega⟩
  have hc4 : c < 4 := by have := Int.fmod_lt_of_pos i (show (0 : Int) < 4 by decide); omega
  have kc : Kp [] nw ((L + 1, oC) :: nw) := Kp.cons
  refine sx_ret (P := fun v m' nw' => ∃ a p, v = .ref a ∧ PathAt nw' a p ∧ p.length ≤ 3 ∧ Key.y ∉ p ∧ Kp [] nw nw') (ex_call (ex_builtin M rfl rfl rfl rfl kb_tuple rfl (by decide)) fun f m' nw' ⟨e1, e2, e3⟩ => ?_) fun v m' nw' h => h
  subst e1; rw [e2, e3]
  refine cw_type (P := fun vs m' nw' => ∃ D ys p, vs = [.ref D] ∧ (D, LCg.lst ys) ∈ nw' ∧ KVs ys p ∧ p.length = c ∧ Key.y ∉ p ∧ Kp [] nw nw') (args_kt (V := fun v nw' => ∃ D ys p, v = .ref D ∧ (D, LCg.lst ys) ∈ nw' ∧ KVs ys p ∧ p.length = c ∧ Key.y ∉ p) ?_ fun v nw' k ⟨D, ys, p, e, h1, h2, h3, h4⟩ => args_nil ⟨D, ys, p, by rw [e], h1, h2, h3, h4, kc.trans k⟩) (fun vs m' nw' ⟨D, ys, p, e, h1, h2, h3, h4, k⟩ => by
    subst e
    have hl := h2.length
    exact run_tuple_list (items := ys) (n := ys.length) h1 (by omega) fun D' => ⟨D', p, rfl, ⟨ys, 0, .head _, h2⟩, by omega, h4, k.trans Kp.cons⟩)
  refine ex_comp (cl := [("n", L + 1)]) (P := Kt m0 ((L + 1, oC) :: nw) fun v nw' => ∃ a t u v', v = .ref a ∧ (a, rangeO (c : Int) t u v') ∈ nw') (It := fun v i o => o = { cls := .type "range_iterator", dict := none, data := .fields #[rawInt (i : Int), rawInt ((c : Int) - i), rawInt 1], slots := #[] }) (n := fun _ => c) (V := fun _ i v => ∃ t, v = .int i t) (need := fun _ _ => True)
    (fun v nw' i ys => ∃ p, KVs ys p ∧ p.length = i ∧ Key.y ∉ p) rfl (by decide) rfl (by decide) rfl ?_ ?_ ?_ ?_ ?_ ?_ ?_
  · exact ex_range M rfl rfl rfl rfl (ev_binop (V := (· = .int i t)) (V' := VI 4) (ex_cell rfl rfl rfl (.head _) hoC) ex_int fun a b ha ⟨u, hb⟩ => by subst ha; subst hb; rw [← hc]; exact rv_mod (by decide))
  · rintro v m' nw' os fx s Q ⟨e, kk, a, t, u, v', e', hm⟩ hs hQ
    subst e'
    exact start_range (n := c) hm (by omega) hs hQ
  · exact fun v m' nw' _ => stepper_range M.hnd
  · exact fun v m' nw' _ => self_range
  · exact fun v m' nw' _ => ⟨⟨[], rfl, rfl, by simp⟩, by omega, fun _ _ => trivial⟩
  · rintro v m' nw' k u C oK m₂ D ys ⟨e, kk, _⟩ hk ⟨tk, rfl⟩ hN hm2 ⟨p, hp, hpl, hpy⟩
    refine tests_nil ⟨⟨rfl, rfl⟩, fun _ => ev_mono (V := fun y => ∃ ky, vkey y = some ky ∧ ky ≠ .y) ?_ fun y ⟨ky, hy, hky⟩ => ⟨p ++ [ky], hp.append (KVs.key hy), by simp [hpl], by simp [hpy, Ne.symm hky]⟩, fun h => absurd h (by decide)⟩
    have hcell : (L + 1, oC) ∈ (C, oK) :: (D, LCg.lst ys) :: nw' := .tail _ (.tail _ (kk.get (.head _)))
    refine Run.drop (P := fun y m'' nw'' => (∃ ky, vkey y = some ky ∧ ky ≠ .y) ∧ m'' = m' ∧ Kp [] ((C, oK) :: (D, LCg.lst ys) :: nw') nw'')
      (ex_sub (P := fun o m'' nw'' => m'' = m' ∧ ∃ a t1 t2 t3, o = .ref a ∧ nw'' = (a, listOf (List.toArray [.str "a" t1, .str "b" t2, .int 0 t3]) 0) :: (C, oK) :: (D, LCg.lst ys) :: nw') (P2 := fun o x m'' nw'' => m'' = m' ∧ (∃ a t1 t2 t3, o = .ref a ∧ nw'' = (a, listOf (List.toArray [.str "a" t1, .str "b" t2, .int 0 t3]) 0) :: (C, oK) :: (D, LCg.lst ys) :: nw') ∧ ∃ (z : Nat) (t : Tok), x = .int z t ∧ z < 3)
        (ex_list (P := fun vs m'' nw'' => (∃ t1 t2 t3, vs = [.str "a" t1, .str "b" t2, .int 0 t3]) ∧ m'' = m' ∧ nw'' = (C, oK) :: (D, LCg.lst ys) :: nw') (args_ev ex_str fun v1 ⟨t1, e1⟩ => args_ev ex_str fun v2 ⟨t2, e2⟩ => args_ev ex_int fun v3 ⟨t3, e3⟩ => args_nil ⟨⟨t1, t2, t3, by rw [e1, e2, e3]⟩, rfl, rfl⟩)
          (fun vs m'' nw'' ⟨⟨t1, t2, t3, e⟩, _⟩ => by subst e; exact (show 3 < 1000 by decide)) (fun vs m'' nw'' a ⟨⟨t1, t2, t3, e⟩, e1, e2⟩ => by subst e; subst e1; subst e2; exact ⟨rfl, a, t1, t2, t3, rfl, rfl⟩))
        (fun o m'' nw'' ⟨e1, a, t1, t2, t3, e2, e3⟩ => by
          subst e1; subst e2; subst e3
          refine Run.mono (P := Is (VI ((i.fdiv (3 ^ (k + 1))).fmod 3)) _ _) (ev_binop (V := VI (i.fdiv (3 ^ (k + 1)))) (V' := VI 3) (ev_binop (V := (· = .int i t)) (V' := VI (3 ^ (k + 1))) (ex_cell rfl rfl rfl (.tail _ hcell) hoC) (ev_binop (V := VI 3) (V' := VI (k + 1 : Nat)) ex_int (ev_binop (V := (· = .int k tk)) (V' := VI 1) (ex_local2 (.tail _ (.head _)) hN rfl rfl rfl hm2) ex_int fun a b ha ⟨u, hb⟩ => by subst ha; subst hb; exact rv_add) fun a b ⟨u, ha⟩ ⟨u', hb⟩ => by subst ha; subst hb; exact rv_pow3 (by omega) (by omega)) fun a b ha ⟨u, hb⟩ => by
            subst ha; subst hb; exact rv_fdiv (by have := Int.pow_pos (n := 3) (m := k + 1) (by decide); omega) (pylong_small i (by omega) (by omega))) ex_int fun a b ⟨u, ha⟩ ⟨u', hb⟩ => by subst ha; subst hb; exact rv_mod (by decide)) ?_
          rintro x m3 nw3 ⟨⟨t4, e4⟩, e5, e6⟩
          refine ⟨e5, ⟨a, t1, t2, t3, rfl, e6⟩, ((i.fdiv (3 ^ (k + 1))).fmod 3).toNat, t4, ?_, ?_⟩
          · rw [e4]; congr 1
            have := Int.fmod_nonneg_of_pos (i.fdiv (3 ^ (k + 1))) (show (0 : Int) < 3 by decide); omega
          · have := Int.fmod_lt_of_pos (i.fdiv (3 ^ (k + 1))) (show (0 : Int) < 3 by decide)
            have := Int.fmod_nonneg_of_pos (i.fdiv (3 ^ (k + 1))) (show (0 : Int) < 3 by decide); omega)
        (fun o x m'' nw'' ⟨e1, ⟨a, t1, t2, t3, e2, e3⟩, z, tz, e4, hz⟩ => by
          subst e1; subst e2; subst e3; subst e4
          have : z = 0 ∨ z = 1 ∨ z = 2 := by omega
          rcases this with rfl | rfl | rfl
          · exact run_item_list (items := [.str "a" t1, .str "b" t2, .int 0 t3]) (.head _) (by omega) (by omega) rfl ⟨⟨.a, rfl, nofun⟩, rfl, Kp.cons⟩
          · exact run_item_list (items := [.str "a" t1, .str "b" t2, .int 0 t3]) (.head _) (by omega) (by omega) rfl ⟨⟨.b, rfl, nofun⟩, rfl, Kp.cons⟩
          · exact run_item_list (items := [.str "a" t1, .str "b" t2, .int 0 t3]) (.head _) (by omega) (by omega) rfl ⟨⟨.z, rfl, nofun⟩, rfl, Kp.cons⟩)) fun _ _ _ h => h
  · rintro v m' nw' D ys ⟨e, kk, _⟩ ⟨p, hp, hpl, hpy⟩ hD
    exact ⟨e, kk.trans Kp.cons, D, ys, p, rfl, .head _, hp, hpl, hpy⟩
end
end Mine

-- FR
open PySem PySem.W PySem.Calls PyProof.Rows
set_option maxRecDepth 100000
set_option linter.unusedVariables false
namespace Mine
inductive PathsAt (nw : Led) : List Value → List (List Key) → Prop
  | nil : PathsAt nw [] []
  | cons {x p vs ps} : PathAt nw x p → PathsAt nw vs ps → PathsAt nw (.ref x :: vs) (p :: ps)
theorem PathsAt.mono {nw nw' vs ps} (h : PathsAt nw vs ps) (k : ∀ x p, PathAt nw x p → PathAt nw' x p) : PathsAt nw' vs ps := by
  induction h with
  | nil => exact .nil
  | cons a _ ih => exact .cons (k _ _ a) ih
theorem PathsAt.snoc {nw vs ps x p} (h : PathsAt nw vs ps) (hx : PathAt nw x p) : PathsAt nw (vs ++ [.ref x]) (ps ++ [p]) := by
  induction h with
  | nil => exact .cons hx .nil
  | cons a _ ih => exact .cons a ih
theorem PathsAt.length {nw vs ps} (h : PathsAt nw vs ps) : vs.length = ps.length := by
  induction h with
  | nil => rfl
  | cons _ _ ih => simp [ih]
theorem pds_canLay : ∀ ps : List (List Key), PyData.canLayAll0 (ps.map pd) = true
  | [] => rfl
  | p :: ps => by
    have h1 := (keys_canLay p).1
    simp only [List.map_cons, PyData.canLayAll0, pd, PyData.canLay0, h1, pds_canLay ps]
    rfl
theorem any_pd (q : List Key) : ∀ ps : List (List Key), ((ps.map pd).any fun y => PyData.eqv y (pd q)) = decide (q ∈ ps)
  | [] => by simp
  | p :: ps => by
    simp only [List.map_cons, List.any_cons, pd_eqv, any_pd q ps, List.mem_cons]
    by_cases h : p = q
    · subst h; simp
    · simp [h, Ne.symm h]
section
variable {prog : Program} {w : World} {A : Around} {h₀ : Heap} {L : Addr} {m : Loc} {nw rest : Led} {mg mb : Loc} {r : Nat} {env : Env} {K : Frag}
theorem PathsAt.reads {os fx s vs ps} (h : PathsAt nw vs ps) (hs : St h₀ L os m nw fx s) : ReadsAll s.heap vs (ps.map pd) [] := by
  induction h with
  | nil => exact .nil
  | cons a _ ih => exact .cons (a.reads hs) ih
theorem rv_notin_paths {x a : Addr} {q : List Key} {vs : List Value} {ps : List (List Key)} {n : Nat} (M : Fm K mg mb (r + 4) A h₀ L) (hx : PathAt nw x q) (ha : (a, listOf vs.toArray n) ∈ nw) (hp : PathsAt nw vs ps) : Rv prog w A h₀ L m nw (compareOp .NotIn (.ref x) (.ref a)) (· = .bool (!decide (q ∈ ps))) := fun os fx s hs => by
  have rc := reads_list_at (hs.get ha) rfl rfl (xs := ps.map pd) (as := []) (by simpa using hp.reads hs)
  have hd := keys_canLay q
  refine PySem.SeqAt.notIn_list_reads rc (hx.reads hs) (pds_canLay ps) (by simp only [pd, PyData.canLay0, hd.1]) ?_ ⟨m, nw, hs, by rw [any_pd], rfl, rfl⟩
  have h1 : min (PyData.depthAll (ps.map pd)) (pd q).depth ≤ (pd q).depth := Nat.min_le_right _ _
  have h2 : (pd q).depth = 1 := by simp only [pd, PyData.depth, hd.2]
  have := M.units
  omega
theorem list_append_method {a : Addr} {vs : List Value} {n : Nat} {pl : Sem Bool} {Q : Value × List Value → Loc → Led → Prop} (ha : (a, listOf vs.toArray n) ∈ nw) (h : Q (.builtin "list.append", [.ref a]) m nw) : Run prog w A h₀ L m nw (getMethod (.ref a) "append" pl) Q := fun os fx s hs =>
  getMethod_builtin ⟨_, hs.get ha, rfl⟩ PySem.F.plainAttrs_list slot_list_append PySem.F.type_list_append (fun b e => by cases e; exact ⟨_, hs.get ha, rfl⟩) ⟨m, nw, hs, h⟩
theorem run_append {a : Addr} {vs : List Value} {n : Nat} {v : Value} {Q : Value → Loc → Led → Prop} (ha : (a, listOf vs.toArray n) ∈ nw) (hz : vs.length < 1000) (h : Q .none m (setL nw a (listOf (vs ++ [v]).toArray (n + 1)))) : Run prog w A h₀ L m nw (call (.builtin "list.append") [.ref a, v]) Q := fun os fx s hs =>
  append_at (hs.get ha) (fun h' hsb hg => ⟨m, _, hs.set (tk := s.toks) ha hsb (hg.trans (by rw [List.push_toArray])), h⟩) (by rw [List.size_toArray]; have e : sizeLine = 2 ^ 24 := rfl; omega)
theorem run_range2 {n k : Int} {t u : Tok} {Q : Value → Loc → Led → Prop} (h : ∀ a v, Q (.ref a) m ((a, { cls := .type "range", dict := none, data := .fields #[.int k t, .int n u, .int 1 v], slots := #[] }) :: nw)) : Run prog w A h₀ L m nw (call (.type "range") [.int k t, .int n u]) Q := fun os fx s hs =>
  call_range_2 ⟨m, _, (hs.push _ rfl).toks (tk := s.toks + 1), h _ _⟩
theorem stepper_range1 {n : Nat} (hh : A.handled = none) : Stepper prog w A (fun i o => o = { cls := .type "range_iterator", dict := none, data := .fields #[rawInt ((i : Int) + 1), rawInt ((n : Int) - i), rawInt 1], slots := #[] }) n (fun i v => ∃ t, v = .int ((i + 1 : Nat) : Int) t) (fun _ => True) where
  item := fun i h₀ L os m nw fx s I o Q hi hs ho _ hQ => by
    subst ho
    refine wpAny_pyNext_range_item (x := (i : Int) + 1) (left := (n : Int) - i) (step := 1) (hs.fixed (.head _)).1 (by omega) fun h' hit hsb => ?_
    refine hQ _ _ _ ⟨_, rfl⟩ ?_ (hs.touch (tk := s.toks + 1) hsb hit)
    simp only [Int.natCast_add, Int.natCast_one]
    rw [show (n : Int) - i - 1 = n - (i + 1) by omega]
  done := fun h₀ L os m nw fx s I o Q hs ho _ hQ => by
    subst ho
    refine wpAny_pyNext_range_end hh (x := (n : Int) + 1) (left := (n : Int) - n) (step := 1) (hs.fixed (.head _)).1 (by omega) fun h' he => ?_
    exact hQ _ (hs.ext (tk := s.toks) he)
/-- for x in range(1, e) -/
theorem sx_range1 {x : Str} {px : Pos} {e0 e : Expr} {body : List Stmt} {pos p pos' : Pos} {rest : List Stmt} {R : Flow → Loc → Led → Prop} {n : Nat} (J : Nat → Loc → Led → Prop) (M : Fm (KH w.params) mg mb r A h₀ L)
    (hl : env.locals = L) (hg : env.globals = mainGlobals) (hb : env.builtins = builtinsNs) (hk : env.scope.kind = .function) (hx : env.kindOf x = some .local) (hn : env.kindOf "range" = some .globalImplicit) (h0' : Ev prog w A h₀ L env m nw e0 (VI 1)) (h : Ev prog w A h₀ L env m nw e (VI (n + 1 : Nat))) (hz : n < 2 ^ 40)
    (h0 : ∀ nw', Kp [] nw nw' → J 0 m nw')
    (turn : ∀ i t m₁ nw₁, i < n → J i m₁ nw₁ → Sx prog w A h₀ L env (upd m₁ x (.int ((i + 1 : Nat) : Int) t)) nw₁ body (fun f m' nw' => match f with | .next => J (i + 1) m' nw' | .cont => J (i + 1) m' nw' | .brk => False | .ret u => R (.ret u) m' nw'))
    (done : ∀ m' nw', J n m' nw' → Sx prog w A h₀ L env m' nw' rest R)
    (he : eval (.Call (.Name "range" p) [e0, e] [] pos') env = (do callWith pos' (← eval (.Name "range" p) env) [] (backTo pos' (starEach [e0, e] env)) (backToKw pos' (keywordEach [] env))) := by rfl)
    (hs : starEach [e0, e] env = [(false, eval e0 env), (false, eval e env)] := by rfl) (hs' : starEach [e] env = [(false, eval e env)] := by rfl) :
    Sx prog w A h₀ L env m nw (.For (.Name x px) (.Call (.Name "range" p) [e0, e] [] pos') body [] pos :: rest) R := by
  refine sx_forB (P := fun v m' nw' => m' = m ∧ Kp [] nw nw' ∧ ∃ a t u v', v = .ref a ∧ (a, { cls := .type "range", dict := none, data := .fields #[.int 1 t, .int (n + 1 : Nat) u, .int 1 v'], slots := #[] }) ∈ nw') (It := fun v i o => o = { cls := .type "range_iterator", dict := none, data := .fields #[rawInt ((i : Int) + 1), rawInt ((n : Int) - i), rawInt 1], slots := #[] }) (n := fun _ => n) (V := fun _ i v => ∃ t, v = .int ((i + 1 : Nat) : Int) t) (need := fun _ _ => True)
    (fun _ => J) (fun _ _ => False) hl hk hx ?_ ?_ (fun v m' nw' _ => stepper_range1 M.hnd)
    (fun v m' nw' ⟨e, kk, _⟩ => by subst e; exact h0 nw' kk) (fun _ _ _ _ _ => trivial) (fun v i u m₁ nw₁ hi ⟨t, e⟩ hJ => by subst e; exact turn i t m₁ nw₁ hi hJ) (fun _ _ h => h.elim) (fun _ => done)
  · refine ex_call (ex_builtin M hg hb hk hn kb_range rfl (by decide)) (fun f m' nw' ⟨a, b, c⟩ => ?_) he
    subst a; rw [b, c]
    exact cw_type (arg2 h0' h hs hs') (fun vs m'' nw'' ⟨v, v', a, ⟨t, e⟩, ⟨u, e'⟩, c, d⟩ => by subst a; subst c; subst d; subst e; subst e'; exact run_range2 fun a v => ⟨rfl, Kp.cons, a, t, u, v, rfl, .head _⟩) (by rw [hs, hs']) (by rw [hs']; rfl)
  · rintro v m' nw' os fx s Q ⟨e, kk, a, t, u, v', e', hm⟩ hs hQ
    subst e'
    refine wpAny_pyIter_range (hs.get hm) (small_one (by decide) (by decide) (by omega) (by omega)) (hQ _ _ _ ?_ (hs.push _ rfl).fix)
    rw [rangeSize_one]
    have e5 : (if (1 : Int) < ((n + 1 : Nat) : Int) then ((n + 1 : Nat) : Int) - 1 else 0) = (n : Int) - ((0 : Nat) : Int) := by split <;> omega
    rw [e5]; rfl
end
end Mine

-- FR2
open PySem PySem.W PySem.Calls PyProof.Rows
set_option maxRecDepth 100000
set_option linter.unusedVariables false
namespace Mine
structure Lr where
  p : List Key
  code : Nat
  f : Fa
  d : Addr
def LrAt (nw : Led) (v : Value) (lr : Lr) : Prop := ∃ a n pa cv, v = .ref a ∧ (a, tupO [.ref pa, cv, .ref lr.f.x, .ref lr.d] n) ∈ nw ∧ PathAt nw pa lr.p ∧ ∃ t, cv = .int lr.code t
theorem LrAt.keep0 {nw nw' v lr} (h : LrAt nw v lr) (k : Kp [] nw nw') : LrAt nw' v lr := let ⟨a, n, pa, cv, e, h1, h2, h3⟩ := h; ⟨a, n, pa, cv, e, k.get h1, h2.keep0 k, h3⟩
def LrsAt (nw : Led) (vs : List Value) (lrs : List Lr) : Prop := vs.length = lrs.length ∧ ∀ (i : Nat) (v : Value), vs[i]? = some v → ∃ lr, lrs[i]? = some lr ∧ LrAt nw v lr
theorem LrsAt.keep0 {nw nw' vs lrs} (h : LrsAt nw vs lrs) (k : Kp [] nw nw') : LrsAt nw' vs lrs := ⟨h.1, fun i v hv => let ⟨lr, a, b⟩ := h.2 i v hv; ⟨lr, a, b.keep0 k⟩⟩
def FrontsOf (lrs : List Lr) (k : Nat) (last : List Key) (ps : List (List Key)) : Prop := ps.Nodup ∧ (∀ p, p ∈ ps ↔ p = [] ∨ (∃ lr ∈ lrs, p ≠ [] ∧ p <+: lr.p) ∨ (p ≠ [] ∧ p.length ≤ k ∧ p <+: last))
section
variable {prog : Program} {w : World} {A : Around} {h₀ : Heap} {L : Addr} {m : Loc} {nw rest : Led} {mg mb : Loc} {r : Nat} {env : Env} {K : Frag}
theorem kp_setL {a : Addr} {o : Obj} {nw0 nw1 : Led} (k : Kp [] nw0 nw1) (fa : a ∉ keys nw0) : Kp [] nw0 (setL nw1 a o) := fun p hp _ => mem_setL_ne (k.get hp) fun e => fa (e ▸ List.mem_map_of_mem (f := (·.1)) hp)
theorem tup_ne_list {items ws : List Value} {k n : Nat} : tupO items k ≠ listOf ws.toArray n := fun h => by
  have h1 : (Value.type "tuple") = Value.type "list" := congrArg Obj.cls h
  injection h1 with h2
  exact absurd h2 (by decide)
theorem path_setL {a x : Addr} {ws : List Value} {n : Nat} {o : Obj} {p : List Key} (hn : (nw.map (·.1)).Nodup) (ha : (a, listOf ws.toArray n) ∈ nw) (h : PathAt nw x p) : PathAt (setL nw a o) x p := by
  obtain ⟨items, k, hm, hk⟩ := h
  refine ⟨items, k, mem_setL_ne hm fun e => ?_, hk⟩
  have e : x = a := e
  subst e
  exact tup_ne_list (mem_uniq hn hm ha)
theorem paths_setL {a : Addr} {vs ws : List Value} {n : Nat} {o : Obj} {ps : List (List Key)} (hn : (nw.map (·.1)).Nodup) (ha : (a, listOf ws.toArray n) ∈ nw) (h : PathsAt nw vs ps) : PathsAt (setL nw a o) vs ps :=
  h.mono fun x p h => path_setL hn ha h
theorem t_fronts {ra : Addr} {vs : List Value} {nr : Nat} {lrs : List Lr} (hra : (ra, listOf vs.toArray nr) ∈ nw) (hl : LrsAt nw vs lrs) (hz : lrs.length ≤ 10) (hp5 : ∀ lr ∈ lrs, lr.p.length ≤ 5) :
    Fn prog w (KH w.params) mg mb 8 (.ref 464) [.ref ra] nw (fun v nw' => ∃ a ws ps n, v = .ref a ∧ (a, listOf ws.toArray n) ∈ nw' ∧ PathsAt nw' ws ps ∧ FrontsOf lrs 0 [] ps ∧ Kp [] nw nw') := by
  refine Fn.intro (d := 7) (binds := [("rows", .ref ra)]) (by with_unfolding_all exact rfl) (by kernel_rfl) (fun s => BindsTo.of_eq rfl) (locs rfl) (by decide) rfl rfl rfl ?_
  intro r A h₀ L hr M
  obtain ⟨r4, rfl⟩ : ∃ r4, r = r4 + 4 := ⟨r - 4, by omega⟩
  have hlen := hl.1
  refine sx_assign rfl rfl rfl (P := fun v m' nw' => m' "rows" = some (.ref ra) ∧ ∃ a x, v = .ref a ∧ a ∉ keys nw ∧ (a, listOf [Value.ref x].toArray 0) ∈ nw' ∧ PathAt nw' x [] ∧ Kp [] nw nw')
    (Run.mono (Run.nod (ex_list (P := fun vs m' nw' => m' "rows" = some (.ref ra) ∧ ∃ x, vs = [.ref x] ∧ PathAt nw' x [] ∧ Kp [] nw nw') (Q := fun v m' nw'' => m' "rows" = some (.ref ra) ∧ ∃ a x nw', v = .ref a ∧ nw'' = (a, listOf [Value.ref x].toArray 0) :: nw' ∧ PathAt nw' x [] ∧ Kp [] nw nw')
      (args_kt (V := fun v nw' => ∃ x, v = .ref x ∧ PathAt nw' x []) (ex_tuple (P := fun vs m' nw' => vs = [] ∧ m' = (fun y => List.lookup y [(Str.ofString "rows", Value.ref ra)].reverse) ∧ nw' = nw) (args_nil ⟨rfl, rfl, rfl⟩) (fun vs m' nw' ⟨e, _⟩ => by subst e; exact (show 0 < 1000 by decide)) fun vs m' nw' x ⟨e, e1, e2⟩ => by subst e; rw [e2]; exact ⟨e1, Kp.cons, x, rfl, [], 0, .head _, rfl⟩)
        fun v nw' k ⟨x, e, h⟩ => args_nil ⟨rfl, x, by rw [e], h, k⟩)
      (fun vs m' nw' ⟨_, x, e, _⟩ => by subst e; exact (show 1 < 1000 by decide)) (fun vs m' nw' a ⟨h1, x, e, h2, h3⟩ => by subst e; exact ⟨h1, a, x, nw', rfl, rfl, h2, h3⟩))) ?_) ?_
  · rintro v m' nw'' ⟨⟨h1, a, x, nw', rfl, rfl, h2, h3⟩, hn⟩
    have hn' : (a :: keys nw').Nodup := hn
    rw [List.nodup_cons] at hn'
    exact ⟨h1, a, x, rfl, fun q => hn'.1 ((Kq.of h3).2 a q), .head _, h2.keep0 Kp.cons, h3.trans Kp.cons⟩
  rintro v m1 nw1 ⟨mr, a, x0, rfl, fa, ha, hx0, k1⟩
  refine sx_forL vs (n := nr) (P := fun v m' nw' => v = .ref ra ∧ (m' "fronts" = some (.ref a)) ∧ nw' = nw1)
    (fun ra' i m' nw' => ra' = ra ∧ m' "fronts" = some (.ref a) ∧ Kp [] nw nw' ∧ ∃ ws ps n, (a, listOf ws.toArray n) ∈ nw' ∧ PathsAt nw' ws ps ∧ FrontsOf (lrs.take i) 0 [] ps ∧ ps.length ≤ 1 + 5 * i) (fun _ _ => False) M rfl rfl rfl
    (Run.mono (ex_local (v := .ref ra) rfl rfl rfl mr) fun v m' nw' ⟨e1, e2, e3⟩ => ⟨e1, by rw [e2]; rfl, e3⟩) ?_ ?_ ?_ (fun _ _ h => h.elim) ?_
  · rintro v m' nw' ⟨rfl, hm, rfl⟩
    refine ⟨ra, rfl, k1.get hra, rfl, hm, k1, [.ref x0], [[]], 0, ha, .cons hx0 .nil, ⟨by simp, fun p => ?_⟩, by simp⟩
    rw [List.take_zero]
    simp
  · rintro ra' i m' nw' ⟨rfl, _, k, _⟩
    exact k.get hra
  · rintro ra' i u m2 nw2 hu ⟨rfl, mf, k2, ws, ps, n, hws, hps, hF, hpl⟩
    obtain ⟨lr, hlr, b, nb, pa, cv, rfl, hb, hpa, _⟩ := hl.2 i u hu
    have hilt : i < lrs.length := (List.getElem?_eq_some_iff.mp hlr).1
    have hlrm := List.mem_of_getElem? hlr
    have hl5 := hp5 lr hlrm
    obtain ⟨xs, nx, hx1, hx2⟩ := hpa
    have lx := hx2.length
    refine sx_range1 (n := xs.length) (fun k m' nw' => m' "fronts" = some (.ref a) ∧ m' "row" = some (.ref b) ∧ Kp [] nw nw' ∧ ∃ ws ps n, (a, listOf ws.toArray n) ∈ nw' ∧ PathsAt nw' ws ps ∧ FrontsOf (lrs.take i) k lr.p ps ∧ ps.length ≤ 1 + 5 * i + k) M rfl rfl rfl rfl rfl rfl ex_int
      (ev_binop (V := VI xs.length) (V' := VI 1) (ev_len_tuple M rfl rfl rfl rfl (ev_item (i := 0) (ex_local rfl rfl rfl rfl) (k2.get hb) rfl (by decide)) (k2.get hx1) (by omega)) ex_int fun a b ⟨t, e⟩ ⟨t', e'⟩ => by subst e; subst e'; exact rv_add) (by omega) ?_ ?_ ?_
    · intro nw' k
      refine ⟨mf, rfl, k2.trans k, ws, ps, n, k.get hws, hps.mono fun x p h => h.keep0 k, ⟨hF.1, fun p => ?_⟩, by omega⟩
      rw [hF.2]
      constructor
      · rintro (h | h | ⟨h1, h2, h3⟩)
        · exact .inl h
        · exact .inr (.inl h)
        · exact absurd (List.length_eq_zero_iff.mp (by omega)) h1
      · rintro (h | h | ⟨h1, h2, h3⟩)
        · exact .inl h
        · exact .inr (.inl h)
        · exact absurd (List.length_eq_zero_iff.mp (by omega)) h1
    · rintro k tk m3 nw3 hk ⟨mf3, mr3, k3, ws, ps, n, hws, hps, hF, hpl⟩
      have hb3 := k3.get hb
      have hx3 := k3.get hx1
      have hq : (lr.p.take (k + 1)).length = k + 1 := by rw [List.length_take]; omega
      refine sv_if (B := fun b => b = !decide (lr.p.take (k + 1) ∈ ps)) (tk_cmp (V' := fun a' b' nw' => (∃ x, a' = .ref x ∧ PathAt nw' x (lr.p.take (k + 1))) ∧ b' = .ref a ∧ (a, listOf ws.toArray n) ∈ nw' ∧ PathsAt nw' ws ps)
        (ev_front (x := pa) (k := k + 1) (ev_item (i := 0) (ex_local rfl rfl rfl mr3) hb3 rfl (by decide)) hx3 (ev_mono (ex_local rfl rfl rfl rfl) fun v e => ⟨tk, e⟩) (by omega) (by omega)) ?_ ?_) (fun hbb => ?_) (fun hbb => ?_)
      · rintro v nw' kp ⟨x, nx', rfl, hx⟩
        exact Run.mono (ex_local rfl rfl rfl mf3) fun v' m'' nw'' ⟨e1, e2, e3⟩ => ⟨e2, by rw [e3]; exact Kp.refl, ⟨x, rfl, by rw [e3]; exact ⟨_, nx', hx, hx2.take _⟩⟩, e1, by rw [e3]; exact kp.get hws, by rw [e3]; exact hps.mono fun x p h => h.keep0 kp⟩
      · rintro v v' nw' kp ⟨⟨x, rfl, hx⟩, rfl, hws', hps'⟩
        exact Run.mono (rv_notin_paths M hx hws' hps') fun c m'' nw'' ⟨e, e1, e2⟩ => ⟨e1, by rw [e2]; exact Kp.refl, _, e, rfl⟩
      · have hnot : lr.p.take (k + 1) ∉ ps := by simpa using hbb.symm
        have hwl := hps.length
        refine sx_expr (P := fun v m' nw' => v = .none ∧ (m' "fronts" = some (.ref a) ∧ m' "row" = some (.ref b)) ∧ Kp [] nw nw' ∧ ∃ ws ps n, (a, listOf ws.toArray n) ∈ nw' ∧ PathsAt nw' ws ps ∧ FrontsOf (lrs.take i) (k + 1) lr.p ps ∧ ps.length ≤ 1 + 5 * i + (k + 1))
          (ev_methK (ex_local rfl rfl rfl mf3) (list_append_method hws ⟨rfl, rfl, rfl⟩) (cw_builtin (P := fun vs m' nw' => (m' "fronts" = some (.ref a) ∧ m' "row" = some (.ref b)) ∧ Kp [] nw3 nw' ∧ ∃ x, vs = [.ref x] ∧ PathAt nw' x (lr.p.take (k + 1)))
            (args_kt (V := fun v nw' => ∃ x, v = .ref x ∧ PathAt nw' x (lr.p.take (k + 1))) (Run.mono (ev_front (x := pa) (k := k + 1) (ev_item (i := 0) (ex_local rfl rfl rfl mr3) hb3 rfl (by decide)) hx3 (ev_mono (ex_local rfl rfl rfl rfl) fun v e => ⟨tk, e⟩) (by omega) (by omega)) fun v m' nw' ⟨e1, e2, x, n', e3, e4⟩ => ⟨e1, e2, x, e3, _, n', e4, hx2.take _⟩)
              fun v nw' kp ⟨x, e, hx⟩ => args_nil ⟨⟨mf3, mr3⟩, kp, x, by rw [e], hx⟩)
            (fun vs m' nw' ⟨hm, kp, x, e, hx⟩ => by
              subst e
              refine Run.nodup fun hn => ?_
              refine run_append (kp.get hws) (by omega) ⟨rfl, hm, kp_setL (k3.trans kp) fa, ws ++ [.ref x], ps ++ [lr.p.take (k + 1)], n + 1, mem_setL_self (kp.get hws), PathsAt.snoc (paths_setL hn (kp.get hws) (hps.mono fun x p h => h.keep0 kp)) (path_setL hn (kp.get hws) hx), ⟨?_, fun p => ?_⟩, by simp; omega⟩
              · exact List.nodup_append.mpr ⟨hF.1, by simp, fun p hp q hq e => by rw [List.mem_singleton.mp hq] at e; exact hnot (e ▸ hp)⟩
              · rw [List.mem_append, List.mem_singleton, hF.2]
                constructor
                · rintro ((h | h | ⟨h1, h2, h3⟩) | h)
                  · exact .inl h
                  · exact .inr (.inl h)
                  · exact .inr (.inr ⟨h1, by omega, h3⟩)
                  · subst h
                    exact .inr (.inr ⟨(fun e => by rw [e] at hq; cases hq), by omega, List.take_prefix _ _⟩)
                · rintro (h | h | ⟨h1, h2, h3⟩)
                  · exact .inl (.inl h)
                  · exact .inl (.inr (.inl h))
                  · by_cases hpk : p.length ≤ k
                    · exact .inl (.inr (.inr ⟨h1, hpk, h3⟩))
                    · right
                      have := List.prefix_iff_eq_take.mp h3
                      rw [this]; congr 1; omega))) fun v m' nw' ⟨e, ⟨hm1, hm2⟩, hh⟩ => ⟨by rw [e]; rfl, sx_nil (sx_nil ⟨hm1, hm2, hh⟩)⟩
      · have hin : lr.p.take (k + 1) ∈ ps := by simpa using hbb.symm
        refine sx_nil (sx_nil ⟨mf3, mr3, k3, ws, ps, n, hws, hps, ⟨hF.1, fun p => ?_⟩, by omega⟩)
        rw [hF.2]
        constructor
        · rintro (h | h | ⟨h1, h2, h3⟩)
          · exact .inl h
          · exact .inr (.inl h)
          · exact .inr (.inr ⟨h1, by omega, h3⟩)
        · rintro (h | h | ⟨h1, h2, h3⟩)
          · exact .inl h
          · exact .inr (.inl h)
          · by_cases hpk : p.length ≤ k
            · exact .inr (.inr ⟨h1, hpk, h3⟩)
            · have := List.prefix_iff_eq_take.mp h3
              have e : p = lr.p.take (k + 1) := by rw [this]; congr 1; omega
              rw [e]
              exact (hF.2 _).mp hin
    · rintro m' nw' ⟨mf', mr', k', ws, ps, n, hws, hps, hF, hpl⟩
      refine sx_nil ⟨rfl, mf', k', ws, ps, n, hws, hps, ⟨hF.1, fun p => ?_⟩, by omega⟩
      rw [hF.2, List.take_add_one, hlr]
      constructor
      · rintro (h | ⟨l, h1, h2⟩ | ⟨h1, h2, h3⟩)
        · exact .inl h
        · exact .inr (.inl ⟨l, List.mem_append_left _ h1, h2⟩)
        · exact .inr (.inl ⟨lr, List.mem_append_right _ (by simp), h1, h3⟩)
      · rintro (h | ⟨l, h1, h2⟩ | ⟨h1, h2, h3⟩)
        · exact .inl h
        · rcases List.mem_append.mp h1 with h1 | h1
          · exact .inr (.inl ⟨l, h1, h2⟩)
          · obtain rfl : l = lr := by simpa using h1
            exact .inr (.inr ⟨h2.1, by have := h2.2.length_le; omega, h2.2⟩)
        · exact absurd (List.length_eq_zero_iff.mp (by omega)) h1
  · rintro ra' m' nw' ⟨rfl, mf, k, ws, ps, n, hws, hps, hF, _⟩
    have htk : lrs.take vs.length = lrs := by rw [hlen]; simp
    rw [htk] at hF
    exact sv_ret (V := (· = .ref a)) (ex_local rfl rfl rfl mf) fun v hv => ⟨a, ws, ps, n, hv, hws, hps, hF, k⟩
end
end Mine

-- WK1
open PySem PySem.W PySem.Calls PyProof.Rows
set_option maxRecDepth 100000
set_option linter.unusedVariables false
namespace Mine
def cnt (T : List Nd) (p : List Key) : Nat := T.countP fun m => p.isPrefixOf m.p
theorem countP_or {α : Type} {P Q : α → Bool} : ∀ {l : List α}, (∀ x ∈ l, ¬ (P x = true ∧ Q x = true)) → l.countP (fun x => P x || Q x) = l.countP P + l.countP Q
  | [], _ => rfl
  | x :: l, h => by
    have ih := countP_or (l := l) fun y hy => h y (.tail _ hy)
    have hx := h x (.head _)
    simp only [List.countP_cons, ih]
    cases hP : P x <;> cases hQ : Q x <;> simp_all <;> omega
theorem prefix_key {p x : List Key} {k k' : Key} (h : p ++ [k] <+: x) (h' : p ++ [k'] <+: x) : k = k' := by
  obtain ⟨t, ht⟩ := h
  obtain ⟨t', ht'⟩ := h'
  rw [← ht', List.append_assoc, List.append_assoc] at ht
  have := List.append_cancel_left ht
  exact (List.cons.inj this).1
theorem cnt_keys (T : List Nd) (p : List Key) : ∀ ks : List Key, ks.Nodup → T.countP (fun m => ks.any fun k => (p ++ [k]).isPrefixOf m.p) = (ks.map fun k => cnt T (p ++ [k])).sum
  | [], _ => by simp
  | k :: ks, hn => by
    rw [List.nodup_cons] at hn
    have ih := cnt_keys T p ks hn.2
    simp only [List.any_cons, List.map_cons, List.sum_cons]
    rw [countP_or, ih]
    · rfl
    · rintro m _ ⟨h1, h2⟩
      rw [List.any_eq_true] at h2
      obtain ⟨k', hk', h2⟩ := h2
      rw [List.isPrefixOf_iff_prefix] at h1 h2
      exact hn.1 (prefix_key h1 h2 ▸ hk')
theorem cnt_node {dk root T S G} (h : Shape dk root T S G) {nd : Nd} (hnd : nd ∈ T) (hk : (nd.kvs.map (·.1)).Nodup) : cnt T nd.p = 1 + (nd.kvs.map fun kv => cnt T (nd.p ++ [kv.1])).sum := by
  have h1 : T.countP (fun m => decide (m.p = nd.p)) = 1 := by
    obtain ⟨l₁, l₂, rfl⟩ := List.append_of_mem hnd
    have hno := nodup_other h.nodup
    rw [List.countP_append, List.countP_cons]
    have z1 : l₁.countP (fun m => decide (m.p = nd.p)) = 0 := List.countP_eq_zero.mpr fun m hm => by simpa using hno m (.inl hm)
    have z2 : l₂.countP (fun m => decide (m.p = nd.p)) = 0 := List.countP_eq_zero.mpr fun m hm => by simpa using hno m (.inr hm)
    simp [z1, z2]
  have h2 := cnt_keys T nd.p (nd.kvs.map (·.1)) hk
  rw [List.map_map] at h2
  have h3 : cnt T nd.p = T.countP (fun m => decide (m.p = nd.p) || (nd.kvs.map (·.1)).any fun k => (nd.p ++ [k]).isPrefixOf m.p) := by
    unfold cnt
    apply List.countP_congr
    intro m hm
    simp only [Bool.or_eq_true, decide_eq_true_eq, List.any_eq_true, List.isPrefixOf_iff_prefix]
    constructor
    · rintro ⟨t, ht⟩
      cases t with
      | nil => left; simpa using ht.symm
      | cons k t =>
        right
        have hpre : nd.p ++ [k] <+: m.p := ⟨t, by rw [← ht]; simp⟩
        have hS := h.front _ m.p rfl ((h.all _).mpr ⟨m, hm, rfl⟩) _ hpre
        obtain ⟨c, hc, hcp⟩ := (h.all _).mp hS
        have hv := (h.kids nd hnd k (.ref c.x)).mpr ⟨c, hc, hcp, rfl⟩
        unfold valueAt at hv
        rw [Option.map_eq_some_iff] at hv
        obtain ⟨kv, h1, _⟩ := hv
        have hm2 := List.mem_of_find?_eq_some h1
        have hk2 := List.find?_some h1
        have e : kv.1 = k := by simpa using hk2
        exact ⟨k, List.mem_map.mpr ⟨kv, hm2, e⟩, hpre⟩
    · rintro (e | ⟨k, _, hp⟩)
      · rw [e]; exact List.prefix_refl _
      · exact (List.prefix_append _ _).trans hp
  rw [h3, countP_or, h1, h2]
  · rfl
  · rintro m _ ⟨e1, e2⟩
    rw [List.any_eq_true] at e2
    obtain ⟨k, _, e2⟩ := e2
    rw [List.isPrefixOf_iff_prefix] at e2
    have e1 : m.p = nd.p := by simpa using e1
    rw [e1] at e2
    have := e2.length_le
    simp at this
    try omega
theorem cnt_root {dk root T S G} (h : Shape dk root T S G) : cnt T [] = T.length := by
  unfold cnt
  rw [List.countP_eq_length]
  intro m _
  simp
/-- the fronts are as many as the nodes -/
theorem fronts_count {T : List Nd} {ps : List (List Key)} (hT : (T.map Nd.p).Nodup) (hp : ps.Nodup) (h : ∀ p, p ∈ ps ↔ ∃ nd ∈ T, nd.p = p) : ps.length = T.length := by
  have : ps.Perm (T.map Nd.p) := (List.perm_ext_iff_of_nodup hp hT).mpr fun p => by rw [h p, List.mem_map]
  simpa using this.length_eq
end Mine

-- WK2
open PySem PySem.W PySem.Calls PyProof.Rows
set_option maxRecDepth 100000
set_option linter.unusedVariables false
namespace Mine
inductive Cs : List Value → List Nat → Prop
  | nil : Cs [] []
  | cons {c us cs} (t : Tok) : Cs us cs → Cs (.int (c : Nat) t :: us) (c :: cs)
theorem Cs.ints {us cs} (h : Cs us cs) : kf_ints us = true := by
  induction h with
  | nil => rfl
  | cons t _ ih => exact ih
theorem Cs.length {us cs} (h : Cs us cs) : us.length = cs.length := by
  induction h with
  | nil => rfl
  | cons t _ ih => simp [ih]
theorem Cs.snoc {us cs c} (h : Cs us cs) (t : Tok) : Cs (us ++ [.int (c : Nat) t]) (cs ++ [c]) := by
  induction h with
  | nil => exact .cons t .nil
  | cons t' _ ih => exact .cons t' ih
theorem isInt_nat (k c : Nat) (t : Tok) : isInt (k : Int) (.int (c : Nat) t) = decide (c = k) := by
  show ((c : Int) == (k : Int)) = _
  by_cases h : c = k
  · subst h; simp
  · rw [decide_eq_false h]; exact beq_eq_false_iff_ne.mpr (by omega)
theorem Cs.any {us cs} (h : Cs us cs) (k : Nat) : us.any (isInt (k : Int)) = decide (k ∈ cs) := by
  induction h with
  | nil => simp
  | cons t _ ih =>
    rename_i c us cs _
    rw [List.any_cons, ih, isInt_nat]
    by_cases h : c = k
    · subst h; simp
    · simp [h, Ne.symm h]
theorem Cs.del {us cs} (h : Cs us cs) {k : Nat} (hk : k ∈ cs) : ∃ j q, kf_at (k : Int) us = some j ∧ ki_delL us j = some q ∧ Cs q (cs.erase k) := by
  induction h with
  | nil => cases hk
  | cons t hr ih =>
    rename_i c us cs
    by_cases e : c = k
    · subst e
      refine ⟨0, us, ?_, rfl, by simpa using hr⟩
      unfold kf_at
      rw [isInt_nat]; simp
    · obtain ⟨j, q, h1, h2, h3⟩ := ih ((List.mem_cons.mp hk).resolve_left (Ne.symm e))
      refine ⟨j + 1, .int (c : Nat) t :: q, ?_, ?_, ?_⟩
      · unfold kf_at
        rw [isInt_nat, decide_eq_false e, h1]; rfl
      · unfold ki_delL
        rw [h2]
      · rw [List.erase_cons_tail (by simpa using e)]
        exact .cons t h3
section
variable {prog : Program} {w : World} {A : Around} {h₀ : Heap} {L : Addr} {m : Loc} {nw rest : Led} {mg mb : Loc} {r : Nat} {env : Env} {K : Frag}
theorem rv_code_notin {a : Addr} {us : List Value} {cs : List Nat} {n : Nat} {k : Nat} {t : Tok} (ha : (a, listOf us.toArray n) ∈ nw) (hc : Cs us cs) : Rv prog w A h₀ L m nw (compareOp .NotIn (.int k t) (.ref a)) (· = .bool (!decide (k ∈ cs))) := fun os fx s hs =>
  kf_notin (its := us.toArray) hs.N (List.mem_append_left _ ha) hc.ints rfl ⟨m, nw, hs, by rw [show us.toArray.toList = us from rfl, hc.any], rfl, rfl⟩
theorem rv_code_in {a : Addr} {us : List Value} {cs : List Nat} {n : Nat} {k : Nat} {t : Tok} (ha : (a, listOf us.toArray n) ∈ nw) (hc : Cs us cs) : Rv prog w A h₀ L m nw (compareOp .In (.int k t) (.ref a)) (· = .bool (decide (k ∈ cs))) := fun os fx s hs =>
  kf_in (its := us.toArray) hs.N (List.mem_append_left _ ha) hc.ints rfl ⟨m, nw, hs, by rw [show us.toArray.toList = us from rfl, hc.any], rfl, rfl⟩
theorem list_remove_method {a : Addr} {vs : List Value} {n : Nat} {pl : Sem Bool} {Q : Value × List Value → Loc → Led → Prop} (ha : (a, listOf vs.toArray n) ∈ nw) (h : Q (.builtin "list.remove", [.ref a]) m nw) : Run prog w A h₀ L m nw (getMethod (.ref a) "remove" pl) Q := fun os fx s hs =>
  kf_method (its := vs.toArray) hs.N (List.mem_append_left _ ha) PySem.F.slot_list_remove PySem.F.type_list_remove ⟨m, nw, hs, h⟩
theorem run_code_remove {a : Addr} {us : List Value} {cs : List Nat} {n : Nat} {k : Nat} {t : Tok} {Q : Value → Loc → Led → Prop} (ha : (a, listOf us.toArray n) ∈ nw) (hc : Cs us cs) (hk : k ∈ cs) (hz : us.length < 1000) (h : ∀ q, Cs q (cs.erase k) → Q .none m (setL nw a (listOf q.toArray (n + 1)))) : Run prog w A h₀ L m nw (call (.builtin "list.remove") [.ref a, .int k t]) Q := fun os fx s hs => by
  obtain ⟨j, q, h1, h2, h3⟩ := hc.del hk
  have hn := hs.D
  rw [List.map_append] at hn
  obtain ⟨n1, n2, n3⟩ := List.nodup_append.mp hn
  have U : Upd a (listOf us.toArray n) (listOf q.toArray (n + 1)) (nw ++ fx) (setL nw a (listOf q.toArray (n + 1)) ++ fx) := upd_append (setL_upd n1 ha) fun p hp e => n3 _ (List.mem_map_of_mem (f := (·.1)) ha) _ (List.mem_map_of_mem (f := (·.1)) hp) e.symm
  exact kf_remove (its := us.toArray) hs.F hs.N hc.ints h1 h2 U (by show us.length ≤ _; have e : sizeLine = 2 ^ 24 := rfl; omega) fun h' F' N' => ⟨m, _, ⟨F', N', by rw [List.map_append, setL_keys, ← List.map_append]; exact hs.D, hs.os, hs.bare⟩, h q h3⟩
theorem run_cat {a b : Addr} {p q : List Key} {Q : Value → Loc → Led → Prop} (ha : PathAt nw a p) (hb : PathAt nw b q) (hz : p.length + q.length < 1000) (h : ∀ c nw', Kp [] nw nw' → PathAt nw' c (p ++ q) → Q (.ref c) m nw') : Run prog w A h₀ L m nw (binaryOp .Add (.ref a) (.ref b)) Q := fun os fx s hs => by
  obtain ⟨xs, nx, hx1, hx2⟩ := ha
  obtain ⟨ys, ny, hy1, hy2⟩ := hb
  have lx := hx2.length
  have ly := hy2.length
  refine add_tuples hs.F hs.N (vs := xs) (ws := ys) ⟨_, hs.get hx1, rfl, nx, rfl⟩ ⟨_, hs.get hy1, rfl, ny, rfl⟩ (fun e => ?_) (fun _ e => ?_) (fun _ _ h' F' N' => ?_) (by have e : sizeLine = 2 ^ 24 := rfl; omega)
  · subst e
    have : p = [] := List.length_eq_zero_iff.mp (by rw [← lx]; rfl)
    subst this
    exact ⟨m, nw, hs, h b nw Kp.refl ⟨ys, ny, hy1, hy2⟩⟩
  · subst e
    have : q = [] := List.length_eq_zero_iff.mp (by rw [← ly]; rfl)
    subst this
    exact ⟨m, nw, hs, h a nw Kp.refl ⟨xs, nx, hx1, by simpa using hx2⟩⟩
  · refine ⟨m, (s.heap.objs.size, tupO (xs ++ ys) 0) :: nw, ⟨F', N', ?_, hs.os, hs.bare⟩, h _ _ Kp.cons ⟨xs ++ ys, 0, .head _, hx2.append hy2⟩⟩
    have := (hs.push (tupO (xs ++ ys) 0) rfl).D
    exact this
theorem rv_len_list {a : Addr} {items : List Value} {n : Nat} (ha : (a, listOf items.toArray n) ∈ nw) (hz : items.length < 1000) : Rv prog w A h₀ L m nw (call (.builtin "len") [.ref a]) (VI items.length) := fun os fx s hs =>
  PyProof.Rows.len_list (items := items.toArray) ⟨_, hs.get ha, rfl, n, rfl⟩ (by rw [List.size_toArray]; omega) ⟨m, nw, (hs.toks (tk := s.toks + 1)).toks (tk := s.toks + 1 + 1), ⟨_, by rw [List.size_toArray]⟩, rfl, rfl⟩
theorem rv_isnot_ref {a : Addr} : Rv prog w A h₀ L m nw (compareOp .IsNot (.ref a) (.ref a)) (· = .bool false) := fun os fx s hs => wpAny_isNot_ref_self ⟨m, nw, hs, rfl, rfl, rfl⟩
/-- x op= e -/
theorem sx_aug {x : Str} {pos' : Pos} {op : Operator} {value : Expr} {pos : Pos} {rest : List Stmt} {old : Value} {P : Value → Loc → Led → Prop} {R : Flow → Loc → Led → Prop} (hl : env.locals = L) (hk : env.scope.kind = .function) (hx : env.kindOf x = some .local) (hm : m x = some old)
    (hv : Ex prog w A h₀ L env m nw value P) (k : ∀ v m' nw', P v m' nw' → Run prog w A h₀ L m' nw' (inplaceOp op old v) (fun r m'' nw'' => Sx prog w A h₀ L env (upd m'' x r) nw'' rest R)) : Sx prog w A h₀ L env m nw (.AugAssign (.Name x pos') op value pos :: rest) R :=
  sx_cons fun os fx s hs => wpAny_AugAssign_Name (wpAny_loadName_local hk hx (by have n := hs.F.ns; rw [← hl] at n; exact n) hm (wpAny_mono (hv os fx s hs) (fun v s₁ ⟨m1, nw1, hs1, hp⟩ => wpAny_mono (k v m1 nw1 hp os fx s₁ hs1) (fun r s₂ ⟨m2, nw2, hs2, h2⟩ =>
    wpAny_mono (run_store (Q := fun _ m nw => Sx prog w A h₀ L env m nw rest R) hl hk hx h2 os fx s₂ hs2) (fun _ s₃ ⟨m3, nw3, hs3, h3⟩ => ⟨m3, nw3, hs3, h3⟩) fun _ _ e => e) fun _ _ e => e) fun _ _ e => e))
theorem rv_iadd {a b : Int} {t u : Tok} : Rv prog w A h₀ L m nw (inplaceOp .Add (.int a t) (.int b u)) (VI (a + b)) := fun os fx s hs => PySem.AutoIntOps.iadd_0 ⟨m, nw, hs.toks, ⟨_, rfl⟩, rfl, rfl⟩
end
end Mine

-- WK3
open PySem PySem.W PySem.Calls PyProof.Rows
set_option maxRecDepth 100000
set_option linter.unusedVariables false
namespace Mine
section
variable {prog : Program} {w : World} {A : Around} {h₀ : Heap} {L : Addr} {m : Loc} {nw rest : Led} {mg mb : Loc} {r : Nat} {env : Env} {K : Frag}
/-- a list comprehension over a list -/
theorem ex_compL {elt iter : Expr} {x : Str} {px pos : Pos} {ifs : List Expr} {scope : Scope} {cl : List (Str × Addr)} {Q : Value → Loc → Led → Prop} {a : Addr} {items : List Value} {n : Nat} (J : Nat → List Value → Prop) (M : Fm K mg mb r A h₀ L)
    (hclos : closureFor scope env = pure cl) (hcell : ∀ y ∈ scope.names, y.2 ≠ .cell) (hkind : scope.kind = .function) (hnames : ∀ y ∈ scope.names, y.2 = .local → scope.names.lookup y.1 = some .local) (hx : scope.names.lookup x = some .local)
    (hiter : Ev prog w A h₀ L env m nw iter (· = .ref a)) (ha : (a, listOf items.toArray n) ∈ nw) (hz : items.length < 1000) (h0 : J 0 [])
    (turn : ∀ i u C oC m₂ D ys, items[i]? = some u → LCg.NsObj oC m₂ → m₂ x = some u → J i ys →
      Run prog w A h₀ L m ((C, oC) :: (D, LCg.lst ys) :: nw) (forIn ifs true fun c r => if r = true then do let ok ← isTrue c (compEnvC scope cl C env) (eval c (compEnvC scope cl C env)); pure (ForInStep.yield ok) else pure (ForInStep.yield r))
        (fun b m'' nw'' => (m'' = m ∧ nw'' = (C, oC) :: (D, LCg.lst ys) :: nw) ∧ (b = true → Ev prog w A h₀ L (compEnvC scope cl C env) m ((C, oC) :: (D, LCg.lst ys) :: nw) elt (fun y => J (i + 1) (ys ++ [y]))) ∧ (b = false → J (i + 1) ys)))
    (done : ∀ D ys, J items.length ys → D ∉ keys nw → Q (.ref D) m ((D, LCg.lst ys) :: nw))
    (hs : ∀ x, foldedSetIterable iter env x = pure x := by intro _; rfl) :
    Ex prog w A h₀ L env m nw (.ListComp elt [⟨.Name x px, iter, ifs, 0⟩] scope pos) Q := by
  refine ex_comp (cl := cl) (P := Is (· = .ref a) m nw) (It := fun _ i o => o.cls = .type "list_iterator" ∧ o.data = .fields #[.ref a, .int i 0]) (n := fun _ => items.length) (V := fun _ i v => items[i]? = some v) (need := fun _ nw => (a, listOf items.toArray n) ∈ nw) (fun _ _ i ys => J i ys) hclos hcell hkind hnames hx hiter ?_ ?_ ?_ ?_ ?_ ?_ hs
  · rintro v m' nw' os fx s Q ⟨e, e1, e2⟩ hs hQ
    subst e; subst e1; subst e2
    exact start_list (items := items.toArray) ha rfl rfl hs hQ
  · rintro v m' nw' _
    have S := stepper_list (prog := prog) (w := w) (A := A) (l := a) (items := items.toArray) M.hnd
    exact ⟨fun i h₀ L os m nw fx s I o Q hi hs ho hn hQ => S.item i h₀ L os m nw fx s I o Q (by simpa using hi) hs ho ⟨_, n, hn, rfl, rfl⟩ fun h' o' u hu => hQ h' o' u (by simpa using hu), fun h₀ L os m nw fx s I o Q hs ho hn hQ => S.done h₀ L os m nw fx s I o Q hs (by simpa using ho) ⟨_, n, hn, rfl, rfl⟩ hQ⟩
  · exact fun v m' nw' _ => self_list
  · rintro v m' nw' ⟨e, e1, e2⟩
    exact ⟨h0, hz, fun nw2 k => k.get (by rw [e2]; exact ha)⟩
  · rintro v m' nw' i u C oC m₂ D ys ⟨e, e1, e2⟩ hi hu hN hm hJ
    subst e1; subst e2
    exact turn i u C oC m₂ D ys hu hN hm hJ
  · rintro v m' nw' D ys ⟨e, e1, e2⟩ hJ hD
    subst e1; subst e2
    exact done D ys hJ hD
/-- a list comprehension over what walks an ErrorList (the list itself, or a node) -/
theorem ex_compE {elt iter : Expr} {x : Str} {px pos : Pos} {ifs : List Expr} {scope : Scope} {cl : List (Str × Addr)} {Q : Value → Loc → Led → Prop} {a e de : Addr} {items : List Value} {n : Nat} (J : Nat → List Value → Prop) (M : Fm (KH w.params) mg mb r A h₀ L)
    (hclos : closureFor scope env = pure cl) (hcell : ∀ y ∈ scope.names, y.2 ≠ .cell) (hkind : scope.kind = .function) (hnames : ∀ y ∈ scope.names, y.2 = .local → scope.names.lookup y.1 = some .local) (hx : scope.names.lookup x = some .local)
    (hiter : Ev prog w A h₀ L env m nw iter (· = .ref a)) (he : (e, elObj de items n) ∈ nw) (hz : items.length < 1000)
    (hstart : ∀ os fx s Q, St h₀ L os m nw fx s → (∀ I o s', (o.cls = .type "list_iterator" ∧ o.data = .fields #[.ref e, .int ((0 : Nat) : Int) 0]) → St h₀ L os m nw ((I, o) :: fx) s' → Q (.ref I) s') → wpAny (model prog w) A (pyIter (.ref a)) Q (fun _ _ => False) s) (h0 : J 0 [])
    (turn : ∀ i u C oC m₂ D ys, items[i]? = some u → LCg.NsObj oC m₂ → m₂ x = some u → J i ys →
      Run prog w A h₀ L m ((C, oC) :: (D, LCg.lst ys) :: nw) (forIn ifs true fun c r => if r = true then do let ok ← isTrue c (compEnvC scope cl C env) (eval c (compEnvC scope cl C env)); pure (ForInStep.yield ok) else pure (ForInStep.yield r))
        (fun b m'' nw'' => (m'' = m ∧ nw'' = (C, oC) :: (D, LCg.lst ys) :: nw) ∧ (b = true → Ev prog w A h₀ L (compEnvC scope cl C env) m ((C, oC) :: (D, LCg.lst ys) :: nw) elt (fun y => J (i + 1) (ys ++ [y]))) ∧ (b = false → J (i + 1) ys)))
    (done : ∀ D ys, J items.length ys → D ∉ keys nw → Q (.ref D) m ((D, LCg.lst ys) :: nw))
    (hs : ∀ x, foldedSetIterable iter env x = pure x := by intro _; rfl) :
    Ex prog w A h₀ L env m nw (.ListComp elt [⟨.Name x px, iter, ifs, 0⟩] scope pos) Q := by
  refine ex_comp (cl := cl) (P := Is (· = .ref a) m nw) (It := fun _ i o => o.cls = .type "list_iterator" ∧ o.data = .fields #[.ref e, .int i 0]) (n := fun _ => items.length) (V := fun _ i v => items[i]? = some v) (need := fun _ nw => (e, elObj de items n) ∈ nw) (fun _ _ i ys => J i ys) hclos hcell hkind hnames hx hiter ?_ ?_ ?_ ?_ ?_ ?_ hs
  · rintro v m' nw' os fx s Q ⟨e, e1, e2⟩ hs hQ
    subst e; subst e1; subst e2
    exact hstart os fx s Q hs hQ
  · rintro v m' nw' _
    have S := stepper_el (prog := prog) (w := w) (A := A) (l := e) (items := items.toArray) M.hnd
    exact ⟨fun i h₀ L os m nw fx s I o Q hi hs ho hn hQ => S.item i h₀ L os m nw fx s I o Q (by simpa using hi) hs ho ⟨_, _, hn, rfl⟩ fun h' o' u hu => hQ h' o' u (by simpa using hu), fun h₀ L os m nw fx s I o Q hs ho hn hQ => S.done h₀ L os m nw fx s I o Q hs (by simpa using ho) ⟨_, _, hn, rfl⟩ hQ⟩
  · exact fun v m' nw' _ => self_list
  · rintro v m' nw' ⟨_, e1, e2⟩
    exact ⟨h0, hz, fun nw2 k => k.get (by rw [e2]; exact he)⟩
  · rintro v m' nw' i u C oC m₂ D ys ⟨_, e1, e2⟩ hi hu hN hm hJ
    subst e1; subst e2
    exact turn i u C oC m₂ D ys hu hN hm hJ
  · rintro v m' nw' D ys ⟨e, e1, e2⟩ hJ hD
    subst e1; subst e2
    exact done D ys hJ hD
end
end Mine

-- WK3b
open PySem PySem.W PySem.Calls PyProof.Rows
set_option maxRecDepth 100000
set_option linter.unusedVariables false
namespace Mine
section
variable {prog : Program} {w : World} {A : Around} {h₀ : Heap} {L : Addr} {m : Loc} {nw rest : Led} {mg mb : Loc} {r : Nat} {env : Env} {K : Frag}
/-- the walk of a comprehension, whatever is done with its list -/
theorem comp_core {elt iter : Expr} {x : Str} {px pos pos' : Pos} {ifs : List Expr} {scope : Scope} {cl : List (Str × Addr)} {P : Value → Loc → Led → Prop} {use : Option (Value → Sem Unit)} {Q' : Value → Shared → Prop} {os : OsState} {fx : Led} {s : Shared} {It : Value → Nat → Obj → Prop} {n : Value → Nat} {V : Value → Nat → Value → Prop} {need : Value → Led → Prop} (J : Value → Led → Nat → List Value → Prop)
    (hclos : closureFor scope env = pure cl) (hcell : ∀ y ∈ scope.names, y.2 ≠ .cell) (hkind : scope.kind = .function) (hnames : ∀ y ∈ scope.names, y.2 = .local → scope.names.lookup y.1 = some .local) (hx : scope.names.lookup x = some .local)
    (hiter : Ex prog w A h₀ L env m nw iter P)
    (hstart : ∀ v m' nw' os fx s Q, P v m' nw' → St h₀ L os m' nw' fx s → (∀ I o s', It v 0 o → St h₀ L os m' nw' ((I, o) :: fx) s' → Q (.ref I) s') → wpAny (model prog w) A (pyIter v) Q (fun _ _ => False) s)
    (W : ∀ v m' nw', P v m' nw' → Stepper prog w A (It v) (n v) (V v) (need v)) (hself : ∀ v m' nw', P v m' nw' → SelfIt prog w A (It v))
    (h0 : ∀ v m' nw', P v m' nw' → J v nw' 0 [] ∧ n v < 1000 ∧ ∀ nw2, Kp [] nw' nw2 → need v nw2)
    (turn : ∀ v m' nw' i u C oC m₂ D ys, P v m' nw' → i < n v → V v i u → LCg.NsObj oC m₂ → m₂ x = some u → J v nw' i ys →
      Run prog w A h₀ L m' ((C, oC) :: (D, LCg.lst ys) :: nw') (forIn ifs true fun c r => if r = true then do let ok ← isTrue c (compEnvC scope cl C env) (eval c (compEnvC scope cl C env)); pure (ForInStep.yield ok) else pure (ForInStep.yield r))
        (fun b m'' nw'' => (m'' = m' ∧ nw'' = (C, oC) :: (D, LCg.lst ys) :: nw') ∧ (b = true → Ev prog w A h₀ L (compEnvC scope cl C env) m' ((C, oC) :: (D, LCg.lst ys) :: nw') elt (fun y => J v nw' (i + 1) (ys ++ [y]))) ∧ (b = false → J v nw' (i + 1) ys)))
    (fin : ∀ v m' nw' C oC m₂ D ys s₃, P v m' nw' → J v nw' (n v) ys → D ∉ keys nw' → LCg.NsObj oC m₂ → St h₀ L os m' ((C, oC) :: (D, LCg.lst ys) :: nw') fx s₃ → ∀ r, compPost (model prog w) A (fun _ _ => False) use Q' (.ref D) C (.ok r) s₃)
    (hst : St h₀ L os m nw fx s)
    (hs : ∀ x, foldedSetIterable iter env x = pure x := by intro _; rfl) :
    wpAny (model prog w) A (comprehension (.ListComp elt [⟨.Name x px, iter, ifs, 0⟩] scope pos) scope env pos' (newList []) false (eval iter env) use) Q' (fun _ _ => False) s := by
  refine wpAny_comprehension_free (use := use) rfl hs hclos hkind hnames (wpAny_mono (hiter os fx s hst) (fun v s₁ ⟨m', nw', hs1, hp⟩ => ?_) fun _ _ e => e.elim)
  refine wpAny_mono (hstart v m' nw' os fx s₁ (fun it s₂ => ∃ I o, it = .ref I ∧ It v 0 o ∧ St h₀ L os m' nw' ((I, o) :: fx) s₂) hp hs1 fun I o s' hi hs2 => ⟨I, o, rfl, hi, hs2⟩) (fun it s₂ h₂ => ?_) fun _ _ e => e.elim
  obtain ⟨I, o, rfl, hi0, hs2⟩ := h₂
  obtain ⟨hJ0, hn, hneed⟩ := h0 v m' nw' hp
  refine wpAny_newObj_type (wpAny_newFunctionEnv hcell (by intro y hy; simp at hy) (fun h₁ hns₁ hsb₁ => ?_) hkind)
  dsimp only at hns₁ hsb₁ ⊢
  have hs3 := hs2.push (LCg.lst []) rfl
  have fD : s₂.heap.objs.size ∉ keys nw' := fun hx => by
    obtain ⟨p, hp, e⟩ := List.mem_map.mp hx
    exact absurd (Heap.lt_size (hs2.get hp)) (by rw [e]; exact Nat.lt_irrefl _)
  have hs4 := hs3.push ({ cls := .type "dict", data := .dict #[] } : Obj) rfl
  generalize hD : s₂.heap.objs.size = D at hs3 hs4 fD ⊢
  generalize hH : ({ s₂ with heap := s₂.heap.push (LCg.lst []) } : Shared).heap.objs.size = C at hs4
  have hC : (s₂.heap.push { cls := Value.type "list", data := Data.seq ([] : List Value).toArray }).objs.size = C := hH
  rw [hC] at hns₁ hsb₁
  obtain ⟨oC, hoC, nC⟩ := LCg.ns_obj hns₁
  have hs5 := hs4.set (tk := s₂.toks + 0) (.head _) hsb₁ hoC
  rw [setL_here] at hs5
  have loop : ∀ s₃ : Shared, s₃ = { s₂ with heap := h₁, toks := s₂.toks + ([] : List (Str × Value)).length } →
      codeAny (model prog w) A (.compLoop (.ListComp elt [⟨.Name x px, iter, ifs, 0⟩] scope pos) 0 (.ref I) (.ref D) (compEnvC scope cl C env))
        (compPost (model prog w) A (fun _ _ => False) use Q' (.ref D) C) s₃ := by
    rintro s₃ rfl
    refine codeAny_compLoop_tests (fun k s' => ∃ i ys oC m₂ oI, St h₀ L os m' ((C, oC) :: (D, LCg.lst ys) :: nw') ((I, oI) :: fx) s' ∧ LCg.NsObj oC m₂ ∧ It v i oI ∧ J v nw' i ys ∧ i ≤ n v ∧ ys.length ≤ i ∧ k = n v + 1 - i) ?_ (n v + 1) ⟨0, [], oC, _, o, hs5, nC, hi0, hJ0, Nat.zero_le _, Nat.le_refl _, rfl⟩
    rintro k s' ⟨i, ys, oC, m₂, oI, hst', hnC, hIt, hJ, hle, hyl, rfl⟩
    have kp : Kp [] nw' ((C, oC) :: (D, LCg.lst ys) :: nw') := Kp.cons.trans Kp.cons
    by_cases hlt : i < n v
    · refine wpAny_noRaise ((W v m' nw' hp).item i h₀ L os m' _ fx s' I oI _ hlt hst' hIt (hneed _ kp) fun u o' s₃ hv ho' hs₃ => ?_)
      have hcn : (s₃.heap).Ns C m₂ := hnC.ns (hs₃.get (.head _))
      refine wpAny_assign_Name (wpAny_storeName_local (lookup_relabel_local hx) hcn (fun h₃ hn₃ hsb₃ => ?_) (by simp [compEnvC, relabel, hkind]))
      obtain ⟨oC', hoC', nC'⟩ := LCg.ns_obj hn₃
      have hs₄ := hs₃.set (tk := s₃.toks + 1) (.head _) hsb₃ hoC'
      rw [setL_here] at hs₄
      refine wpAny_noRaise (wpAny_mono (turn v m' nw' i u C oC' _ D ys hp hlt hv nC' (by simp) hJ os ((I, o') :: fx) _ hs₄) (fun ok s₅ ⟨m5, nw5, hs₅, ⟨e1, e2⟩, k1, k2⟩ => ?_) fun _ _ e => e)
      subst e1; subst e2
      cases ok with
      | true =>
        simp only [if_true]
        refine wpAny_noRaise (wpAny_mono (k1 rfl os ((I, o') :: fx) s₅ hs₅) (fun y s₆ ⟨m6, nw6, hs₆, hy, e1, e2⟩ => ?_) fun _ _ e => e)
        subst e1; subst e2
        refine append_at (hsz := by rw [List.size_toArray]; have e : sizeLine = 2 ^ 24 := rfl; omega) (hs₆.get (.tail _ (.head _))) fun h₇ hs₇ hD₇ => ?_
        have hst7 := hs₆.set (tk := s₆.toks) (.tail _ (.head _)) hs₇ (hD₇.trans (congrArg some (LCg.lst_snoc ys y)))
        have hCD : C ≠ D := by
          have := hs₆.D
          simp only [List.cons_append, List.map_cons, List.nodup_cons, List.mem_cons] at this
          exact fun e => this.1 (.inl e)
        rw [setL_skip hCD, setL_here] at hst7
        exact ⟨n v + 1 - (i + 1), by omega, i + 1, ys ++ [y], oC', _, o', hst7, nC', ho', hy, hlt, by rw [List.length_append, List.length_singleton]; omega, rfl⟩
      | false =>
        simp only [Bool.false_eq_true, if_false]
        exact ⟨n v + 1 - (i + 1), by omega, i + 1, ys, oC', _, o', hs₅, nC', ho', k2 rfl, hlt, by omega, rfl⟩
    · have e : i = n v := by omega
      subst e
      refine wpAny_noRaise ((W v m' nw' hp).done h₀ L os m' _ fx s' I oI _ hst' hIt (hneed _ kp) fun s₃ hs₃ => ?_)
      exact fin v m' nw' C oC m₂ D ys s₃ hp hJ fD hnC hs₃ _
  exact codeAny_compStart_list (loop _ rfl) (wpAny_mono (hself v m' nw' hp 0 h₀ L os m' _ fx _ I o (fun it s' => it = .ref I ∧ s' = { s₂ with heap := h₁, toks := s₂.toks + ([] : List (Str × Value)).length }) hs5 hi0 ⟨rfl, rfl⟩) (fun it s' ⟨e1, e2⟩ => by subst e1; subst e2; exact loop _ rfl) fun _ _ e => e.elim)
/-- y = [comprehension], where the list is stored before the names of the comprehension are let go -/
theorem sx_comp {elt iter : Expr} {x y : Str} {px py pos spos : Pos} {ifs : List Expr} {scope : Scope} {rest : List Stmt} {R : Flow → Loc → Led → Prop} {cl : List (Str × Addr)} {P : Value → Loc → Led → Prop} {It : Value → Nat → Obj → Prop} {n : Value → Nat} {V : Value → Nat → Value → Prop} {need : Value → Led → Prop} (J : Value → Led → Nat → List Value → Prop)
    (hl : env.locals = L) (hk : env.scope.kind = .function) (hy : env.kindOf y = some .local) (hsw : swapsWith (.ListComp elt [⟨.Name x px, iter, ifs, 0⟩] scope pos) (some (.Name y py)) spos.line env = pure true)
    (hclos : closureFor scope env = pure cl) (hcell : ∀ y ∈ scope.names, y.2 ≠ .cell) (hkind : scope.kind = .function) (hnames : ∀ y ∈ scope.names, y.2 = .local → scope.names.lookup y.1 = some .local) (hx : scope.names.lookup x = some .local)
    (hiter : Ex prog w A h₀ L env m nw iter P)
    (hstart : ∀ v m' nw' os fx s Q, P v m' nw' → St h₀ L os m' nw' fx s → (∀ I o s', It v 0 o → St h₀ L os m' nw' ((I, o) :: fx) s' → Q (.ref I) s') → wpAny (model prog w) A (pyIter v) Q (fun _ _ => False) s)
    (W : ∀ v m' nw', P v m' nw' → Stepper prog w A (It v) (n v) (V v) (need v)) (hself : ∀ v m' nw', P v m' nw' → SelfIt prog w A (It v))
    (h0 : ∀ v m' nw', P v m' nw' → J v nw' 0 [] ∧ n v < 1000 ∧ ∀ nw2, Kp [] nw' nw2 → need v nw2)
    (turn : ∀ v m' nw' i u C oC m₂ D ys, P v m' nw' → i < n v → V v i u → LCg.NsObj oC m₂ → m₂ x = some u → J v nw' i ys →
      Run prog w A h₀ L m' ((C, oC) :: (D, LCg.lst ys) :: nw') (forIn ifs true fun c r => if r = true then do let ok ← isTrue c (compEnvC scope cl C env) (eval c (compEnvC scope cl C env)); pure (ForInStep.yield ok) else pure (ForInStep.yield r))
        (fun b m'' nw'' => (m'' = m' ∧ nw'' = (C, oC) :: (D, LCg.lst ys) :: nw') ∧ (b = true → Ev prog w A h₀ L (compEnvC scope cl C env) m' ((C, oC) :: (D, LCg.lst ys) :: nw') elt (fun y => J v nw' (i + 1) (ys ++ [y]))) ∧ (b = false → J v nw' (i + 1) ys)))
    (k : ∀ v m' nw' D ys, P v m' nw' → J v nw' (n v) ys → D ∉ keys nw' → Sx prog w A h₀ L env (upd m' y (.ref D)) ((D, LCg.lst ys) :: nw') rest R)
    (hs : ∀ x, foldedSetIterable iter env x = pure x := by intro _; rfl) :
    Sx prog w A h₀ L env m nw (.Assign [.Name y py] (.ListComp elt [⟨.Name x px, iter, ifs, 0⟩] scope pos) spos :: rest) R := sx_cons fun os fx s hst => by
  rw [exec_Assign_Name_used _ _ _ _ hsw]
  refine wpAny_bind (wpAny_standAt (wpAny_bind ?_))
  show wpAny _ A (do let _ ← comprehension (.ListComp elt [⟨.Name x px, iter, ifs, 0⟩] scope pos) scope env _ (newList []) false (eval iter env) (some (assign (.Name y py) env))) _ _ s
  refine wpAny_bind (wpAny_mono (comp_core (use := some (assign (.Name y py) env)) (Q' := fun _ s' => ∃ m'' nw'', St h₀ L os m'' nw'' fx s' ∧ Co prog w A h₀ L env rest R .next m'' nw'') J hclos hcell hkind hnames hx hiter hstart W hself h0 turn ?_ hst hs) (fun _ s' hq => wpAny_pure (wpAny_pure hq)) fun _ _ e => e)
  intro v m' nw' C oC m₂ D ys s₃ hp hJ hD hnC hs₃ _
  show wpAny _ A (assign (.Name y py) env (.ref D)) _ _ _
  refine wpAny_assign_Name (wpAny_mono (run_store (Q := fun _ m4 nw4 => m4 = upd m' y (.ref D) ∧ nw4 = (C, oC) :: (D, LCg.lst ys) :: nw') hl hk hy ⟨rfl, rfl⟩ os fx s₃ hs₃) (fun _ s₄ ⟨m4, nw4, hs₄, e1, e2⟩ => ?_) fun _ _ e => e)
  subst e1; subst e2
  refine ⟨m₂, hnC.ns (hs₄.get (.head _)), fun h' hsb => ?_⟩
  have hx3 := hs₄.N (C, oC) (.head _)
  have hC1 := hs₄.D
  simp only [List.cons_append, List.map_cons, List.nodup_cons] at hC1
  refine ⟨_, _, ⟨hs₄.F.change hsb hx3.2.1 hx3.2.2, fun p hp => ?_, ?_, hs₄.os, hs₄.bare⟩, k v m' nw' D ys hp hJ hD⟩
  · have hp2 : p ∈ (C, oC) :: ((D, LCg.lst ys) :: nw') ++ fx := .tail _ hp
    have z := hs₄.N p hp2
    refine ⟨(hsb.2 _ fun e => hC1.1 ?_).trans z.1, z.2⟩
    rw [← e]
    exact List.mem_map_of_mem (f := (·.1)) hp
  · have := hs₄.D
    simp only [List.cons_append, List.map_cons, List.nodup_cons] at this ⊢
    exact this.2
end
end Mine

-- WK3c
open PySem PySem.W PySem.Calls PyProof.Rows
set_option maxRecDepth 100000
set_option linter.unusedVariables false
namespace Mine
section
variable {prog : Program} {w : World} {A : Around} {h₀ : Heap} {L : Addr} {m : Loc} {nw rest : Led} {mg mb : Loc} {r : Nat} {env : Env} {K : Frag}
theorem sx_compL {elt iter : Expr} {x y : Str} {px py pos spos : Pos} {ifs : List Expr} {scope : Scope} {rest : List Stmt} {R : Flow → Loc → Led → Prop} {cl : List (Str × Addr)} {a : Addr} {items : List Value} {n : Nat} (J : Nat → List Value → Prop) (M : Fm K mg mb r A h₀ L)
    (hl : env.locals = L) (hk : env.scope.kind = .function) (hy : env.kindOf y = some .local) (hsw : swapsWith (.ListComp elt [⟨.Name x px, iter, ifs, 0⟩] scope pos) (some (.Name y py)) spos.line env = pure true)
    (hclos : closureFor scope env = pure cl) (hcell : ∀ y ∈ scope.names, y.2 ≠ .cell) (hkind : scope.kind = .function) (hnames : ∀ y ∈ scope.names, y.2 = .local → scope.names.lookup y.1 = some .local) (hx : scope.names.lookup x = some .local)
    (hiter : Ev prog w A h₀ L env m nw iter (· = .ref a)) (ha : (a, listOf items.toArray n) ∈ nw) (hz : items.length < 1000) (h0 : J 0 [])
    (turn : ∀ i u C oC m₂ D ys, items[i]? = some u → LCg.NsObj oC m₂ → m₂ x = some u → J i ys →
      Run prog w A h₀ L m ((C, oC) :: (D, LCg.lst ys) :: nw) (forIn ifs true fun c r => if r = true then do let ok ← isTrue c (compEnvC scope cl C env) (eval c (compEnvC scope cl C env)); pure (ForInStep.yield ok) else pure (ForInStep.yield r))
        (fun b m'' nw'' => (m'' = m ∧ nw'' = (C, oC) :: (D, LCg.lst ys) :: nw) ∧ (b = true → Ev prog w A h₀ L (compEnvC scope cl C env) m ((C, oC) :: (D, LCg.lst ys) :: nw) elt (fun y => J (i + 1) (ys ++ [y]))) ∧ (b = false → J (i + 1) ys)))
    (done : ∀ D ys, J items.length ys → D ∉ keys nw → Sx prog w A h₀ L env (upd m y (.ref D)) ((D, LCg.lst ys) :: nw) rest R)
    (hs : ∀ x, foldedSetIterable iter env x = pure x := by intro _; rfl) :
    Sx prog w A h₀ L env m nw (.Assign [.Name y py] (.ListComp elt [⟨.Name x px, iter, ifs, 0⟩] scope pos) spos :: rest) R := by
  refine sx_comp (cl := cl) (P := Is (· = .ref a) m nw) (It := fun _ i o => o.cls = .type "list_iterator" ∧ o.data = .fields #[.ref a, .int i 0]) (n := fun _ => items.length) (V := fun _ i v => items[i]? = some v) (need := fun _ nw => (a, listOf items.toArray n) ∈ nw) (fun _ _ i ys => J i ys) hl hk hy hsw hclos hcell hkind hnames hx hiter ?_ ?_ ?_ ?_ ?_ ?_ hs
  · rintro v m' nw' os fx s Q ⟨e, e1, e2⟩ hs hQ
    subst e; subst e1; subst e2
    exact start_list (items := items.toArray) ha rfl rfl hs hQ
  · rintro v m' nw' _
    have S := stepper_list (prog := prog) (w := w) (A := A) (l := a) (items := items.toArray) M.hnd
    exact ⟨fun i h₀ L os m nw fx s I o Q hi hs ho hn hQ => S.item i h₀ L os m nw fx s I o Q (by simpa using hi) hs ho ⟨_, n, hn, rfl, rfl⟩ fun h' o' u hu => hQ h' o' u (by simpa using hu), fun h₀ L os m nw fx s I o Q hs ho hn hQ => S.done h₀ L os m nw fx s I o Q hs (by simpa using ho) ⟨_, n, hn, rfl, rfl⟩ hQ⟩
  · exact fun v m' nw' _ => self_list
  · rintro v m' nw' ⟨e, e1, e2⟩
    exact ⟨h0, hz, fun nw2 k => k.get (by rw [e2]; exact ha)⟩
  · rintro v m' nw' i u C oC m₂ D ys ⟨e, e1, e2⟩ hi hu hN hm hJ
    subst e1; subst e2
    exact turn i u C oC m₂ D ys hu hN hm hJ
  · rintro v m' nw' D ys ⟨e, e1, e2⟩ hJ hD
    subst e1; subst e2
    exact done D ys hJ hD
theorem sx_compE {elt iter : Expr} {x y : Str} {px py pos spos : Pos} {ifs : List Expr} {scope : Scope} {rest : List Stmt} {R : Flow → Loc → Led → Prop} {cl : List (Str × Addr)} {a e de : Addr} {items : List Value} {n : Nat} (J : Nat → List Value → Prop) (M : Fm (KH w.params) mg mb r A h₀ L)
    (hl : env.locals = L) (hk : env.scope.kind = .function) (hy : env.kindOf y = some .local) (hsw : swapsWith (.ListComp elt [⟨.Name x px, iter, ifs, 0⟩] scope pos) (some (.Name y py)) spos.line env = pure true)
    (hclos : closureFor scope env = pure cl) (hcell : ∀ y ∈ scope.names, y.2 ≠ .cell) (hkind : scope.kind = .function) (hnames : ∀ y ∈ scope.names, y.2 = .local → scope.names.lookup y.1 = some .local) (hx : scope.names.lookup x = some .local)
    (hiter : Ev prog w A h₀ L env m nw iter (· = .ref a)) (he : (e, elObj de items n) ∈ nw) (hz : items.length < 1000)
    (hstart : ∀ os fx s Q, St h₀ L os m nw fx s → (∀ I o s', (o.cls = .type "list_iterator" ∧ o.data = .fields #[.ref e, .int ((0 : Nat) : Int) 0]) → St h₀ L os m nw ((I, o) :: fx) s' → Q (.ref I) s') → wpAny (model prog w) A (pyIter (.ref a)) Q (fun _ _ => False) s) (h0 : J 0 [])
    (turn : ∀ i u C oC m₂ D ys, items[i]? = some u → LCg.NsObj oC m₂ → m₂ x = some u → J i ys →
      Run prog w A h₀ L m ((C, oC) :: (D, LCg.lst ys) :: nw) (forIn ifs true fun c r => if r = true then do let ok ← isTrue c (compEnvC scope cl C env) (eval c (compEnvC scope cl C env)); pure (ForInStep.yield ok) else pure (ForInStep.yield r))
        (fun b m'' nw'' => (m'' = m ∧ nw'' = (C, oC) :: (D, LCg.lst ys) :: nw) ∧ (b = true → Ev prog w A h₀ L (compEnvC scope cl C env) m ((C, oC) :: (D, LCg.lst ys) :: nw) elt (fun y => J (i + 1) (ys ++ [y]))) ∧ (b = false → J (i + 1) ys)))
    (done : ∀ D ys, J items.length ys → D ∉ keys nw → Sx prog w A h₀ L env (upd m y (.ref D)) ((D, LCg.lst ys) :: nw) rest R)
    (hs : ∀ x, foldedSetIterable iter env x = pure x := by intro _; rfl) :
    Sx prog w A h₀ L env m nw (.Assign [.Name y py] (.ListComp elt [⟨.Name x px, iter, ifs, 0⟩] scope pos) spos :: rest) R := by
  refine sx_comp (cl := cl) (P := Is (· = .ref a) m nw) (It := fun _ i o => o.cls = .type "list_iterator" ∧ o.data = .fields #[.ref e, .int i 0]) (n := fun _ => items.length) (V := fun _ i v => items[i]? = some v) (need := fun _ nw => (e, elObj de items n) ∈ nw) (fun _ _ i ys => J i ys) hl hk hy hsw hclos hcell hkind hnames hx hiter ?_ ?_ ?_ ?_ ?_ ?_ hs
  · rintro v m' nw' os fx s Q ⟨e, e1, e2⟩ hs hQ
    subst e; subst e1; subst e2
    exact hstart os fx s Q hs hQ
  · rintro v m' nw' _
    have S := stepper_el (prog := prog) (w := w) (A := A) (l := e) (items := items.toArray) M.hnd
    exact ⟨fun i h₀ L os m nw fx s I o Q hi hs ho hn hQ => S.item i h₀ L os m nw fx s I o Q (by simpa using hi) hs ho ⟨_, _, hn, rfl⟩ fun h' o' u hu => hQ h' o' u (by simpa using hu), fun h₀ L os m nw fx s I o Q hs ho hn hQ => S.done h₀ L os m nw fx s I o Q hs (by simpa using ho) ⟨_, _, hn, rfl⟩ hQ⟩
  · exact fun v m' nw' _ => self_list
  · rintro v m' nw' ⟨_, e1, e2⟩
    exact ⟨h0, hz, fun nw2 k => k.get (by rw [e2]; exact he)⟩
  · rintro v m' nw' i u C oC m₂ D ys ⟨_, e1, e2⟩ hi hu hN hm hJ
    subst e1; subst e2
    exact turn i u C oC m₂ D ys hu hN hm hJ
  · rintro v m' nw' D ys ⟨e, e1, e2⟩ hJ hD
    subst e1; subst e2
    exact done D ys hJ hD
end
end Mine

-- WK4
open PySem PySem.W PySem.Calls PyProof.Rows
set_option maxRecDepth 100000
set_option linter.unusedVariables false
namespace Mine
/-- the rows of the law, and the tree that was built -/
structure Rk (P : Params) (nw : Led) (dk : Bool) (S : List Key → Prop) (G : List Fa) (ra fr : Addr) (vs ws : List Value) (nr nf : Nat) (lrs : List Lr) (ps : List (List Key)) : Prop where
  hrows : (ra, listOf vs.toArray nr) ∈ nw
  hlrs : LrsAt nw vs lrs
  hfr : (fr, listOf ws.toArray nf) ∈ nw
  hps : PathsAt nw ws ps
  hall : ∀ p, S p → p ∈ ps
  hperm : G.Perm (lrs.map (·.f))
  hok : ∀ lr ∈ lrs, lr.p = lr.f.path dk ∧ lr.code = lr.f.code ∧ FaOk nw lr.f ∧ ∃ rl, DefAt (KH P) lr.d lr.code rl
  hfew : lrs.length ≤ 10
theorem Rk.keep0 {P nw nw' dk S G ra fr vs ws nr nf lrs ps} (h : Rk P nw dk S G ra fr vs ws nr nf lrs ps) (k : Kp [] nw nw') : Rk P nw' dk S G ra fr vs ws nr nf lrs ps :=
  ⟨k.get h.hrows, h.hlrs.keep0 k, k.get h.hfr, h.hps.mono fun x p h => h.keep0 k, h.hall, h.hperm, fun lr hlr => let ⟨a, b, c, d⟩ := h.hok lr hlr; ⟨a, b, c.keep0 k, d⟩, h.hfew⟩
abbrev here (lrs : List Lr) (p : List Key) : List Lr := lrs.filter fun lr => decide (lr.p = p)
theorem LrsAt.nil {nw} : LrsAt nw [] [] := ⟨rfl, fun i v h => by simp at h⟩
theorem LrsAt.snoc {nw vs lrs v lr} (h : LrsAt nw vs lrs) (hv : LrAt nw v lr) : LrsAt nw (vs ++ [v]) (lrs ++ [lr]) := by
  refine ⟨by simp [h.1], fun i u hu => ?_⟩
  by_cases hi : i < vs.length
  · rw [List.getElem?_append_left hi] at hu
    obtain ⟨l, h1, h2⟩ := h.2 i u hu
    exact ⟨l, by rw [List.getElem?_append_left (by rw [← h.1]; exact hi)]; exact h1, h2⟩
  · rw [List.getElem?_append_right (by omega)] at hu
    have h0 : i - vs.length = 0 := by
      have := (List.getElem?_eq_some_iff.mp hu).1
      simp at this; omega
    rw [h0] at hu
    simp at hu
    subst hu
    refine ⟨lr, ?_, hv⟩
    rw [List.getElem?_append_right (by rw [← h.1]; omega), ← h.1, h0]; rfl
/-- the names of the walk's frame -/
structure Wf (m : Loc) (root x ra fr ha tl : Addr) (kv : Value) : Prop where
  tree : m "tree" = some (.ref root)
  node : m "node" = some (.ref x)
  kind : m "kind" = some kv
  rows : m "rows" = some (.ref ra)
  fronts : m "fronts" = some (.ref fr)
  here : m "here" = some (.ref ha)
  told : m "told" = some (.ref tl)
theorem Wf.upd {m : Loc} {root x ra fr ha tl : Addr} {kv v : Value} {n : Str} (h : Wf m root x ra fr ha tl kv) (hn : n ∉ (["tree", "node", "kind", "rows", "fronts", "here", "told"] : List Str)) : Wf (Mine.upd m n v) root x ra fr ha tl kv := by
  have e : ∀ y : Str, y ∈ (["tree", "node", "kind", "rows", "fronts", "here", "told"] : List Str) → Mine.upd m n v y = m y := fun y hy => by
    unfold Mine.upd
    rw [if_neg]
    rintro rfl
    exact hn hy
  refine ⟨(e _ (by decide)).trans h.tree, (e _ (by decide)).trans h.node, (e _ (by decide)).trans h.kind, (e _ (by decide)).trans h.rows, (e _ (by decide)).trans h.fronts, (e _ (by decide)).trans h.here, (e _ (by decide)).trans h.told⟩
theorem firstOf_mem {fs : List Fa} {c : Nat} (h : c ∈ fs.map (·.code)) : ∃ f ∈ fs, f.code = c ∧ firstOf fs c = .ref f.x := by
  obtain ⟨f, hf, hc⟩ := List.mem_map.mp h
  unfold firstOf
  cases e : fs.find? (fun f => f.code == c) with
  | none => exact absurd (List.find?_eq_none.mp e f hf) (by simp [hc])
  | some g => exact ⟨g, List.mem_of_find?_eq_some e, by simpa using List.find?_some e, rfl⟩
theorem firstOf_kind (fs : List Fa) (c : Nat) : firstOf fs c = .none ∨ ∃ a, firstOf fs c = .ref a := by
  unfold firstOf
  cases fs.find? (fun f => f.code == c) with
  | none => exact .inl rfl
  | some g => exact .inr ⟨_, rfl⟩
theorem firstOf_some {fs : List Fa} {c : Nat} (h : (firstOf fs c == .none) = false) : c ∈ fs.map (·.code) := by
  unfold firstOf at h
  cases e : fs.find? (fun f => f.code == c) with
  | none => rw [e] at h; cases h
  | some g => exact List.mem_map.mpr ⟨g, List.mem_of_find?_eq_some e, by simpa using List.find?_some e⟩
theorem walk_codes {w : World} {dk root T S G nw ra fr vs ws nr nf lrs ps} (sh : Shape dk root T S G) (hrk : Rk w.params nw dk S G ra fr vs ws nr nf lrs ps) {nd : Nd} (hnd : nd ∈ T) : (nd.fs.map (·.code)).Perm ((here lrs nd.p).map (·.code)) := by
  have h1 := (sh.errs nd hnd).map (·.code)
  have h2 := (hrk.hperm.filter fun f => decide (f.path dk = nd.p)).map (·.code)
  refine (h1.trans h2).trans ?_
  rw [List.filter_map, List.map_map]
  have e : here lrs nd.p = lrs.filter ((fun f => decide (f.path dk = nd.p)) ∘ (·.f)) := by
    unfold here
    refine List.filter_congr fun lr hlr => ?_
    show decide (lr.p = nd.p) = decide (lr.f.path dk = nd.p)
    rw [(hrk.hok lr hlr).1]
  rw [e]
  refine List.Perm.of_eq (List.map_congr_left fun lr hlr => ?_)
  exact (hrk.hok lr (List.mem_filter.mp hlr).1).2.1.symm
section
variable {prog : Program} {w : World} {A : Around} {h₀ : Heap} {L : Addr} {m : Loc} {nw rest : Led} {mg mb : Loc} {r : Nat} {env : Env} {K : Frag} {dk : Bool} {root : Addr} {T : List Nd} {S : List Key → Prop} {G : List Fa} {ra fr : Addr} {vs ws : List Value} {nr nf : Nat} {lrs : List Lr} {ps : List (List Key)}
theorem ev_fetch {oe fe : Expr} {apos pos : Pos} {pp : Addr} {nd : Nd} (M : Fm (KH w.params) mg mb r A h₀ L) (hr : 5 ≤ r) (htr : Tr prog w nw rest dk root T S G) (hnd : nd ∈ T) (hpp : PathAt nw pp nd.p)
    (ho : Ev prog w A h₀ L env m nw oe (· = .ref root)) (hf : Ev prog w A h₀ L env m nw fe (· = .ref pp)) {pl : Sem Bool}
    (he : eval (.Call (.Attribute oe "fetch_node_from" apos) [fe] [] pos) env = (do
      let ov ← eval oe env
      standAt apos.atName
      let (f, first) ← holding [ov] (getMethod ov "fetch_node_from" pl)
      callWith pos f first (backTo pos (starEach [fe] env)) (backToKw pos (keywordEach [] env))) := by rfl)
    (hs : starEach [fe] env = [(false, eval fe env)] := by rfl) :
    Ev prog w A h₀ L env m nw (.Call (.Attribute oe "fetch_node_from" apos) [fe] [] pos) (· = .ref nd.x) := by
  obtain ⟨nd0, hnd0, _, h2, _, h4, _⟩ := htr.rootAt
  have N := (htr.ok nd0 hnd0).node.keep0 htr.lay.kp
  rw [h2, h4] at N
  have a : MethAttr (KH w.params) (rootC dk) "fetch_node_from" 388 := by cases dk; exact kf_fetch_417; exact kf_fetch_405
  exact ev_methK ho (nd_method M N a ⟨rfl, rfl, rfl⟩) (cw_K M kk_388 (arg1 hf hs) (fun vs m' nw' ⟨v, e1, e2, e3, e4⟩ => by
    subst e1; subst e2; subst e3; subst e4
    exact Run.mono (run_fp M (t_fetch htr hpp (htr.ok nd hnd).len) hr) fun v m' nw' ⟨h, e⟩ => ⟨h.2.1 nd hnd rfl, e⟩) hs rfl) he
theorem rv_dict_itemA {value slice : Expr} {d : Addr} {o : Obj} {kvs : List (Key × Value)} {k : Key} {key v : Value} (hm : (d, o) ∈ nw) (hd : KDict prog w o kvs) (hk : vkey key = some k) (hv : valueAt kvs k = some v)
    (hs : subscripted slice false (.ref d) key = operate [.ref d, key] (getItem (.ref d) key) := by with_unfolding_all rfl) : Rv prog w A h₀ L m nw (subscriptTail value slice (.ref d) key) (· = v) := fun os fx s hst => by
  have hD := kda_dict hst.N (List.mem_append_left _ hm) hd
  exact tail_any hD.typeIs slot_dict_getitem.lookup (wpAny_getItem_of (beq_iff_eq.mpr hk) hD.mapOf hv ⟨m, nw, hst.toks, rfl, rfl, rfl⟩) hs
set_option maxHeartbeats 2000000 in
theorem t_walk_step {D : Nat} {nd : Nd} {pp : Addr} {tk : Tok} (hD : 12 ≤ D) (htr : Tr prog w nw rest dk root T S G) (hrk : Rk w.params nw dk S G ra fr vs ws nr nf lrs ps) (hnd : nd ∈ T) (hpp : PathAt nw pp nd.p) (hp6 : nd.p.length < 90)
    (rec : ∀ nw' c pc t', Kp [] nw nw' → c ∈ T → c.p.length = nd.p.length + 1 → nd.p <+: c.p → PathAt nw' pc c.p → Fp prog w (KH w.params) mg mb D (.ref 457) [.ref root, .ref c.x, .ref pc, .str (kindS dk) t', .ref ra, .ref fr] nw' (VI (cnt T c.p))) :
    Fp prog w (KH w.params) mg mb (D + 1) (.ref 457) [.ref root, .ref nd.x, .ref pp, .str (kindS dk) tk, .ref ra, .ref fr] nw (VI (cnt T nd.p)) := by
  refine FnC.intro (d := D) (cx := "path") (cv := .ref pp) (binds := [("tree", .ref root), ("node", .ref nd.x), ("path", .ref pp), ("kind", .str (kindS dk) tk), ("rows", .ref ra), ("fronts", .ref fr)]) (by with_unfolding_all exact rfl) (by kernel_rfl) (fun s => BindsTo.of_eq rfl) (fun n x hx => ?_) (fun n => rfl) (fun L => rfl) rfl rfl rfl ?_
  · simp only [List.mem_cons, List.not_mem_nil, or_false] at hx
    rcases hx with rfl | rfl | rfl | rfl | rfl | rfl <;> first | exact .inl rfl | exact .inr ⟨rfl, rfl⟩
  intro r A h₀ L oC hr M hoC hfr
  obtain ⟨r5, rfl⟩ : ∃ r5, r = r5 + 5 := ⟨r - 5, by omega⟩
  have kc : Kp [] nw ((L + 1, oC) :: nw) := Kp.cons
  have hcell : (L + 1, oC) ∈ (L + 1, oC) :: nw := .head _
  have hrk1 := hrk.keep0 kc
  have hvl : vs.length = lrs.length := hrk.hlrs.1
  have hpp1 := hpp.keep0 kc
  generalize ((L + 1, oC) :: nw) = nw1 at *
  refine sx_compL (cl := [("path", L + 1)]) (a := ra) (items := vs) (n := nr) (fun i ys => LrsAt nw1 ys (here (lrs.take i) nd.p)) M rfl rfl rfl rfl rfl (by decide) rfl (by decide) rfl (ex_local rfl rfl rfl rfl) hrk1.hrows (by have := hrk.hfew; omega) LrsAt.nil ?_ ?_
  · intro i u C oK m₂ D ys hu hN hm hJ
    obtain ⟨lr, hlr, hat⟩ := hrk1.hlrs.2 i u hu
    obtain ⟨b, nb, pa, cv, rfl, hb, hpa, hc⟩ := id hat
    have k2 : Kp [] nw1 ((C, oK) :: (D, LCg.lst ys) :: nw1) := Kp.cons.trans Kp.cons
    have htk : here (lrs.take (i + 1)) nd.p = here (lrs.take i) nd.p ++ (if lr.p = nd.p then [lr] else []) := by
      unfold here
      rw [List.take_add_one, hlr, List.filter_append]
      by_cases e : lr.p = nd.p <;> simp [e]
    refine tests_one (Run.mono (tv_op (b := decide (lr.p = nd.p)) (V := (· = .ref pa)) (V' := (· = .ref pp)) (ev_item (i := 0) (ex_local2 (.head _) hN rfl rfl rfl hm) (k2.get hb) rfl (by decide)) (ex_cell rfl rfl rfl (k2.get hcell) hoC) fun a c ha hc => by
      subst ha; subst hc; exact run_eq_path (r := r5 + 2) (M.less (by omega)) (hpa.keep0 k2) (hpp1.keep0 k2) ⟨rfl, rfl, rfl⟩) fun b m'' nw'' ⟨e, e1, e2⟩ => ⟨⟨e1, e2⟩, fun hb => ?_, fun hb => ?_⟩)
    · rw [e] at hb
      have hb : lr.p = nd.p := by simpa using hb
      rw [if_pos hb] at htk
      refine ev_mono (ex_local2 (.head _) hN rfl rfl rfl hm) fun y hy => ?_
      rw [hy, htk]
      exact hJ.snoc hat
    · rw [e] at hb
      have hb : ¬ lr.p = nd.p := by simpa using hb
      rw [if_neg hb] at htk
      rw [htk]
      simpa using hJ
  intro ha ys hhere hD
  rw [hvl, List.take_length] at hhere
  have k2 : Kp [] nw1 ((ha, LCg.lst ys) :: nw1) := Kp.cons
  have hha : (ha, LCg.lst ys) ∈ (ha, LCg.lst ys) :: nw1 := .head _
  have hhere := hhere.keep0 k2
  have hrk2 := hrk1.keep0 k2
  have hpp2 := hpp1.keep0 k2
  have hcell2 := k2.get hcell
  have k0 := kc.trans k2
  clear hrk1 hpp1 hcell
  generalize ((ha, LCg.lst ys) :: nw1) = nw2 at *
  have nok := htr.ok nd hnd
  have hC := nok.ty.nc
  have kr : Kp [] rest nw2 := htr.lay.kp.trans k0
  have N := nok.node.keep0 kr
  have hpa := nok.path.keep0 kr
  obtain ⟨nd0, hnd0, _, _, _, _, hroot⟩ := htr.rootAt
  have R := hroot.keep0 kr
  have hin : nd.p ∈ ps := hrk.hall _ ((htr.sh.all _).mpr ⟨nd, hnd, rfl⟩)
  obtain ⟨its, ni, hp1, hp2⟩ := id hpp2
  have lp := hp2.length
  refine sv_if (B := (· = false)) (tv_or (or_cons (B := (· = false)) (tv_op (V := (· = .ref pp)) (V' := (· = .ref fr)) (ex_cell rfl rfl rfl hcell2 hoC) (ex_local rfl rfl rfl rfl) fun a b ha hb => by
      subst ha; subst hb; exact Run.mono (rv_notin_paths (r := r5 + 1) M hpp2 hrk2.hfr hrk2.hps) fun v m' nw' ⟨e, e1⟩ => ⟨by rw [e]; simp [hin], e1⟩) (fun h => absurd h (by decide)) fun _ =>
    or_cons (B := (· = false)) (tv_op (V := (· = .ref nd.pa)) (V' := (· = .ref pp)) (ev_at (ex_local rfl rfl rfl rfl) (nd_path M hC N)) (ex_cell rfl rfl rfl hcell2 hoC) fun a b ha hb => by
      subst ha; subst hb; exact run_ne_path (r := r5 + 2) (M.less (by omega)) hpa hpp2 ⟨by simp, rfl, rfl⟩) (fun h => absurd h (by decide)) fun _ =>
    or_cons (B := (· = false)) (tv_op (V := VI nd.p.length) (V' := VI its.length) (ev_at (ex_local rfl rfl rfl rfl) (nd_depth M (by omega) hC N hpa nok.len)) (ev_len_tuple M rfl rfl rfl rfl (ex_cell rfl rfl rfl hcell2 hoC) hp1 (by omega)) fun a b ⟨t, ha⟩ ⟨u, hb⟩ => by
      subst ha; subst hb; exact Run.mono rv_ne_int fun v m' nw' ⟨e, e1⟩ => ⟨by rw [e, lp]; simp, e1⟩) (fun h => absurd h (by decide)) fun _ =>
    or_cons (B := (· = false)) (tv_op (V := (· = .ref root)) (V' := (· = .ref root)) (ev_at (ex_local rfl rfl rfl rfl) (nd_root M hC N)) (ex_local rfl rfl rfl rfl) fun a b ha hb => by
      subst ha; subst hb; exact rv_isnot_ref) (fun h => absurd h (by decide)) fun _ =>
    or_cons (B := (· = false)) (tv_op (V := VS (kindS dk)) (V' := VS (kindS dk)) (ev_at (ex_local rfl rfl rfl rfl) (nd_type M (by omega) nok.ty N R)) (ev_mono (ex_local rfl rfl rfl rfl) fun v e => ⟨tk, e⟩) fun a b ⟨t, ha⟩ ⟨u, hb⟩ => by
      subst ha; subst hb; exact fun os fx s hs => PySem.P.ne_str ⟨_, _, hs, by simp, rfl, rfl⟩) (fun h => absurd h (by decide)) fun _ => or_nil ⟨rfl, rfl, rfl⟩)) (fun h => absurd h (by decide)) (fun _ => sx_nil ?_)
  have hfs : nd.fs.length = (here lrs nd.p).length := by
    rw [(htr.sh.errs nd hnd).length_eq, (hrk.hperm.filter _).length_eq, List.filter_map, List.length_map]
    unfold here
    congr 1
    refine List.filter_congr fun lr hlr => ?_
    show decide (lr.f.path dk = nd.p) = decide (lr.p = nd.p)
    rw [(hrk.hok lr hlr).1]
  have htr2 : Tr prog w nw2 rest dk root T S G := ⟨htr.lay.keep k0, htr.ok, htr.sh⟩
  have hel := k0.get (htr.lay.led _ (mem_tled hnd).2)
  have hrl : (refs nd.fs).length = (here lrs nd.p).length := by rw [← hfs]; simp [refs]
  have hyl : ys.length = (here lrs nd.p).length := hhere.1
  have hsm : (here lrs nd.p).length ≤ 10 := Nat.le_trans (List.length_filter_le _ _) hrk.hfew
  refine sv_if (B := (· = false)) (tv_or (or_cons (B := (· = false)) (tv_op (V := (· = .ref nd.x)) (V' := (· = .ref nd.x)) (ev_fetch M (by omega) htr2 hnd hpp2 (ex_local rfl rfl rfl rfl) (ex_cell rfl rfl rfl hcell2 hoC)) (ex_local rfl rfl rfl rfl) fun a b ha hb => by
      subst ha; subst hb; exact rv_isnot_ref) (fun h => absurd h (by decide)) fun _ =>
    or_cons (B := (· = false)) (tv_op (V := VI (refs nd.fs).length) (V' := VI ys.length) (ev_call1 (V := (· = .ref nd.x)) (ex_builtin M rfl rfl rfl rfl kb_len rfl (by decide)) (ex_local rfl rfl rfl rfl) fun v hv => by subst hv; exact nd_len (r := r5 + 4) M (by omega) hC N hel (by omega)) (ev_call1 (V := (· = .ref ha)) (ex_builtin M rfl rfl rfl rfl kb_len rfl (by decide)) (ex_local rfl rfl rfl rfl) fun v hv => by subst hv; exact rv_len_list hha (by omega)) fun a b ⟨t, ha⟩ ⟨u, hb⟩ => by
      subst ha; subst hb; exact Run.mono rv_ne_int fun v m' nw' ⟨e, e1⟩ => ⟨by rw [e, hrl, hyl]; simp, e1⟩) (fun h => absurd h (by decide)) fun _ =>
    or_cons (B := (· = false)) (tv_op (V := VI (refs nd.fs).length) (V' := VI ys.length) (ev_call1 (V := (· = .ref nd.e)) (ex_builtin M rfl rfl rfl rfl kb_len rfl (by decide)) (ev_at (ex_local rfl rfl rfl rfl) (nd_errs M hC N)) fun v hv => by subst hv; exact run_el_len M hel (by omega) fun t => ⟨⟨t, rfl⟩, rfl, rfl⟩) (ev_call1 (V := (· = .ref ha)) (ex_builtin M rfl rfl rfl rfl kb_len rfl (by decide)) (ex_local rfl rfl rfl rfl) fun v hv => by subst hv; exact rv_len_list hha (by omega)) fun a b ⟨t, ha⟩ ⟨u, hb⟩ => by
      subst ha; subst hb; exact Run.mono rv_ne_int fun v m' nw' ⟨e, e1⟩ => ⟨by rw [e, hrl, hyl]; simp, e1⟩) (fun h => absurd h (by decide)) fun _ => or_nil ⟨rfl, rfl, rfl⟩)) (fun h => absurd h (by decide)) (fun _ => sx_nil ?_)
  refine sx_compE (cl := []) (a := nd.x) (e := nd.e) (de := nd.de) (items := refs nd.fs) (n := nd.n) (fun i us => Cs us ((nd.fs.take i).map (·.code))) M rfl rfl rfl rfl rfl (by decide) rfl (by decide) rfl (ex_local rfl rfl rfl rfl) hel (by omega) (fun os fx s Q hs h => start_nd M (by omega) hC N hel hs h) .nil ?_ ?_
  · intro i u C oK m₂ D us hu hNs hm hJ
    have k3 : Kp [] nw2 ((C, oK) :: (D, LCg.lst us) :: nw2) := Kp.cons.trans Kp.cons
    obtain ⟨f, hf, rfl⟩ : ∃ f, nd.fs[i]? = some f ∧ u = .ref f.x := by
      unfold refs at hu
      rw [List.getElem?_map, Option.map_eq_some_iff] at hu
      obtain ⟨f, h1, h2⟩ := hu
      exact ⟨f, h1, h2.symm⟩
    have V := ((nok.fs f (List.mem_of_getElem? hf)).keep0 kr).keep0 k3
    refine tests_nil ⟨⟨rfl, rfl⟩, fun _ => ev_mono (ev_at (ex_local2 (.head _) hNs rfl rfl rfl hm) (ve_code M V)) fun y ⟨t, hy⟩ => ?_, fun h => absurd h (by decide)⟩
    rw [hy, List.take_add_one, hf, List.map_append]
    exact hJ.snoc t
  intro tl us htl hT
  have hlen : (refs nd.fs).length = nd.fs.length := by simp [refs]
  rw [hlen, List.take_length] at htl
  have hcodes : (nd.fs.map (·.code)).Perm ((here lrs nd.p).map (·.code)) := walk_codes htr.sh hrk hnd
  have k3 : Kp [] nw2 ((tl, LCg.lst us) :: nw2) := Kp.cons
  have hin3 : (tl, LCg.lst us) ∈ (tl, LCg.lst us) :: nw2 := .head _
  refine sx_forL ys (n := ys.length) (P := fun v m' nw' => v = .ref ha ∧ Wf m' root nd.x ra fr ha tl (.str (kindS dk) tk) ∧ nw' = (tl, LCg.lst us) :: nw2)
    (fun a i m' nw' => a = ha ∧ Wf m' root nd.x ra fr ha tl (.str (kindS dk) tk) ∧ Kp [] nw2 nw' ∧ ∃ us' n cs, (tl, listOf us'.toArray n) ∈ nw' ∧ Cs us' cs ∧ cs.Perm (((here lrs nd.p).drop i).map (·.code)))
    (fun _ _ => False) M rfl rfl rfl (Run.mono (ex_local (v := .ref ha) rfl rfl rfl rfl) fun v m' nw' ⟨e1, e2, e3⟩ => ⟨e1, by rw [e2]; exact ⟨rfl, rfl, rfl, rfl, rfl, rfl, rfl⟩, e3⟩) ?_ ?_ ?_ (fun _ _ h => h.elim) ?_
  · rintro v m' nw' ⟨rfl, W, rfl⟩
    exact ⟨ha, rfl, k3.get hha, rfl, W, k3, us, us.length, _, hin3, htl, hcodes⟩
  · rintro a i m' nw' ⟨rfl, _, k, _⟩
    exact k.get hha
  · rintro a i u m4 nw4 hu ⟨rfl, W, k4, us', n', cs, htl', hC', hperm⟩
    obtain ⟨lr, hlr, b, nb, pa, cv, rfl, hb, hpa', tcv, rfl⟩ := hhere.2 i u hu
    have hlm := List.mem_filter.mp (List.mem_of_getElem? hlr)
    have hlp : lr.p = nd.p := by simpa using hlm.2
    obtain ⟨ok1, ok2, ok3, rl, ok4⟩ := hrk2.hok lr hlm.1
    have hdrop : (here lrs nd.p).drop i = lr :: (here lrs nd.p).drop (i + 1) := by
      obtain ⟨h1, h2⟩ := List.getElem?_eq_some_iff.mp hlr
      rw [List.drop_eq_getElem_cons h1, h2]
    rw [hdrop, List.map_cons] at hperm
    have hcm : lr.code ∈ cs := hperm.mem_iff.mpr (.head _)
    have N4 := N.keep0 k4
    have R4 := R.keep0 k4
    have hel4 := k4.get hel
    have hfs4 : ∀ f ∈ nd.fs, FaOk nw4 f := fun f hf => ((nok.fs f hf).keep0 kr).keep0 k4
    obtain ⟨f', hf', hfc, hfo⟩ := firstOf_mem (fs := nd.fs) (c := lr.code) (by
      refine hcodes.mem_iff.mpr (List.mem_map.mpr ⟨lr, List.mem_of_getElem? hlr, rfl⟩))
    have W4 := W.upd (n := "row") (v := .ref b) (by decide)
    have hrow : upd m4 "row" (.ref b) "row" = some (.ref b) := rfl
    generalize upd m4 "row" (.ref b) = m5 at *
    refine sv_if (B := (· = false)) (tv_or (or_cons (B := (· = false)) (tv_op (V := (· = .int lr.code tcv)) (V' := (· = .ref tl)) (ev_item (i := 1) (ex_local rfl rfl rfl hrow) (k4.get hb) rfl (by decide)) (ex_local rfl rfl rfl W4.told) fun a b ha hb => by
        subst ha; subst hb; exact Run.mono (rv_code_notin htl' hC') fun v m' nw' ⟨e, e1⟩ => ⟨by rw [e]; simp [hcm], e1⟩) (fun h => absurd h (by decide)) fun _ =>
      or_cons (B := (· = false)) (tv_op (V := fun v => ∃ a, v = .ref a ∧ PathAt nw2 a (lr.f.path dk)) (V' := (· = .ref pp)) (ev_path_of M (by omega) nok.ty N4 R4 ok3 k4 (ex_local rfl rfl rfl W4.node) (ev_item (i := 2) (ex_local rfl rfl rfl hrow) (k4.get hb) rfl (by decide))) (ex_cell rfl rfl rfl (k4.get hcell2) hoC) fun a b ⟨a', e, h⟩ hb => by
        subst e; subst hb; exact run_ne_path (r := r5 + 2) (M.less (by omega)) (h.keep0 k4) (hpp2.keep0 k4) ⟨by rw [← ok1, hlp]; simp, rfl, rfl⟩) (fun h => absurd h (by decide)) fun _ => or_nil ⟨rfl, rfl, rfl⟩)) (fun h => absurd h (by decide)) (fun _ => sx_nil ?_)
    refine sx_expr (P := fun v m' nw' => v = .none ∧ Wf m' root nd.x ra fr a tl (.str (kindS dk) tk) ∧ m' "row" = some (.ref b) ∧ Kp [] nw2 nw' ∧ ∃ us' n cs, (tl, listOf us'.toArray n) ∈ nw' ∧ Cs us' cs ∧ cs.Perm (((here lrs nd.p).drop (i + 1)).map (·.code)))
      (ev_methK (ex_local rfl rfl rfl W4.told) (list_remove_method htl' ⟨rfl, rfl, rfl⟩) (cw_builtin (arg1 (V := (· = .int lr.code tcv)) (ev_item (i := 1) (ex_local rfl rfl rfl hrow) (k4.get hb) rfl (by decide))) fun vs m' nw' ⟨v, e1, e2, e3, e4⟩ => by
        subst e1; subst e2; subst e3; subst e4
        have hz : us'.length < 1000 := by
          have := hC'.length
          have h2 := hperm.length_eq
          simp only [List.length_cons, List.length_map, List.length_drop] at h2
          omega
        exact run_code_remove htl' hC' hcm hz fun q hq => ⟨rfl, W4, hrow, kp_setL k4 hT, q, n' + 1, cs.erase lr.code, mem_setL_self htl', hq, by
          have := hperm.erase lr.code
          rw [List.erase_cons_head] at this
          exact this⟩)) ?_
    rintro v m6 nw6 ⟨rfl, W6, hrow6, k6, us6, n6, cs6, htl6, hC6, hperm6⟩
    refine ⟨rfl, ?_⟩
    refine sv_if (B := (· = false)) (tv_op (V := VI lr.code) (V' := (· = .int lr.code tcv)) (ev_at (o := .ref f'.x) (ev_sub (V := (· = .ref nd.x)) (V' := (· = .ref lr.d)) (ex_local rfl rfl rfl W6.node) (ev_item (i := 3) (ex_local rfl rfl rfl hrow6) (k6.get hb) rfl (by decide)) fun o i' ho hi' => by
        subst ho; subst hi'; exact Run.mono (nd_item_def (r := r5 + 4) M (by omega) nok.ty.nc (N.keep0 k6) (k6.get hel) (fun f hf => ((nok.fs f hf).keep0 kr).keep0 k6) ok4) fun v m' nw' ⟨e, e1⟩ => ⟨by rw [e, hfo], e1⟩) (Run.mono (ve_code M (((nok.fs f' hf').keep0 kr).keep0 k6)) fun v m' nw' ⟨e, e1⟩ => ⟨by rw [← hfc]; exact e, e1⟩)) (ev_item (i := 1) (ex_local rfl rfl rfl hrow6) (k6.get hb) rfl (by decide)) fun a b ⟨t, ha⟩ hb => by
      subst ha; subst hb; exact Run.mono rv_ne_int fun v m' nw' ⟨e, e1⟩ => ⟨by rw [e]; simp, e1⟩) (fun h => absurd h (by decide)) (fun _ => sx_nil (sx_nil ⟨rfl, W6, k6, us6, n6, cs6, htl6, hC6, hperm6⟩))
  rintro a m4 nw4 ⟨rfl, W, k4, _⟩
  have hhere4 := hhere.keep0 k4
  have hha4 := k4.get hha
  have N4 := N.keep0 k4
  have hel4 := k4.get hel
  have hfs4 : ∀ f ∈ nd.fs, FaOk nw4 f := fun f hf => ((nok.fs f hf).keep0 kr).keep0 k4
  have hcell4 := k4.get hcell2
  have hpp4 := hpp2.keep0 k4
  refine sv_if (B := (· = false)) (tv_and (and_cons (B := fun b => b = !(firstOf nd.fs 38 == .none)) (tv_op (V := (· = firstOf nd.fs 38)) (V' := (· = .none)) (ev_sub (V := (· = .ref nd.x)) (V' := (· = .ref 89)) (ex_local rfl rfl rfl W.node) (ex_global M rfl rfl rfl kg_ITEMS_LENGTH) fun o i ho hi => by
      subst ho; subst hi; exact nd_item_def (r := r5 + 4) (rl := some "items") M (by omega) nok.ty.nc N4 hel4 hfs4 (rows_def (89, 38, some "items") (by decide))) ex_none fun a b ha hb => by
      subst hb; rw [ha]; exact rv_isnot_none (firstOf_kind nd.fs 38)) (fun _ => ⟨rfl, rfl, rfl⟩) fun hb =>
    and_cons (B := (· = false)) (tk_cmp (V := fun v _ => ∃ t, v = .int (38 : Nat) t) (V' := fun v v' nw' => ∃ t D us, v = .int (38 : Nat) t ∧ v' = .ref D ∧ (D, LCg.lst us) ∈ nw' ∧ Cs us ((here lrs nd.p).map (·.code))) (Ev.kt ex_int) ?_ ?_) (fun _ => ⟨rfl, rfl, rfl⟩) fun h => absurd h (by decide))) (fun h => absurd h (by decide)) (fun _ => sx_nil ?_)
  · rintro v nw' k ⟨t, hv⟩
    refine ex_compL (cl := []) (a := a) (items := ys) (n := ys.length) (fun i us => Cs us (((here lrs nd.p).take i).map (·.code))) M rfl (by decide) rfl (by decide) rfl (ex_local rfl rfl rfl W.here) (k.get hha4) (by omega) .nil ?_ ?_
    · intro i u C oK m₂ D us hu hNs hm hJ
      obtain ⟨lr, hlr, b, nb, pa, cv, rfl, hb, hpa', tcv, rfl⟩ := hhere4.2 i u hu
      refine tests_nil ⟨⟨rfl, rfl⟩, fun _ => ev_mono (ev_item (i := 1) (ex_local2 (.head _) hNs rfl rfl rfl hm) (.tail _ (.tail _ (k.get hb))) rfl (by decide)) fun y hy => ?_, fun h => absurd h (by decide)⟩
      rw [hy, List.take_add_one, hlr, List.map_append]
      exact hJ.snoc tcv
    · intro D us hJ hD
      rw [hhere4.1, List.take_length] at hJ
      exact ⟨rfl, Kp.cons, t, D, us, hv, rfl, .head _, hJ⟩
  · rintro v v' nw' k ⟨t, D, us, e1, e2, h1, h2⟩
    subst e1; subst e2
    refine Run.mono (rv_code_notin h1 h2) fun c m' nw2 ⟨e, e1, e2⟩ => ⟨e1, by rw [e2]; exact Kp.refl, _, e, ?_⟩
    have : 38 ∈ (here lrs nd.p).map (·.code) := hcodes.mem_iff.mp (firstOf_some (by simpa using hb.symm))
    simp [this]
  refine sv_assign rfl rfl rfl (V := VI 1) ex_int fun v ⟨t, hv⟩ => ?_
  subst hv
  have W5 := W.upd (n := "count") (v := .int 1 t) (by decide)
  have hcount : upd m4 "count" (.int 1 t) "count" = some (.int 1 t) := rfl
  generalize upd m4 "count" (.int 1 t) = m5 at *
  obtain ⟨_, _, _, _, _, _, hnd5⟩ := id nok.od
  have hod := k0.get (htr.lay.led _ (mem_tled hnd).1)
  refine sx_forD (d := nd.d) (o := nd.od) (kvs := nd.kvs) (fun i m' nw' => Wf m' root nd.x ra fr a tl (.str (kindS dk) tk) ∧ Kp [] nw2 nw' ∧ ∃ t, m' "count" = some (.int ((1 + ((nd.kvs.take i).map fun kv => cnt T (nd.p ++ [kv.1])).sum : Nat) : Int) t)) (fun _ _ => False) M rfl rfl rfl
    (ev_at (ex_local rfl rfl rfl W5.node) (nd_desc M nok.ty.nc N4)) nok.sys nok.od (k4.get hod) ⟨W5, k4, t, hcount⟩ (fun i m' nw' ⟨_, k, _⟩ => k.get hod) ?_ (fun _ _ h => h.elim) ?_
  · rintro i u k v m6 nw6 hkv hku ⟨W6, k6, t6, hc6⟩
    have hval := PySem.valueAt_of_get hnd5 hkv
    obtain ⟨c, hcT, hcp, rfl⟩ := (htr.sh.kids nd hnd k v).mp hval
    obtain ⟨_, pn, hpn, hpp', hpar⟩ := htr.sh.pars c hcT nd.p k hcp
    have epn : pn = nd := uniq_p htr.sh.nodup pn hpn nd hnd hpp'
    subst epn
    have cok := htr.ok c hcT
    have W7 := (W6.upd (n := "key") (v := u) (by decide)).upd (n := "below") (v := .ref c.x) (by decide)
    have hc7 : upd (upd m6 "key" u) "below" (.ref c.x) "count" = some (.int ((1 + ((pn.kvs.take i).map fun kv => cnt T (pn.p ++ [kv.1])).sum : Nat) : Int) t6) := hc6
    have hb7 : upd (upd m6 "key" u) "below" (.ref c.x) "below" = some (.ref c.x) := rfl
    have hk7 : upd (upd m6 "key" u) "below" (.ref c.x) "key" = some u := rfl
    have W6' := W6.upd (n := "key") (v := u) (by decide)
    refine sv_assign rfl rfl rfl (V := (· = .ref c.x)) (ev_sub (V := (· = .ref pn.d)) (V' := (· = u)) (ev_at (ex_local rfl rfl rfl W6'.node) (nd_desc M nok.ty.nc (N.keep0 k6))) (ex_local rfl rfl rfl rfl) fun o i' ho hi => by
      subst ho; subst hi; exact rv_dict_itemA (k6.get hod) nok.od hku hval) fun v hv => ?_
    subst hv
    generalize upd (upd m6 "key" u) "below" (.ref c.x) = m7 at *
    have cN := (cok.node.keep0 kr).keep0 k6
    rw [hpar] at cN
    refine sv_if (B := (· = false)) (tv_op (V := (· = .ref pn.x)) (V' := (· = .ref pn.x)) (ev_at (ex_local rfl rfl rfl hb7) (nd_par M cok.ty.nc cN rfl)) (ex_local rfl rfl rfl W7.node) fun a b ha hb => by
      subst ha; subst hb; exact rv_isnot_ref) (fun h => absurd h (by decide)) (fun _ => sx_nil ?_)
    have hlen6 : c.p.length = pn.p.length + 1 := by rw [hcp]; simp
    refine sv_assign rfl rfl rfl (V := VI (cnt T c.p)) (Run.drop (P := fun v m' nw' => VI (cnt T c.p) v ∧ m' = m7 ∧ Kp [] nw6 nw') (ex_callK (P := fun vs m' nw' => m' = m7 ∧ Kp [] nw6 nw' ∧ ∃ pc, vs = [.ref root, .ref c.x, .ref pc, .str (kindS dk) tk, .ref ra, .ref fr] ∧ PathAt nw' pc c.p) M (ex_global M rfl rfl rfl kg_law_walk) kk_law_walk
      (args_ev (V := (· = .ref root)) (ex_local rfl rfl rfl W7.tree) fun v1 e1 => args_ev (V := (· = .ref c.x)) (ex_local rfl rfl rfl hb7) fun v2 e2 => args_kt (V := fun v nw' => ∃ pc, v = .ref pc ∧ PathAt nw' pc c.p) ?_ fun v3 nw' k' ⟨pc, e3, hpc⟩ =>
        args_ev (V := (· = .str (kindS dk) tk)) (ex_local rfl rfl rfl W7.kind) fun v4 e4 => args_ev (V := (· = .ref ra)) (ex_local rfl rfl rfl W7.rows) fun v5 e5 => args_ev (V := (· = .ref fr)) (ex_local rfl rfl rfl W7.fronts) fun v6 e6 => args_nil ⟨rfl, k', pc, by rw [e1, e2, e3, e4, e5, e6], hpc⟩)
      (fun vs m' nw' ⟨e1, k', pc, e2, hpc⟩ => by
        subst e2; rw [e1]
        exact Run.mono (run_fp M (rec nw' c pc tk (k0.trans (k6.trans k')) hcT hlen6 (by rw [hcp]; exact List.prefix_append _ _) hpc) hr) fun v m'' nw'' ⟨h, e1', e2⟩ => ⟨h, e1', by rw [e2]; exact k'⟩)) fun _ _ _ h => h) ?_
    · refine ex_binop (P := Is (· = .ref pp) m7 nw6) (P2 := fun a' b m' nw' => a' = .ref pp ∧ m' = m7 ∧ Kp [] nw6 nw' ∧ ∃ pk, b = .ref pk ∧ PathAt nw' pk [k]) (ex_cell rfl rfl rfl (k6.get hcell2) hoC) (fun a' m' nw' ⟨e1, e2, e3⟩ => ?_) (fun a' b m' nw' ⟨e1, e2, k', pk, e3, hpk⟩ => ?_)
      · subst e1; rw [e2, e3]
        exact ex_tuple (P := fun vs m' nw' => vs = [u] ∧ m' = m7 ∧ nw' = nw6) (args_ev (V := (· = u)) (ex_local rfl rfl rfl hk7) fun v e => args_nil ⟨by rw [e], rfl, rfl⟩) (fun vs m' nw' ⟨e, _⟩ => by subst e; exact (show 1 < 1000 by decide)) fun vs m' nw' x ⟨e, e1, e2⟩ => by subst e; rw [e2]; exact ⟨rfl, e1, Kp.cons, x, rfl, [u], 0, .head _, KVs.key hku⟩
      · subst e1; subst e3; rw [e2]
        exact run_cat ((hpp2.keep0 k6).keep0 k') hpk (by simp; omega) fun cc nw' k'' h => ⟨rfl, k'.trans k'', cc, rfl, by rw [hcp]; exact h⟩
    rintro v ⟨t7, rfl⟩
    have W8 := W7.upd (n := "more") (v := .int (cnt T c.p : Nat) t7) (by decide)
    have hc8 : upd m7 "more" (.int (cnt T c.p : Nat) t7) "count" = some (.int ((1 + ((pn.kvs.take i).map fun kv => cnt T (pn.p ++ [kv.1])).sum : Nat) : Int) t6) := hc7
    have hm8 : upd m7 "more" (.int (cnt T c.p : Nat) t7) "more" = some (.int (cnt T c.p : Nat) t7) := rfl
    generalize upd m7 "more" (.int (cnt T c.p : Nat) t7) = m8 at *
    refine sv_if (B := (· = false)) (tv_op (V := (· = .int (cnt T c.p : Nat) t7)) (V' := VI 0) (ex_local rfl rfl rfl hm8) ex_int fun a b ha ⟨t, hb⟩ => by
      subst ha; subst hb; exact Run.mono rv_lt fun v m' nw' ⟨e, e1⟩ => ⟨by rw [e, decide_eq_false (by omega)], e1⟩) (fun h => absurd h (by decide)) (fun _ => sx_nil ?_)
    refine sx_aug (P := Is (· = .int (cnt T c.p : Nat) t7) m8 nw6) rfl rfl rfl hc8 (ex_local rfl rfl rfl hm8) fun v m' nw' ⟨e1, e2, e3⟩ => ?_
    subst e1; rw [e2, e3]
    refine Run.mono rv_iadd fun v m' nw' ⟨⟨t9, e1⟩, e2, e3⟩ => ?_
    subst e1; rw [e2, e3]
    refine sx_nil ⟨W8.upd (by decide), k6, t9, ?_⟩
    show some (Value.int _ t9) = _
    rw [List.take_add_one, hkv, List.map_append, List.sum_append]
    simp only [Option.toList_some, List.map_cons, List.map_nil, List.sum_cons, List.sum_nil, ← hcp]
    congr 2
    push_cast
    omega
  · rintro m6 nw6 ⟨W6, k6, t6, hc6⟩
    rw [List.take_length, ← cnt_node htr.sh hnd hnd5] at hc6
    exact sv_ret (ex_local rfl rfl rfl hc6) fun v hv => ⟨⟨t6, hv⟩, k0.trans k6⟩
end
end Mine

-- WK5
open PySem PySem.W PySem.Calls PyProof.Rows
set_option maxRecDepth 100000
set_option linter.unusedVariables false
namespace Mine
section
variable {prog : Program} {w : World} {nw rest : Led} {mg mb : Loc} {dk : Bool} {root : Addr} {T : List Nd} {S : List Key → Prop} {G : List Fa} {ra fr : Addr} {vs ws : List Value} {nr nf : Nat} {lrs : List Lr} {ps : List (List Key)}
theorem t_walk (h5 : ∀ nd ∈ T, nd.p.length ≤ 5) : ∀ (k : Nat) (nw : Led) (nd : Nd) (pp : Addr) (tk : Tok), 6 - nd.p.length = k → Tr prog w nw rest dk root T S G → Rk w.params nw dk S G ra fr vs ws nr nf lrs ps → nd ∈ T → PathAt nw pp nd.p →
    Fp prog w (KH w.params) mg mb (13 + k) (.ref 457) [.ref root, .ref nd.x, .ref pp, .str (kindS dk) tk, .ref ra, .ref fr] nw (VI (cnt T nd.p))
  | 0, nw, nd, pp, tk, hk, htr, hrk, hnd, hpp => absurd (h5 nd hnd) (by omega)
  | k + 1, nw, nd, pp, tk, hk, htr, hrk, hnd, hpp => by
    have h := h5 nd hnd
    exact t_walk_step (D := 13 + k) (by omega) htr hrk hnd hpp (by omega) fun nw' c pc t' kk hc hl hpre hpc => t_walk h5 k nw' c pc t' (by omega) (htr.keep kk) (hrk.keep0 kk) hc hpc
/-- the walk from the root -/
theorem t_walk_root (h5 : ∀ nd ∈ T, nd.p.length ≤ 5) {pp : Addr} {tk : Tok} (htr : Tr prog w nw rest dk root T S G) (hrk : Rk w.params nw dk S G ra fr vs ws nr nf lrs ps) (hpp : PathAt nw pp []) (hps : ps.Nodup) (hin : ∀ p ∈ ps, S p) :
    Fp prog w (KH w.params) mg mb 19 (.ref 457) [.ref root, .ref root, .ref pp, .str (kindS dk) tk, .ref ra, .ref fr] nw (VI ps.length) := by
  obtain ⟨nd, hnd, hp, hx, _⟩ := htr.sh.rootIn
  have h := t_walk (mg := mg) (mb := mb) h5 6 nw nd pp tk (by rw [hp]; rfl) htr hrk hnd (by rw [hp]; exact hpp)
  rw [hx, hp, cnt_root htr.sh, ← fronts_count htr.sh.nodup hps fun p => ⟨fun h => (htr.sh.all p).mp (hin p h), fun h => hrk.hall p ((htr.sh.all p).mpr h)⟩] at h
  exact h
end
end Mine

-- HO1
open PySem PySem.W PySem.Calls PyProof.Rows
set_option maxRecDepth 100000
set_option linter.unusedVariables false
namespace Mine
/-- what walks an own list -/
theorem walks_el {prog : Program} {w : World} {A : Around} (hh : A.handled = none) (I e : Addr) (hne : e ≠ I) (items : Array Value) (n : Nat) :
    Walks prog w A I [I, e] [I] items.size (fun i v => items[i]? = some v) (fun i h => h.IsListIter I e i ∧ ∃ ol, h.get? e = some ol ∧ ol.data = .seq items n) where
  sub := fun b hb => by simp at hb; simp [hb]
  frame := fun _ _ _ st hk => ⟨let ⟨o, h1, h2⟩ := st.1; ⟨o, hk I (by simp) o h1, h2⟩, let ⟨ol, h1, h2⟩ := st.2; ⟨ol, hk e (by simp) ol h1, h2⟩⟩
  item := fun i s Q E hi st hQ => by
    obtain ⟨hit, ol, h1, h2⟩ := st
    refine wpAny_mono (next_item (Q := Q) hit h1 h2 (x := items[i]) (by simp [hi]) fun h' hit' hs' => ?_) (fun _ _ x => x) fun _ _ x => x.elim
    exact hQ _ h' s.toks (by simp [hi]) ⟨hit', ol, hs'.extBut _ _ hne h1, h2⟩ fun b o hb e => hs'.extBut b o (fun h => hb (by simp [h])) e
  done := fun s Q E st hQ => by
    obtain ⟨hit, ol, h1, h2⟩ := st
    exact wpAny_mono (next_end (Q := Q) hh hit h1 h2 (by simp) fun h' he' => hQ h' s.toks fun b o hb e => he' b o (fun h => hb (by simp [h])) e) (fun _ _ x => x) fun _ _ x => x.elim
  self := fun _ _ _ _ st hQ => wpAny_pyIter_listiter st.1 hQ
section
variable {prog : Program} {w : World} {A : Around} {h₀ : Heap} {L : Addr} {m : Loc} {nw rest : Led} {mg mb : Loc} {r : Nat} {env : Env} {K : Frag}
/-- one entry grown, what is new beside -/
theorem St.extset {os fx s d o o' h' tk} (hs : St h₀ L os m nw fx s) (hm : (d, o) ∈ nw) (he : Heap.ExtBut d s.heap h') (ho : h'.get? d = some o') : St h₀ L os m (setL nw d o') fx { s with heap := h', toks := tk } := by
  have z := hs.N _ (List.mem_append_left _ hm)
  have hn := hs.D
  rw [List.map_append] at hn
  obtain ⟨n1, n2, n3⟩ := List.nodup_append.mp hn
  have key : ∀ p ∈ setL nw d o' ++ fx, p = (d, o') ∨ (p ∈ nw ++ fx ∧ p.1 ≠ d) := by
    intro p hp
    by_cases e : p.1 = d
    · left
      rcases List.mem_append.mp hp with h | h
      · have hu := mem_uniq (by rw [setL_keys]; exact n1) (mem_setL_self (o' := o') hm) (show (d, p.2) ∈ setL nw d o' from e ▸ h)
        rw [hu]
        exact (by rw [← e])
      · exact absurd e.symm (n3 _ (List.mem_map_of_mem (f := (·.1)) hm) _ (List.mem_map_of_mem (f := (·.1)) h))
    · right
      refine ⟨?_, e⟩
      rcases List.mem_append.mp hp with h | h
      · have : ∀ {l : Led}, p ∈ setL l d o' → p.1 ≠ d → p ∈ l := by
          intro l
          induction l with
          | nil => intro h; cases h
          | cons q r ih =>
            obtain ⟨a, x⟩ := q
            intro h hne
            unfold setL at h
            split at h
            · rename_i hh
              rcases List.mem_cons.mp h with h | h
              · exact absurd (by rw [h]) hne
              · exact .tail _ h
            · rcases List.mem_cons.mp h with h | h
              · rw [h]; exact .head _
              · exact .tail _ (ih h hne)
        exact List.mem_append_left _ (this h e)
      · exact List.mem_append_right _ h
  refine ⟨⟨hs.F.ns.extBut he z.2.1.symm, fun b x q => he b x (fun e => by rw [e, z.2.2] at q; cases q) (hs.F.keep b x q), hs.F.above⟩, fun p hp => ?_, ?_, hs.os, hs.bare⟩
  · rcases key p hp with rfl | ⟨h, hne⟩
    · exact ⟨ho, z.2⟩
    · exact ⟨he _ _ hne (hs.N p h).1, (hs.N p h).2⟩
  · rw [List.map_append, setL_keys, ← List.map_append]; exact hs.D
theorem setL_other {p : Addr × Obj} {d : Addr} {o' : Obj} : ∀ {l : Led}, p ∈ setL l d o' → p.1 ≠ d → p ∈ l
  | [], h, _ => by cases h
  | (a, x) :: r, h, hne => by
    unfold setL at h
    split at h
    · rcases List.mem_cons.mp h with h | h
      · exact absurd (by rw [h]) hne
      · exact .tail _ h
    · rcases List.mem_cons.mp h with h | h
      · rw [h]; exact .head _
      · exact .tail _ (setL_other h hne)
theorem genCode_T {M : Model} {A : Around} {E : Value → Shared → Prop} {s : Shared} {env : Env} {c P : Addr} {ps : Array Value} {pos : Pos} {qualname : Str} {scope : Scope} {Q : Value → Shared → Prop} (hc : env.code = .ref c) (hok : s.heap.IsCode c P ps) (htab : s.heap.TableAt c P ps)
    (hQ : ∀ code h' tk ps', Heap.ExtBut P s.heap h' → h'.IsCode c P ps' → h'.TableAt c P ps' → Q code { s with heap := h', toks := tk }) : wpAny M A (genexprCode env pos qualname scope) Q E s := by
  cases hnf : codeAmong pos ps.toList with
  | none => exact wpAny_genexprCodeX hc hok htab hnf fun c' h' tk hx _ _ hI _ hT _ => hQ _ h' tk _ hx hI hT
  | some cv => exact wpAny_genexprCode_hit hc hok hnf (hQ cv s.heap s.toks ps (Heap.ExtBut.refl _ _) hok htab)
/-- any(x.code == wanted for x in an own list) -/
theorem ex_any_el {e de c P cw : Addr} {fs : List Fa} {n : Nat} {op oC : Obj} {ps : Array Value} {k : Nat} {t : Tok} {iter : Expr} {x wn : Str} {px p1 p2 p3 p4 pos gpos p : Pos} {scope : Scope} {cl : List (Str × Addr)} {Q : Value → Loc → Led → Prop}
    (M : Fm (KH w.params) mg mb r A h₀ L) (hlL : env.locals = L) (hg : env.globals = mainGlobals) (hb : env.builtins = builtinsNs) (hk : env.scope.kind = .function) (hn : env.kindOf "any" = some .globalImplicit)
    (hiter : Ev prog w A h₀ L env m nw iter (· = .ref e)) (he : (e, elObj de (refs fs) n) ∈ nw) (hfs : ∀ f ∈ fs, FaOk nw f)
    (hcode : env.code = .ref c) (hP : (P, op) ∈ nw) (hIs : ∀ os fx s, St h₀ L os m nw fx s → s.heap.IsCode c P ps) (hTb : ∀ os fx s, St h₀ L os m nw fx s → s.heap.TableAt c P ps)
    (hcw : (cw, oC) ∈ nw) (hoC : oC.data = .cell (some (.int k t))) (hcl : cl.lookup wn = some cw)
    (hco : scope.isCoroutine = false) (hclos : closureFor scope env = pure cl) (hcell : ∀ y ∈ scope.names, y.2 ≠ .cell) (h0 : scope.names.lookup (".0" : Str) = some NameKind.local)
    (hx : scope.names.lookup x = some .local) (hwn : scope.names.lookup wn = some .free) (hkind : scope.kind = .function)
    (k1 : ∀ (op' : Obj) (ps' : Array Value), op'.data = .fields ps' → TriplesOk ps'.toList ∧ op' = tabObj ps' → Q (.bool (fs.any fun f => f.code == k)) m (setL nw P op'))
    (hdx : (x == ("__debug__" : Str)) = false := by decide) (hdw : (wn == ("__debug__" : Str)) = false := by decide) (hcd : (wn == ("__classdict__" : Str)) = false := by decide)
    (hs : ∀ x, genFold iter env x = pure x := by intro _; rfl)
    (hev : eval (.Call (.Name "any" p) [.GeneratorExp (.Compare (.Attribute (.Name x p1) "code" p2) [.Eq] [.Name wn p3] p4) [⟨.Name x px, iter, [], 0⟩] scope gpos] [] pos) env = (do callWith pos (← eval (.Name "any" p) env) [] (backTo pos (starEach [.GeneratorExp (.Compare (.Attribute (.Name x p1) "code" p2) [.Eq] [.Name wn p3] p4) [⟨.Name x px, iter, [], 0⟩] scope gpos] env)) (backToKw pos (keywordEach [] env))) := by rfl)
    (hse : starEach [.GeneratorExp (.Compare (.Attribute (.Name x p1) "code" p2) [.Eq] [.Name wn p3] p4) [⟨.Name x px, iter, [], 0⟩] scope gpos] env = [(false, eval (.GeneratorExp (.Compare (.Attribute (.Name x p1) "code" p2) [.Eq] [.Name wn p3] p4) [⟨.Name x px, iter, [], 0⟩] scope gpos) env)] := by rfl) :
    Ex prog w A h₀ L env m nw (.Call (.Name "any" p) [.GeneratorExp (.Compare (.Attribute (.Name x p1) "code" p2) [.Eq] [.Name wn p3] p4) [⟨.Name x px, iter, [], 0⟩] scope gpos] [] pos) Q := by
  intro os fx s hst
  refine Call_ (wpAny_mono ((ex_builtin (m := m) (nw := nw) M hg hb hk hn kb_any rfl (by decide) (by decide)) os fx s hst) (fun fv s1 h1 => ?_) fun _ _ x => x) hev
  obtain ⟨m1, nw1, hst1, hfv, hm1, hn1⟩ := h1
  subst hfv; subst hm1; subst hn1
  rw [hse]
  refine callWith_builtin rfl (evalArgs_plain ?_)
  refine spliced_cons ?_
  refine wpAny_GeneratorExp_walksQD M.hnd hco hclos hcell h0 hx hkind (by have := M.room; omega) (wpAny_mono (hiter os fx s1 hst1) (fun xv s2 h2 => ?_) fun _ _ x => x) hs
  obtain ⟨m2, nw2, hst2, hxv, hm2, hn2⟩ := h2
  subst hxv; subst hm2; subst hn2
  refine wpAny_mono (start_el M he hst2 (Q := fun it s3 => ∃ I o, it = .ref I ∧ (o.cls = .type "list_iterator" ∧ o.data = .fields #[.ref e, .int ((0 : Nat) : Int) 0]) ∧ St h₀ L os m2 nw2 ((I, o) :: fx) s3) fun I o s' hi hs' => ⟨I, o, rfl, hi, hs'⟩) (fun it s3 h3 => ?_) fun _ _ x => x
  obtain ⟨I, o, rfl, hio, hst3⟩ := h3
  have hlim3 : s3.heap.NoLimit := M.gr.nolimit.keeps hst3.F.keep
  refine ⟨hlim3, genCode_T hcode (hIs os _ s3 hst3) (hTb os _ s3 hst3) fun code h4 tk ps' hx4 hc4 ht4 => ?_⟩
  obtain ⟨o1, vs1, file, tf, flags, tg, inF, text, tt, op', ho1, hd1, _, _, _, _, _, hop', hpd', htr', hne'⟩ := id hc4
  have hoT : op' = tabObj ps' := Option.some.inj (hop'.symm.trans ht4.2)
  have hst4 : St h₀ L os m2 (setL nw2 P op') ((I, o) :: fx) { s3 with heap := h4, toks := tk } := hst3.extset hP hx4 hop'
  obtain ⟨bm, ob, BM⟩ := M.gr.bmod
  have BM4 := BM.keeps hst4.F.keep
  refine wpAny_builtinsFor (globals := env.globals) (by rw [hg]; exact BM4.ns) BM4.name BM4.ne BM4.obj BM4.cls BM4.dict BM4.data ?_
  have hI := hst4.fixed (.head _)
  have hIs4 : h4.get? I = some o := hI.1
  have key : ∀ q ∈ nw2, q.1 ≠ P → h4.get? q.1 = some q.2 := fun q hq hne => hst4.get (mem_setL_ne hq hne)
  have apartI : ∀ q ∈ nw2, q.1 ≠ I := fun q hq => hst3.apart hq (.head _)
  have heP : e ≠ P := fun q => by
    have h1 := hst3.get he
    have h2 := hst3.get hP
    rw [q] at h1
    rw [h1] at h2
    obtain ⟨_, _, _, _, _, _, _, _, _, op2, _, _, _, _, _, _, _, hop2, hpd2, _⟩ := hIs os _ s3 hst3
    rw [h1] at hop2
    cases hop2
    cases hpd2
  have heI : e ≠ I := apartI _ he
  have hcs : cStatics ≠ I := fun q => by
    obtain ⟨mc, ⟨oc, es, ep, h1, _⟩, _⟩ := M.gr.nolimit
    have := hI.2.2
    show False
    rw [← q] at this
    have h2 : h₀.get? cStatics = none := this
    rw [h1] at h2
    cases h2
  have hlim4 : h4.NoLimit := M.gr.nolimit.keeps hst4.F.keep
  have hlt4 : ∀ {b : Addr} {x : Obj}, h4.get? b = some x → b < h4.objs.size := fun h => Heap.lt_size h
  refine ⟨I, [I, e], [I], (refs fs).toArray.size, _, _, fun _ => true, fun i y => ∃ f, fs[i]? = some f ∧ y = .bool (f.code == k), rfl, (fun A' hA => walks_el hA I e heI (refs fs).toArray n), ⟨⟨o, hIs4, hio.1, hio.2⟩, _, key _ he heP, rfl⟩, ?_, hlim4, ?_, ?_, ?_⟩
  · intro b hb
    rcases List.mem_cons.mp hb with rfl | hb
    · exact hlt4 hIs4
    · rcases List.mem_cons.mp hb with rfl | hb
      · exact hlt4 (key _ he heP)
      · cases hb
  · intro hm
    rcases List.mem_cons.mp hm with h | h
    · exact hcs h
    · cases h
  · intro href hhref
    refine ⟨fun A' E' i v s₂ m₂ hA hD hU hPv hn hm hkp => wpAny_tests_nil ⟨rfl, _, _, rfl, fun _ _ e => e⟩, fun A' E' i v s₂ m₂ hA hD hU hPv _ hn hm hkp => ?_⟩
    have old : ∀ b o, b ≠ I → h4.get? b = some o → s₂.heap.get? b = some o := fun b o hbI hb => hkp b (List.mem_range.mpr (hlt4 hb)) (fun hm => by
      rcases List.mem_cons.mp hm with h | h
      · exact hbI h
      · cases h) o (hhref b o hb)
    have hF : Fr h₀ h4.objs.size s₂.heap m₂ := ⟨hn, fun b o hb => old b o (fun q => by rw [q] at hb; have := hI.2.2; have h2 : h₀.get? I = none := this; rw [h2] at hb; cases hb) (hst4.F.keep b o hb), Nat.le_of_lt (Nat.lt_of_le_of_lt hst4.F.above hst4.F.ns.lt)⟩
    obtain ⟨f, hf, rfl⟩ : ∃ f, fs[i]? = some f ∧ v = .ref f.x := by
      have hPv : (refs fs).toArray[i]? = some v := hPv
      rw [List.getElem?_toArray] at hPv
      unfold refs at hPv
      rw [List.getElem?_map, Option.map_eq_some_iff] at hPv
      obtain ⟨f, h1, h2⟩ := hPv
      exact ⟨f, h1, h2.symm⟩
    obtain ⟨dx, es, ns, dp, sp, t', a1, a2, _, _, a9, _⟩ := hfs f (List.mem_of_getElem? hf)
    have nP : ∀ {b : Addr} {x : Obj}, (b, x) ∈ nw2 → (∀ vs, x.data ≠ .fields vs) → b ≠ P := fun {b x} hb hd q => by
      obtain ⟨_, _, _, _, _, _, _, _, _, op2, _, _, _, _, _, _, _, hop2, hpd2, _⟩ := hIs os _ s3 hst3
      have h1 := hst3.get hb
      rw [q, hop2] at h1
      cases h1
      exact hd _ hpd2
    have g1 := old _ _ (apartI _ a1) (key _ a1 (nP a1 fun vs q => by cases q))
    have g2 := old _ _ (apartI _ a2) (key _ a2 (nP a2 fun vs q => by cases q))
    have gc := old _ _ (apartI _ hcw) (key _ hcw (nP hcw fun vs q => by rw [hoC] at q; cases q))
    refine wpAny_Compare1 (Attribute_any_ (wpAny_Name (wpAny_loadName_local hkind hx hn hm ?_) hdx) (by with_unfolding_all rfl))
    obtain ⟨attr, b1, b2⟩ := (kf_own_code (P := w.params)).a
    refine get_own hF M.gr.X ⟨g1, rfl, rfl, g2⟩ (kf_own_code (P := w.params)).g (kf_own_code (P := w.params)).d b1 b2 a9 rfl ?_
    refine wpAny_Name (wpAny_loadName_free (c := cw) hkind hwn hcl ⟨_, gc, hoC⟩ ?_ hcd) hdw
    refine PyProof.Rows.eq_int ⟨⟨f, hf, ?_⟩, _, _, rfl, fun _ _ e => e⟩
    congr 1
    by_cases h : f.code = k
    · rw [h]; simp
    · have h2 : (f.code == k) = false := by simpa using h
      rw [h2]
      exact beq_eq_false_iff_ne.mpr (by omega)
  · intro a h5 tk5 gs hgb hag hsz5 hk5 W hat
    have hlen : (passing (fun _ => true) (refs fs).toArray.size 0) = List.range (refs fs).toArray.size := by simp [passing]
    rw [hlen, List.length_range] at W
    refine spliced_nil ?_
    have W := W.in4_1
    refine call_any_walkS (W.self 0 _ _ _ hat ⟨a, _, _, _, _, _, _, fun j => (fs[j]?.map fun f => f.code == k).getD false, rfl, W, hat, ?_, fun s' hm => ?_⟩)
    · rintro j v s Q' E' ⟨i, hi, f, hf, rfl⟩ hQ
      have : i = j := by
        have h1 := List.getElem?_eq_some_iff.mp hi
        obtain ⟨h2, h3⟩ := h1
        simpa using h3.symm
      subst this
      refine wpAny_truthy_bool ?_
      dsimp only at hQ
      rw [hf] at hQ
      exact hQ
    · have hany : ((List.range (refs fs).toArray.size).any fun j => (fs[j]?.map fun f => f.code == k).getD false) = fs.any fun f => f.code == k := by
        have e1 : (refs fs).toArray.size = fs.length := by simp [refs]
        rw [e1]
        have := any_rangeD fs fun f => f.code == k
        rw [← this]
        congr 1
        funext j
        cases fs[j]? <;> rfl
      rw [hany]
      have mv : ∀ b o, b ≠ h4.objs.size → b ≠ I → h4.get? b = some o → s'.heap.get? b = some o := fun b o h1 h2 hb => hm.heap b o (fun hmem => by
        rcases List.mem_cons.mp hmem with h | h
        · exact h1 h
        · rcases List.mem_cons.mp h with h | h
          · exact h2 h
          · cases h) (hk5 b o hb)
      have mvh : ∀ b o, b ≠ I → h4.get? b = some o → s'.heap.get? b = some o := fun b o h2 hb => mv b o (Nat.ne_of_lt (hlt4 hb)) h2 hb
      have hD := hst4.D
      refine ⟨m2, setL nw2 P op', ⟨⟨hst4.F.ns.at fun o => mvh _ o hI.2.1.symm, fun b o hb => mvh b o (fun q => ?_) (hst4.F.keep b o hb), hst4.F.above⟩, fun q hq => ?_, ?_, hm.os.trans hst4.os, ?_⟩, k1 op' ps' hpd' ⟨htr', hoT⟩⟩
      · rw [q] at hb
        have h2 : h₀.get? I = none := hI.2.2
        rw [h2] at hb; cases hb
      · have hd := hst4.drop
        refine ⟨mvh _ _ (fun e => ?_) (hd.N q hq).1, (hd.N q hq).2⟩
        rw [List.map_append, List.map_cons] at hD
        rcases List.mem_append.mp hq with h | h
        · exact (List.nodup_append.mp hD).2.2 _ (List.mem_map_of_mem (f := (·.1)) h) _ (.head _) e
        · have h2 := (List.nodup_append.mp hD).2.1
          rw [List.nodup_cons] at h2
          exact h2.1 (e ▸ List.mem_map_of_mem (f := (·.1)) h)
      · exact hst4.drop.D
      · exact AllBare.movedS (AllBare.push hst4.bare hgb) hm
end
end Mine

-- HO2
open PySem PySem.W PySem.Calls PyProof.Rows
set_option maxRecDepth 100000
set_option linter.unusedVariables false
namespace Mine
theorem kc_holds {P : Params} : codeHdIn (KH P) 257 253 = true := by kernel_rfl
theorem isCode_of {h : Heap} {c P : Addr} {op : Obj} {ps : Array Value} (x : CodeHd h c P) (hP : h.get? P = some op) (hd : op.data = .fields ps) (ht : TriplesOk ps.toList) : h.IsCode c P ps :=
  let ⟨o, vs, file, tf, flags, tg, inF, text, tt, e1, _, e3, _, f3, f4, f5, f6, f7, f11⟩ := x
  ⟨o, vs, file, tf, flags, tg, inF, text, tt, op, e1, e3, f3, f4, f5, f6, f7, hP, hd, ht, f11⟩
/-- the table of the code of holds -/
def TabAt' (nw : Led) : Prop := ∃ op ps, (253, op) ∈ nw ∧ op.data = .fields ps ∧ TriplesOk ps.toList ∧ op = tabObj ps
theorem TabAt'.keep0 {nw nw'} (h : TabAt' nw) (k : Kp [] nw nw') : TabAt' nw' := let ⟨op, ps, a, b, c⟩ := h; ⟨op, ps, k.get a, b, c⟩
section
variable {prog : Program} {w : World} {A : Around} {h₀ : Heap} {L : Addr} {m : Loc} {nw rest : Led} {mg mb : Loc} {r : Nat} {env : Env} {K : Frag}
/-- enter a def with one cell, a name of its own that is not bound yet -/
theorem FnC0.intro {d : Nat} {f : Addr} {oc : Value} {od : Option Addr} {osl : Array (Option Value)} {name qual cx : Str} {params : Arguments} {body : List Stmt} {scope : Scope} {dV kV doc pm cdv ct : Value} {an : Option Addr} {args : List Value} {binds : List (Str × Value)} {P : Value → Led → Prop}
    (ho : K.lookup f = some ⟨oc, od, .func (fnOf name qual params body scope dV kV doc pm an cdv ct), osl⟩) (hcd : codeIn K cdv qual = true)
    (hbind : ∀ s, BindsTo s (fnOf name qual params body scope dV kV doc pm an cdv ct) ⟨args, []⟩ binds)
    (hkind : ∀ n, ∀ x ∈ binds, scope.names.lookup x.1 = some .local ∨ (scope.names.lookup x.1 = some .cell ∧ ((cellsFrom n scope.names []).lookup x.1).isSome = true))
    (hone : ∀ n, cellsFrom n scope.names [] = [(cx, n)]) (hcv : ∀ L, bindC (envOfC qual scope L f cdv).kindOf binds (fun _ => none) cx = none)
    (hco : scope.isCoroutine = false) (hgen : scope.isGenerator = false) (hk : scope.kind = .function)
    (h : ∀ r A h₀ L oC, d ≤ r → Fm K mg mb r A h₀ L → oC.data = .cell none → (L + 1) ∉ keys nw → Run prog w A h₀ L (bindL (envOfC qual scope L f cdv).kindOf binds fun _ => none) ((L + 1, oC) :: nw) (execs body (envOfC qual scope L f cdv)) (fun fl _ nw' => P (match fl with | .ret v => v | _ => .none) nw')) :
    Fn prog w K mg mb (d + 1) (.ref f) args nw P := by
  intro r A h₀ L m os fx s hr M hs
  obtain ⟨A₀, base, outer, fe, B, hA, hf, hke⟩ := M.below
  have X : K.In s.heap := hs.inK M
  obtain ⟨r', rfl⟩ : ∃ r', r = r' + 1 := ⟨r - 1, by omega⟩
  refine callX_cells B hs.F hs.N M.gr.nolimit hA hf hke (X _ _ ho) rfl (codeRec_of X hcd) (by have := M.room; omega) (hbind s) hkind (by rw [hone]; simp) (fun g L' h₁ tk cells FG F' N' CA BG st hlt => ?_) hco hgen hk
  have M' : Fm K mg mb r' (A.deeper (envOfC qual scope L' f cdv)) g L' := Fm.deeper M BG hA (M.gr.keeps st) rfl hk
  rw [hone] at CA
  obtain ⟨oC, rfl, hoC⟩ := CA.one
  rw [hcv] at hoC
  have fresh : (L' + 1) ∉ (nw ++ fx).map (·.1) := fun hm => by
    obtain ⟨p, hp, e⟩ := List.mem_map.mp hm
    have := hlt p hp
    rw [e] at this
    exact Nat.lt_irrefl _ (Nat.lt_trans (Nat.lt_succ_self _) this)
  have hst : St g L' os (bindL (envOfC qual scope L' f cdv).kindOf binds fun _ => none) ((L' + 1, oC) :: nw) fx { s with heap := h₁, toks := tk } := by
    refine ⟨F', N', ?_, hs.os, hs.bare⟩
    rw [List.cons_append, List.map_cons, List.nodup_cons]
    exact ⟨fresh, hs.D⟩
  refine wpAny_mono (h r' _ g L' oC (by omega) M' hoC (fun hm => fresh (by rw [List.map_append]; exact List.mem_append_left _ hm)) os fx _ hst) (fun fl s' ⟨m', nw', hs', hp⟩ => ?_) fun _ _ x => x.elim
  exact ⟨L', m', nw' ++ fx, hs'.F, hs'.N, fun F N => ⟨_, nw', rfl, ⟨F, N, hs'.D, hs'.os, hs'.bare⟩, hp⟩⟩
theorem run_store_cell {x : Str} {c : Addr} {oC : Obj} {v₀ : Option Value} {v : Value} {Q : Unit → Loc → Led → Prop} (hk : env.scope.kind = .function) (hx : env.kindOf x = some .cell) (hc : env.cells.lookup x = some c) (hm : (c, oC) ∈ nw) (hd : oC.data = .cell v₀)
    (h : ∀ oC', oC'.data = .cell (some v) → Q () m (setL nw c oC')) : Run prog w A h₀ L m nw (storeName env x v) Q := fun os fx s hs =>
  wpAny_storeName_cell hk hx hc ⟨oC, hs.get hm, hd⟩ fun h' ⟨o', ho', hd'⟩ hsb => ⟨m, _, hs.set (tk := s.toks) hm hsb ho', h o' hd'⟩
theorem sx_assign_cell {x : Str} {pos' : Pos} {e pos rest} {c : Addr} {oC : Obj} {v₀ : Option Value} {V : Value → Prop} {R : Flow → Loc → Led → Prop} (hk : env.scope.kind = .function) (hx : env.kindOf x = some .cell) (hc : env.cells.lookup x = some c) (hm : (c, oC) ∈ nw) (hd : oC.data = .cell v₀) (h : Ev prog w A h₀ L env m nw e V)
    (k : ∀ v oC', V v → oC'.data = .cell (some v) → Sx prog w A h₀ L env m (setL nw c oC') rest R) (hs : swapsWith e (some (.Name x pos')) pos.line env = pure false := by rfl) : Sx prog w A h₀ L env m nw (.Assign [.Name x pos'] e pos :: rest) R :=
  sx_cons fun os fx s hs' => wpAny_Assign_Name (wpAny_mono (h os fx s hs') (fun v s' ⟨m', nw', hs2, hv, e1, e2⟩ => by
    subst e1; subst e2
    exact run_store_cell hk hx hc hm hd (Q := fun _ m nw => Co prog w A h₀ L env rest R .next m nw) (fun oC' hd' => k v oC' hv hd') os fx s' hs2) fun _ _ x => x) hs
theorem t_holds {e de a : Addr} {fs : List Fa} {n c : Nat} {rl : Option Str} (he : (e, elObj de (refs fs) n) ∈ nw) (hfs : ∀ f ∈ fs, FaOk nw f) (D : DefAt (KH w.params) a c rl) (hT : TabAt' nw) :
    Fn prog w (KH w.params) mg mb 3 (.ref 258) [.ref e, .ref a] nw (fun v nw' => v = .bool (fs.any fun f => f.code == c) ∧ Kp [253] nw nw' ∧ TabAt' nw') := by
  refine FnC0.intro (d := 2) (cx := "wanted_code") (binds := [("self", .ref e), ("error_definition", .ref a)]) (by with_unfolding_all exact rfl) (by kernel_rfl) (fun s => BindsTo.of_eq rfl) (fun n x hx => ?_) (fun n => rfl) (fun L => rfl) rfl rfl rfl ?_
  · simp only [List.mem_cons, List.not_mem_nil, or_false] at hx
    rcases hx with rfl | rfl <;> exact .inl rfl
  intro r A h₀ L oC hr M hoC hfr
  have kc : Kp [] nw ((L + 1, oC) :: nw) := Kp.cons
  refine sv_if (B := (· = false)) (tv_not (tv_is (ev_call2 (V := (· = .ref a)) (V' := (· = .ref 53)) (ex_builtin M rfl rfl rfl rfl kb_isinstance rfl (by decide)) (ex_local rfl rfl rfl rfl) (ex_global M rfl rfl rfl kg_ErrorDefinition) fun v v' hv hv' => by subst hv; subst hv'; exact rv_is_def M D)) fun b hb => by subst hb; rfl) (fun h => absurd h (by decide)) (fun _ => sx_nil ?_)
  refine sx_assign_cell rfl rfl rfl (.head _) hoC (ev_at (ex_local rfl rfl rfl rfl) (def_code M D)) fun v oC' ⟨t, hv⟩ hoC' => ?_
  subst hv
  have k1 : Kp [] nw (setL ((L + 1, oC) :: nw) (L + 1) oC') := kp_setL kc hfr
  have hcell : (L + 1, oC') ∈ setL ((L + 1, oC) :: nw) (L + 1) oC' := mem_setL_self (.head _)
  generalize setL ((L + 1, oC) :: nw) (L + 1) oC' = nw1 at *
  obtain ⟨op, ps, hP, hd, ht⟩ := hT
  refine sx_ret (ex_any_el (cl := [("wanted_code", L + 1)]) (c := 257) (P := 253) (k := c) (t := t) (Q := fun v m' nw' => v = .bool (fs.any fun f => f.code == c) ∧ Kp [253] nw nw' ∧ TabAt' nw') M rfl rfl rfl rfl rfl (ex_local rfl rfl rfl rfl) (k1.get he) (fun f hf => (hfs f hf).keep0 k1) rfl (k1.get hP) (fun os fx s hs => isCode_of (codeHd_of_K (hs.inK M) kc_holds) (hs.get (k1.get hP)) hd ht.1) (fun os fx s hs => (codeHd_of_K (hs.inK M) kc_holds).tab (by rw [← ht.2]; exact hs.get (k1.get hP))) hcell hoC' rfl rfl rfl (by decide) rfl rfl rfl rfl fun op' ps' hd' ht' => ⟨rfl, fun p hp hne => mem_setL_ne (k1.get hp) fun e => hne (by rw [e]; exact .head _), op', ps', mem_setL_self (k1.get hP), hd', ht'⟩) fun v m' nw' h => h
end
end Mine

-- HO3
open PySem PySem.W PySem.Calls PyProof.Rows
set_option maxRecDepth 100000
set_option linter.unusedVariables false
namespace Mine
/-- what is no definition: an int, a str -/
def Plain (v : Value) : Prop := (∃ i t, v = .int i t) ∨ (∃ s t, v = .str s t)
section
variable {prog : Program} {w : World} {A : Around} {h₀ : Heap} {L : Addr} {m : Loc} {nw rest : Led} {mg mb : Loc} {r : Nat} {env : Env} {K : Frag}
theorem rv_not_def2 {v : Value} (M : Fm (KH w.params) mg mb r A h₀ L) (hv : Plain v) : Rv prog w A h₀ L m nw (call (.builtin "isinstance") [v, .ref 53]) (· = .bool false) := fun os fx s hs => by
  rcases hv with ⟨i, t, e⟩ | ⟨y, t, e⟩
  · rw [e]; exact isn_call (T := "int") (P := fun _ => True) (hs.inK M) (fun M => Looks.of_pure rfl) kf_not_int (by intro e; cases e) trivial int_cls ⟨m, nw, hs.toks, rfl, rfl, rfl⟩
  · rw [e]; exact isn_call (T := "str") (P := fun _ => True) (hs.inK M) (fun M => Looks.of_pure rfl) kf_not_str (by intro e; cases e) trivial str_cls ⟨m, nw, hs.toks, rfl, rfl, rfl⟩
/-- a fault on its way through the frames l -/
def Flown (h₀ : Heap) (L : Addr) (l : List Env) (m : Loc) (nw fx : Led) (os : OsState) (v : Value) (s' : Shared) : Prop :=
  ∃ x t B, v = .ref x ∧ (∀ b o, h₀.get? b = some o → b ∉ l.filterMap (·.frame) → B.get? b = some o) ∧ (∀ p ∈ nw ++ fx, B.get? p.1 = some p.2) ∧ Heap.FlyingW B l x (.type "TypeError") t s'.heap ∧ h₀.UpToSlots s'.heap ∧ s'.os = os ∧ AllBare s'.gens
theorem self_TypeError : isSubtype (.type "TypeError") (.type "TypeError") = pure true := by rw [isSubtype_type]; kernel_rfl
theorem name_TypeError {p : Pos} {s : Shared} {E : Value → Shared → Prop} (G : Gr (KH w.params) mg mb s.heap) (hg : env.globals = mainGlobals) (hb : env.builtins = builtinsNs) (hk : env.scope.kind = .function) (hx : env.kindOf "TypeError" = some .globalImplicit) {Q : Value → Shared → Prop} (h : Q (.type "TypeError") s) :
    wpAny (model prog w) A (eval (.Name "TypeError" p) env) Q E s := by
  have n := G.g
  rw [← hg] at n
  have b := G.b
  rw [← hb] at b
  exact Name_function_global hk hx (loadGlobal_builtin n (mg_none_of G.X G.g kb_TypeError) b ((G.bi "TypeError" (by decide)).trans rfl) h) (by decide)
theorem leave_flown {env2 fe : Env} {base g h' : Heap} {outer : List Env} {os : OsState} {fx : Led} {s1 : Shared} {m1 : Loc} {x L2 c : Addr} {oC : Obj} {E : Value → Shared → Prop} (BG : Below A base (fe :: outer) g) (FG : Fr h₀ L g m) (st : h₀.StaysIn g)
    (hs1 : St g L2 os m1 ((c, oC) :: nw) fx s1) (hf2 : env2.frame = some L2) (hk2 : env2.scope.kind = .function) (hx : Heap.NewExc s1.heap h' x "TypeError") :
    wpAny (model prog w) (A.deeper env2) (leaving env2 (.ref x)) (fun _ s'' => Flown h₀ L (fe :: outer) m nw fx os (.ref x) s'') E { s1 with heap := h' } := by
  obtain ⟨ob, tp, hx1, hcls, hd⟩ := hx.there
  have PB := pushX BG hs1.F hf2 hk2
  have hin : ∀ env ∈ (env2 :: fe :: outer), ∀ b, env.frame = some b → b ∈ (env2 :: fe :: outer).filterMap (·.frame) := fun env he b hb => List.mem_filterMap.mpr ⟨env, he, hb⟩
  have hen : (hideAll s1.heap ((env2 :: fe :: outer).filterMap (·.frame))).get? x = none := by
    cases q : (hideAll s1.heap ((env2 :: fe :: outer).filterMap (·.frame))).get? x with
    | none => rfl
    | some o => have := of_hideAll _ q; rw [hx.new] at this; cases this
  have hmem : ∀ b, b ∈ (env2 :: fe :: outer).filterMap (·.frame) → b = L2 ∨ b ∈ (fe :: outer).filterMap (·.frame) := fun b hb => by
    obtain ⟨env, he, hf⟩ := List.mem_filterMap.mp hb
    rcases List.mem_cons.mp he with rfl | he
    · rw [hf2] at hf; exact .inl (Option.some.inj hf).symm
    · exact .inr (List.mem_filterMap.mpr ⟨env, he, hf⟩)
  refine wpAny_leaving_firstW (base := hideAll s1.heap ((env2 :: fe :: outer).filterMap (·.frame))) (outer := fe :: outer) (L := L2) (a0 := tp) PB.stack ((funFrames_hide PB.frames hin).of_keeps fun b o hb _ => ⟨o, hx.keeps b o hb, rfl⟩) hf2 hx1 (fun b o hb => hx.keeps b o (of_hideAll _ hb)) hen hd rfl rfl fun h3 hL => ?_
  obtain ⟨k1, ⟨_, _, k2⟩, k3, k4⟩ := hL
  refine ⟨x, tp, _, rfl, fun b o hb hn => hideAll_get _ (hs1.F.keep b o (st b o hb)) fun hm => ?_, fun p hp => ?_, ⟨k1, hen, k2, by rw [← hcls]; exact k3⟩, Heap.UpToSlots.trans (Heap.UpToSlots.of_keeps fun b o hb => hx.keeps _ _ (hs1.F.keep b o (st b o hb))) k4, hs1.os, hs1.bare⟩
  · rcases hmem b hm with h | h
    · rw [h] at hb
      have := st _ _ hb
      rw [kts_self hs1.F] at this
      cases this
    · exact hn h
  · have hp' : p ∈ ((c, oC) :: nw) ++ fx := .tail _ hp
    refine hideAll_get _ (hs1.N p hp').1 fun hm => ?_
    rcases hmem _ hm with h | h
    · exact (hs1.N p hp').2.1 h
    · obtain ⟨_, o, ho, _⟩ := BG.frames.mem h
      rw [(hs1.N p hp').2.2] at ho
      cases ho
theorem wp_holds_raise {fe : Env} {A₀ : Around} {base : Heap} {outer : List Env} {os : OsState} {fx : Led} {s : Shared} {e : Addr} {th : Value} (M : Fm (KH w.params) mg mb (r + 2) A h₀ L) (B : Below A₀ base outer h₀) (hA : A.frames = some (fe :: outer)) (hf : fe.frame = some L) (hke : fe.scope.kind = .function)
    (hth : Plain th) (hs : St h₀ L os m nw fx s) :
    wpAny (model prog w) A (call (.ref 258) [.ref e, th]) (fun _ _ => False) (Flown h₀ L (fe :: outer) m nw fx os) s := by
  refine wpAny_call ?_
  have X : (KH w.params).In s.heap := hs.inK M
  have hnd : ((nw ++ fx).map (·.1)).Nodup := hs.D
  refine callX_cells (env := fe) (binds := [("self", .ref e), ("error_definition", th)]) B hs.F hs.N M.gr.nolimit hA hf hke (X 258 _ (by with_unfolding_all exact rfl)) rfl (codeRec_of X (by kernel_rfl)) (by have := M.room; omega) (BindsTo.of_eq rfl) (fun n x hx => ?_) (by decide) (fun g L2 h2 tk cells FG F2 N2 CA BG st hlt => ?_) rfl rfl rfl
  · simp only [List.mem_cons, List.not_mem_nil, or_false] at hx
    rcases hx with rfl | rfl <;> exact .inl rfl
  obtain ⟨oC, rfl, hoC⟩ := CA.one
  have fresh : (L2 + 1) ∉ (nw ++ fx).map (·.1) := fun hm => by
    obtain ⟨p, hp, e⟩ := List.mem_map.mp hm
    have := hlt p hp
    rw [e] at this
    exact Nat.lt_irrefl _ (Nat.lt_trans (Nat.lt_succ_self _) this)
  have M2 : ∀ env2 : Env, env2.frame = some L2 → env2.scope.kind = .function → Fm (KH w.params) mg mb (r + 1) (A.deeper env2) g L2 := fun env2 h1 h2 => Fm.deeper M BG hA (M.gr.keeps st) h1 h2
  have hD2 : ((((L2 + 1, oC) :: nw) ++ fx).map (·.1)).Nodup := by
    rw [List.cons_append, List.map_cons, List.nodup_cons]
    exact ⟨fresh, hs.D⟩
  have hst := St.mk (os := os) (nw := (L2 + 1, oC) :: nw) (fx := fx) (s := { s with heap := h2, toks := tk }) F2 N2 hD2 hs.os hs.bare
  refine wpAny_execs_cons (wpAny_If (wpAny_mono ((tv_not (B := (· = true)) (tv_is (x := false) (ev_call2 (V := (· = th)) (V' := (· = .ref 53)) (ex_builtin (M2 _ rfl rfl) rfl rfl rfl rfl kb_isinstance rfl (by decide)) (ex_local rfl rfl rfl rfl) (ex_global (M2 _ rfl rfl) rfl rfl rfl kg_ErrorDefinition) fun v v' hv hv' => by subst hv; subst hv'; exact rv_not_def2 (M2 _ rfl rfl) hth)) (fun b hb => by subst hb; rfl)) os fx _ hst) (fun b s1 h1 => ?_) fun _ _ x => x.elim))
  obtain ⟨m1, nw1, hs1, hb, e1, e2⟩ := h1
  subst hb
  rw [e2] at hs1
  rw [if_pos rfl]
  refine wpAny_execs_cons (Raise_classB M.hnd excClass_TypeError self_TypeError (name_TypeError (mg := mg) (mb := mb) (hs1.gr (M.gr.keeps st)) rfl rfl rfl rfl ⟨rfl, rfl⟩) fun h' x hx => ?_)
  exact leave_flown BG FG st hs1 rfl rfl hx
theorem run_refuses {fe : Env} {A₀ : Around} {base : Heap} {e de : Addr} {items : List Value} {n k : Nat} {th : Value} (M : Fm (KH w.params) mg mb (r + 4) A h₀ L) (B : Below A₀ base [] h₀) (hA : A.frames = some [fe]) (hf : fe.frame = some L) (hke : fe.scope.kind = .function)
    (he : (e, elObj de items n) ∈ nw) (hde : (de, dictOf [] k) ∈ nw) (hth : Plain th) : Rv prog w A h₀ L m nw (call (.ref 452) [.ref e, th]) (· = .bool true) := by
  intro os fx s hs
  refine wpAny_call ?_
  have X : (KH w.params).In s.heap := hs.inK M
  obtain ⟨FG, BG, st, _⟩ := groundX (R := fun _ _ => True) B hs.F hs.N hA hf hke
  refine codeAny_call_def (binds := [("row", .ref e), ("thing", th)]) (by have := M.room; omega) (X 452 _ (by with_unfolding_all exact rfl)) rfl (M.gr.nolimit.keeps hs.F.keep) (codeRec_of X (by kernel_rfl)) rfl (BindsTo.of_eq rfl) (by decide) (locs rfl) (fun h₁ hns hk₁ => ?_) rfl rfl rfl
  generalize hgg : hideAll s.heap ((nw ++ fx).map (·.1)) = g at *
  have F' : Fr g s.heap.objs.size h₁ (fun x => ([("row", .ref e), ("thing", th)] : List (Str × Value)).reverse.lookup x) := ⟨hns, fun b o e => hk₁ b o (of_hideAll _ (by rw [hgg]; exact e)), by rw [← hgg]; exact Nat.le_of_eq (hideAll_size _ _)⟩
  have N' : News g s.heap.objs.size h₁ (nw ++ fx) := fun p hp => ⟨hk₁ _ _ (hs.N p hp).1, Nat.ne_of_lt (Heap.lt_size (hs.N p hp).1), by rw [← hgg]; exact hideAll_none _ (List.mem_map_of_mem hp)⟩
  have M' : ∀ env' : Env, env'.frame = some s.heap.objs.size → env'.scope.kind = .function → Fm (KH w.params) mg mb (r + 3) (A.deeper env') g s.heap.objs.size := fun env' h1 h2 => Fm.deeper M BG hA (M.gr.keeps st) h1 h2
  have hst := St.mk (os := os) (nw := nw) (fx := fx) (s := { s with heap := h₁, toks := s.toks + ([("row", .ref e), ("thing", th)] : List (Str × Value)).length }) F' N' hs.D hs.os hs.bare
  refine wpAny_execs_cons (wpAny_Try_except (wpAny_execs_cons (wpAny_Expr ?_ rfl rfl)))
  refine wpAny_mono (Q := fun _ _ => False) (E := Flown g s.heap.objs.size (?env :: [fe]) (fun x => ([("row", .ref e), ("thing", th)] : List (Str × Value)).reverse.lookup x) nw fx os) ?p1 (fun _ _ x => x.elim) (fun ev s1 hfl => ?p2)
  case p1 =>
    refine methodCall_KW (wpAny_mono ((ex_local (v := .ref e) rfl rfl rfl rfl) os fx _ hst) (fun ov s1 h1 => ?_) fun _ _ x => x.elim) rfl
    obtain ⟨m1, nw1, hs1, hv, e1, e2⟩ := h1
    subst hv
    rw [e1, e2] at hs1
    refine wpAny_mono (el_method (Q := fun fx' m' nw' => fx' = (.ref 258, [.ref e]) ∧ m' = _ ∧ nw' = nw) (M' _ rfl rfl) he hde kf_el_holds kf_fn_holds (.inr rfl) ⟨rfl, rfl, rfl⟩ os fx s1 hs1) (fun fx' s2 h2 => ?_) fun _ _ x => x.elim
    obtain ⟨m2, nw2, hs2, hv, e1, e2⟩ := h2
    subst hv
    rw [e1, e2] at hs2
    refine callWith_K (M.gr.X.keeps st) (by kernel_rfl) (wpAny_mono (arg1 (V := (· = th)) (ex_local rfl rfl rfl rfl) rfl os fx s2 hs2) (fun vs s3 h3 => ?_) fun _ _ x => x.elim) rfl rfl
    obtain ⟨m3, nw3, hs3, v, hv, hv2, e1, e2⟩ := h3
    subst hv; subst hv2
    rw [e1, e2] at hs3
    refine ⟨(M.gr.X.keeps st).keeps hs3.F.keep, ?_⟩
    refine wp_holds_raise (r := r + 1) (M' _ rfl rfl) BG ?q1 ?q2 ?q3 hth hs3
    case q1 => exact Around.frames_deeper BG.stack
    case q2 => exact rfl
    case q3 => exact rfl
  case p2 =>
    obtain ⟨x, t, B', rfl, p1, p2, hfl, up, hos, hbare⟩ := hfl
    refine wpAny_looks_onW (Around.frames_deeper BG.stack) rfl hfl fun h4 hheld4 hsm4 => ?_
    refine wpAny_landsW hheld4 fun h5 hheld hsm5 => ?_
    obtain ⟨ob, hob, hobc⟩ := hheld.there
    have low : ∀ b o, h₀.get? b = some o → B'.get? b = some o := fun b o hb => p1 b o (st b o hb) fun hm => by
      rcases List.mem_cons.mp hm with h | h
      · rw [h] at hb
        have := st _ _ hb
        rw [kts_self F'] at this
        cases this
      · have h : b ∈ [fe].filterMap (·.frame) := h
        simp only [List.filterMap_cons, hf, List.filterMap_nil, List.mem_singleton] at h
        rw [h, kts_self hs.F] at hb
        cases hb
    have G5 : Gr (KH w.params) mg mb h5 := M.gr.keeps fun b o hb => hheld.1 _ _ (low b o hb)
    refine wpAny_handleBy_builtin (X := "TypeError") (T := "TypeError") (b := true) PySem.F.isExc_TypeError PySem.F.notTuple_TypeError self_TypeError (name_TypeError (mg := mg) (mb := mb) G5 rfl rfl rfl rfl ⟨rfl, ⟨ob, hob, hobc⟩, ?_⟩)
    refine lands_againW hheld fun h6 hfl6 hsm6 => ?_
    refine wpAny_mono (E := fun _ _ => False) (wpAny_execs_cons (wpAny_Return_some (wpAny_Constant_bool ?_))) (fun _ _ x => x) fun _ _ x => x.elim
    refine ⟨m, nw, ⟨⟨?_, fun b o hb => hfl6.1 _ _ (low b o hb), hs.F.above⟩, fun p hp => ⟨hfl6.1 _ _ (p2 p hp), (hs.N p hp).2⟩, hs.D, hos, hbare⟩, rfl, rfl, rfl⟩
    exact Heap.UpToSlots.ns ((up.trans hsm4).trans (hsm5.trans hsm6)) FG.ns
end
end Mine

-- LA0
open PySem PySem.W PySem.Calls PyProof.Rows
set_option maxRecDepth 100000
set_option linter.unusedVariables false
namespace Mine
/-- objects that nothing of the law turns -/
def soft (o : Obj) : Prop := o.cls ≠ .type "list" ∧ ∀ vs, o.data ≠ .fields vs
def Ks (nw nw' : Led) : Prop := ∀ p ∈ nw, soft p.2 → p ∈ nw'
theorem Ks.of {nw nw'} (k : Kp [] nw nw') : Ks nw nw' := fun p hp _ => k.get hp
theorem Ks.refl {nw} : Ks nw nw := fun p hp _ => hp
theorem Ks.trans {nw nw' nw''} (h : Ks nw nw') (h' : Ks nw' nw'') : Ks nw nw'' := fun p hp hs => h' p (h p hp hs) hs
theorem soft_tup {vs n} : soft (tupO vs n) := ⟨fun h => by injection h with h; exact absurd h (by decide), fun vs h => by cases h⟩
theorem soft_dict {es n} : soft (dictOf es n) := ⟨fun h => by injection h with h; exact absurd h (by decide), fun vs h => by cases h⟩
theorem soft_inst {C d} : soft (instObj C d) := ⟨fun h => (by cases h), fun vs h => by cases h⟩
theorem soft_el {d vs n} : soft (elObj d vs n) := ⟨fun h => (by cases h), fun vs h => by cases h⟩
theorem PathAt.keepS {nw nw' a p} (h : PathAt nw a p) (k : Ks nw nw') : PathAt nw' a p := let ⟨items, n, hm, hk⟩ := h; ⟨items, n, k _ hm soft_tup, hk⟩
theorem VeAt.keepS {nw nw' x doc sch code info} (V : VeAt nw x doc sch code info) (k : Ks nw nw') : VeAt nw' x doc sch code info :=
  let ⟨dx, es, n, dp, sp, t, h1, h2, ⟨h3, h4, h5⟩, ⟨h6, h7, h8⟩, h9, h10⟩ := V
  ⟨dx, es, n, dp, sp, t, k _ h1 soft_inst, k _ h2 soft_dict, ⟨h3, h4.keepS k, h5⟩, ⟨h6, h7.keepS k, h8⟩, h9, h10⟩
theorem RowAt.keepS {nw nw' v x} (h : RowAt nw v x) (k : Ks nw nw') : RowAt nw' v x := let ⟨a, n, cv, rv, e, h1, h2⟩ := h; ⟨a, n, cv, rv, e, k _ h1 soft_tup, h2⟩
theorem RowsAt.keepS {nw nw' vs xs} (h : RowsAt nw vs xs) (k : Ks nw nw') : RowsAt nw' vs xs := by
  induction h with
  | nil => exact .nil
  | cons h _ ih => exact .cons (h.keepS k) ih
theorem LrAt.keepS {nw nw' v lr} (h : LrAt nw v lr) (k : Ks nw nw') : LrAt nw' v lr := let ⟨a, n, pa, cv, e, h1, h2, h3⟩ := h; ⟨a, n, pa, cv, e, k _ h1 soft_tup, h2.keepS k, h3⟩
theorem LrsAt.keepS {nw nw' vs lrs} (h : LrsAt nw vs lrs) (k : Ks nw nw') : LrsAt nw' vs lrs := ⟨h.1, fun i v hv => let ⟨lr, a, b⟩ := h.2 i v hv; ⟨lr, a, b.keepS k⟩⟩
theorem FaKid.keepS {nw nw' f kid} (h : FaKid nw f kid) (k : Ks nw nw') : FaKid nw' f kid := by
  cases kid with
  | none => exact h
  | some c =>
    obtain ⟨h1, el, de, nI, n, kk, h2, h3, h4, h5⟩ := h
    exact ⟨h1, el, de, nI, n, kk, k _ h2 soft_tup, k _ h3 soft_el, k _ h4 soft_dict, h5.keepS k⟩
theorem FkOk.keepS {nw nw' dk p} (h : FkOk nw dk p) (k : Ks nw nw') : FkOk nw' dk p := ⟨h.f.keepS k, h.k.keepS k, h.plain, h.ne, h.lf, h.lc⟩
/-- a list turned -/
theorem Ks.setL {nw : Led} {a : Addr} {o o' : Obj} (hn : (nw.map (·.1)).Nodup) (ha : (a, o) ∈ nw) (hl : ¬ soft o) : Ks nw (Mine.setL nw a o') := fun p hp hs => mem_setL_ne hp fun e => by
  have : (a, p.2) ∈ nw := by rw [← e]; exact hp
  rw [mem_uniq hn ha this] at hl
  exact hl hs
theorem hard_list {vs n} : ¬ soft (listOf vs n) := fun h => h.1 rfl
/-- the nodes of a tree: the fronts of the paths -/
theorem foldl_SK (dk : Bool) : ∀ (l : List Fk) (S : List Key → Prop) (G : List Fa), (∀ p, S p ↔ p = [] ∨ ∃ f ∈ G, p ≠ [] ∧ p <+: f.path dk) →
    ∀ p, (l.foldl (fun S q => SK dk S q.1 q.2) S) p ↔ p = [] ∨ ∃ f ∈ (l.foldl (fun G q => GK G q.1 q.2) G), p ≠ [] ∧ p <+: f.path dk
  | [], S, G, h => h
  | (f, none) :: l, S, G, h => foldl_SK dk l _ _ fun p => by
    show Spre S (f.path dk) p ↔ _
    unfold Spre
    rw [h]
    simp only [GK, List.mem_cons]
    constructor
    · rintro ((e | ⟨g, hg, h1⟩) | h1)
      · exact .inl e
      · exact .inr ⟨g, .inr hg, h1⟩
      · exact .inr ⟨f, .inl rfl, h1⟩
    · rintro (e | ⟨g, rfl | hg, h1⟩)
      · exact .inl (.inl e)
      · exact .inr h1
      · exact .inl (.inr ⟨g, hg, h1⟩)
  | (f, some c) :: l, S, G, h => foldl_SK dk l _ _ fun p => by
    show Spre (Spre S (f.path dk)) (c.path dk) p ↔ _
    unfold Spre
    rw [h]
    simp only [GK, List.mem_cons]
    constructor
    · rintro (((e | ⟨g, hg, h1⟩) | h1) | h1)
      · exact .inl e
      · exact .inr ⟨g, .inr (.inr hg), h1⟩
      · exact .inr ⟨f, .inr (.inl rfl), h1⟩
      · exact .inr ⟨c, .inl rfl, h1⟩
    · rintro (e | ⟨g, rfl | rfl | hg, h1⟩)
      · exact .inl (.inl (.inl e))
      · exact .inr h1
      · exact .inl (.inr h1)
      · exact .inl (.inl (.inr ⟨g, hg, h1⟩))
theorem Sall_iff (dk : Bool) (l : List Fk) (p : List Key) : Sall dk l p ↔ p = [] ∨ ∃ f ∈ Gall l, p ≠ [] ∧ p <+: f.path dk :=
  foldl_SK dk l (fun p => p = []) [] (fun p => by simp) p
structure LrOk (P : Params) (nw : Led) (dk : Bool) (lr : Lr) : Prop where
  p : lr.p = lr.f.path dk
  c : lr.code = lr.f.code
  f : FaOk nw lr.f
  d : ∃ rl, DefAt (KH P) lr.d lr.code rl
  l : lr.p.length ≤ 5
  y : Key.y ∉ lr.p
theorem LrOk.keepS {P nw nw' dk lr} (h : LrOk P nw dk lr) (k : Ks nw nw') : LrOk P nw' dk lr := ⟨h.p, h.c, h.f.keepS k, h.d, h.l, h.y⟩
/-- the faults made so far -/
structure Made (P : Params) (nw : Led) (i : Nat) (fl : List Fk) (dl sl : List Lr) : Prop where
  len : fl.length = i
  ok : ∀ p ∈ fl, FkOk nw true p ∧ FkOk nw false p
  dperm : (Gall fl).Perm (dl.map (·.f))
  sperm : (Gall fl).Perm (sl.map (·.f))
  dok : ∀ lr ∈ dl, LrOk P nw true lr
  sok : ∀ lr ∈ sl, LrOk P nw false lr
theorem Made.keepS {P nw nw' i fl dl sl} (h : Made P nw i fl dl sl) (k : Ks nw nw') : Made P nw' i fl dl sl :=
  ⟨h.len, fun p hp => ⟨(h.ok p hp).1.keepS k, (h.ok p hp).2.keepS k⟩, h.dperm, h.sperm, fun lr hl => (h.dok lr hl).keepS k, fun lr hl => (h.sok lr hl).keepS k⟩
theorem Made.nil {P nw} : Made P nw 0 [] [] [] := ⟨rfl, (fun _ h => nomatch h), .refl _, .refl _, (fun _ h => nomatch h), (fun _ h => nomatch h)⟩
theorem Gall_snoc (fl : List Fk) (p : Fk) : Gall (fl ++ [p]) = GK (Gall fl) p.1 p.2 := by unfold Gall; rw [List.foldl_append]; rfl
theorem Made.dlen {P nw i fl dl sl} (h : Made P nw i fl dl sl) : dl.length ≤ 2 * i := by
  have h1 := h.dperm.length_eq
  have h2 := Gall_len fl
  rw [List.length_map] at h1
  have := h.len
  omega
theorem Made.slen {P nw i fl dl sl} (h : Made P nw i fl dl sl) : sl.length ≤ 2 * i := by
  have h1 := h.sperm.length_eq
  have h2 := Gall_len fl
  rw [List.length_map] at h1
  have := h.len
  omega
theorem Made.plain {P nw i fl dl sl} (h : Made P nw i fl dl sl) {f : Fa} {d : Addr} {rl} (hf : FaOk nw f) (hc : ((f.code &&& 128 : Nat) : Int) = 0) (hd : DefAt (KH P) d f.code rl) (l1 : f.doc.length ≤ 5) (l2 : f.sch.length ≤ 5) (y1 : Key.y ∉ f.doc) (y2 : Key.y ∉ f.sch) :
    Made P nw (i + 1) (fl ++ [(f, none)]) (dl ++ [⟨f.doc, f.code, f, d⟩]) (sl ++ [⟨f.sch, f.code, f, d⟩]) := by
  refine ⟨by simp [h.len], fun p hp => ?_, ?_, ?_, fun lr hl => ?_, fun lr hl => ?_⟩
  · rcases List.mem_append.mp hp with hp | hp
    · exact h.ok p hp
    · rw [List.mem_singleton.mp hp]
      exact ⟨⟨hf, hc, nofun, nofun, l1, nofun⟩, ⟨hf, hc, nofun, nofun, l2, nofun⟩⟩
  · rw [Gall_snoc, List.map_append]
    exact (h.dperm.cons f).trans (List.perm_append_singleton f _).symm
  · rw [Gall_snoc, List.map_append]
    exact (h.sperm.cons f).trans (List.perm_append_singleton f _).symm
  · rcases List.mem_append.mp hl with hl | hl
    · exact h.dok lr hl
    · rw [List.mem_singleton.mp hl]
      exact ⟨rfl, rfl, hf, ⟨rl, hd⟩, l1, y1⟩
  · rcases List.mem_append.mp hl with hl | hl
    · exact h.sok lr hl
    · rw [List.mem_singleton.mp hl]
      exact ⟨rfl, rfl, hf, ⟨rl, hd⟩, l2, y2⟩
theorem Made.group {P nw i fl dl sl} (h : Made P nw i fl dl sl) {f c : Fa} {d d' : Addr} {rl rl'} (hf : FaOk nw f) (hc : FaOk nw c) (hk : FaKid nw f (some c)) (hp : ((c.code &&& 128 : Nat) : Int) = 0) (hd : DefAt (KH P) d f.code rl) (hd' : DefAt (KH P) d' c.code rl')
    (n1 : f.doc ≠ []) (n2 : f.sch ≠ []) (l1 : f.doc.length ≤ 5) (l2 : f.sch.length ≤ 5) (y1 : Key.y ∉ f.doc) (y2 : Key.y ∉ f.sch) (l3 : c.doc.length ≤ 5) (l4 : c.sch.length ≤ 5) (y3 : Key.y ∉ c.doc) (y4 : Key.y ∉ c.sch) :
    Made P nw (i + 1) (fl ++ [(f, some c)]) (dl ++ [⟨c.doc, c.code, c, d'⟩, ⟨f.doc, f.code, f, d⟩]) (sl ++ [⟨c.sch, c.code, c, d'⟩, ⟨f.sch, f.code, f, d⟩]) := by
  have two : ∀ {l : List Lr} {q r : Lr}, (Gall fl).Perm (l.map (·.f)) → q.f = c → r.f = f → (c :: f :: Gall fl).Perm ((l ++ [q, r]).map (·.f)) := fun {l q r} hp e1 e2 => by
    rw [List.map_append, List.map_cons, List.map_cons, e1, e2, List.map_nil]
    refine (((hp.cons f).cons c).trans ?_).trans List.perm_append_comm
    exact List.Perm.refl _
  refine ⟨by simp [h.len], fun p hp' => ?_, ?_, ?_, fun lr hl => ?_, fun lr hl => ?_⟩
  · rcases List.mem_append.mp hp' with hp' | hp'
    · exact h.ok p hp'
    · rw [List.mem_singleton.mp hp']
      exact ⟨⟨hf, hk, fun _ e => by cases e; exact hp, fun _ e => n1, l1, fun _ e => by cases e; exact l3⟩, ⟨hf, hk, fun _ e => by cases e; exact hp, fun _ e => n2, l2, fun _ e => by cases e; exact l4⟩⟩
  · rw [Gall_snoc]
    exact two h.dperm rfl rfl
  · rw [Gall_snoc]
    exact two h.sperm rfl rfl
  · rcases List.mem_append.mp hl with hl | hl
    · exact h.dok lr hl
    · simp only [List.mem_cons, List.not_mem_nil, or_false] at hl
      rcases hl with rfl | rfl
      · exact ⟨rfl, rfl, hc, ⟨rl', hd'⟩, l3, y3⟩
      · exact ⟨rfl, rfl, hf, ⟨rl, hd⟩, l1, y1⟩
  · rcases List.mem_append.mp hl with hl | hl
    · exact h.sok lr hl
    · simp only [List.mem_cons, List.not_mem_nil, or_false] at hl
      rcases hl with rfl | rfl
      · exact ⟨rfl, rfl, hc, ⟨rl', hd'⟩, l4, y4⟩
      · exact ⟨rfl, rfl, hf, ⟨rl, hd⟩, l2, y2⟩
end Mine

-- LA1
open PySem PySem.W PySem.Calls PyProof.Rows
set_option maxRecDepth 100000
set_option linter.unusedVariables false
namespace Mine
/-- no frame below -/
def TopF (A : Around) (h₀ : Heap) (L : Addr) : Prop := ∃ A₀ base fe, Below A₀ base [] h₀ ∧ A.frames = some [fe] ∧ fe.frame = some L ∧ fe.scope.kind = .function
/-- the end of the law -/
def PT : Flow → Loc → Led → Prop := fun fl _ nw' => fl = .ret (.bool true) ∧ TabAt' nw'
/-- the law from its statement k on -/
def LawAt (k : Nat) (Pre : World → Heap → Loc → Led → Prop) : Prop :=
  ∀ (w : World) (oc : Value) (od : Option Addr) (osl : Array (Option Value)) (name qual : Str) (params : Arguments) (body : List Stmt) (scope : Scope) (dV kV doc pm cdv ct : Value) (an : Option Addr),
    (KH w.params).lookup 469 = some ⟨oc, od, .func (fnOf name qual params body scope dV kV doc pm an cdv ct), osl⟩ →
    ∀ (prog : Program) (mg mb : Loc) (r : Nat) (A : Around) (h₀ : Heap) (L fa : Addr) (cd : Value) (m : Loc) (nw : Led), PG prog → 100 ≤ r → Fm (KH w.params) mg mb r A h₀ L → TopF A h₀ L → Pre w h₀ m nw →
      Run prog w A h₀ L m nw (execs (body.drop k) (envOfC qual scope L fa cd)) PT
theorem LawAt.of {k : Nat} {Pre : World → Heap → Loc → Led → Prop}
    (h : ∀ w : World, ∃ (oc : Value) (od : Option Addr) (osl : Array (Option Value)) (name qual : Str) (params : Arguments) (body : List Stmt) (scope : Scope) (dV kV doc pm cdv ct : Value) (an : Option Addr), (KH w.params).lookup 469 = some ⟨oc, od, .func (fnOf name qual params body scope dV kV doc pm an cdv ct), osl⟩ ∧
      ((KH w.params).lookup 469 = some ⟨oc, od, .func (fnOf name qual params body scope dV kV doc pm an cdv ct), osl⟩ → ∀ (prog : Program) (mg mb : Loc) (r : Nat) (A : Around) (h₀ : Heap) (L fa : Addr) (cd : Value) (m : Loc) (nw : Led), PG prog → 100 ≤ r → Fm (KH w.params) mg mb r A h₀ L → TopF A h₀ L → Pre w h₀ m nw →
        Run prog w A h₀ L m nw (execs (body.drop k) (envOfC qual scope L fa cd)) PT)) : LawAt k Pre := by
  intro w oc od osl name qual params body scope dV kV doc pm cdv ct an hl
  obtain ⟨oc', od', osl', name', qual', params', body', scope', dV', kV', doc', pm', cdv', ct', an', hl', hr⟩ := h w
  have e := Option.some.inj (hl.symm.trans hl')
  cases e
  exact hr hl
theorem law_look (w : World) : ∃ (oc : Value) (od : Option Addr) (osl : Array (Option Value)) (name qual : Str) (params : Arguments) (body : List Stmt) (scope : Scope) (dV kV doc pm cdv ct : Value) (an : Option Addr), (KH w.params).lookup 469 = some ⟨oc, od, .func (fnOf name qual params body scope dV kV doc pm an cdv ct), osl⟩ :=
  ⟨_, _, _, _, _, _, _, _, _, _, _, _, _, _, _, by with_unfolding_all exact rfl⟩
section
variable {prog : Program} {w : World} {A : Around} {h₀ : Heap} {L : Addr} {m : Loc} {nw rest : Led} {mg mb : Loc} {r : Nat} {env : Env} {K : Frag}
/-- the script, a list of the start -/
theorem rv_len_script {a : Addr} {items : List Value} (ha : h₀.IsList a items.toArray) (hz : items.length < 1000) : Rv prog w A h₀ L m nw (call (.builtin "len") [.ref a]) (VI items.length) := fun os fx s hs => by
  have hl : s.heap.IsList a items.toArray := let ⟨o, h1, h2⟩ := ha; ⟨o, hs.F.keep _ _ h1, h2⟩
  exact PyProof.Rows.len_list (items := items.toArray) hl (by rw [List.size_toArray]; omega) ⟨m, nw, (hs.toks (tk := s.toks + 1)).toks (tk := s.toks + 1 + 1), ⟨_, by rw [List.size_toArray]⟩, rfl, rfl⟩
theorem run_item_script {value slice : Expr} {a : Addr} {items : List Value} {k : Int} {u : Tok} {x : Value} {Q : Value → Loc → Led → Prop} (ha : h₀.IsList a items.toArray) (h0 : 0 ≤ k) (h1 : k < 2 ^ 30) (hx : items[k.toNat]? = some x) (h : Q x m nw)
    (hs : subscripted slice false (.ref a) (.int k u) = operate [.ref a, .int k u] (getItem (.ref a) (.int k u)) := by with_unfolding_all rfl) : Run prog w A h₀ L m nw (subscriptTail value slice (.ref a) (.int k u)) Q := fun os fx s hst => by
  have hl : s.heap.IsList a items.toArray := let ⟨o, h1, h2⟩ := ha; ⟨o, hst.F.keep _ _ h1, h2⟩
  exact tail_any hl.typeIs slot_list_getitem.lookup (wpAny_getItem_list hl h0 (by omega) (by simpa using hx) ⟨m, nw, hst, h⟩) hs
/-- y = [comprehension over a range] -/
theorem sx_compR {elt e : Expr} {x y : Str} {p pos' : Pos} {px py pos spos : Pos} {ifs : List Expr} {scope : Scope} {rest : List Stmt} {R : Flow → Loc → Led → Prop} {cl : List (Str × Addr)} {n : Nat} (J : Nat → List Value → Prop) (M : Fm (KH w.params) mg mb r A h₀ L)
    (hl : env.locals = L) (hg : env.globals = mainGlobals) (hb : env.builtins = builtinsNs) (hk : env.scope.kind = .function) (hy : env.kindOf y = some .local) (hn : env.kindOf "range" = some .globalImplicit)
    (hsw : swapsWith (.ListComp elt [⟨.Name x px, .Call (.Name "range" p) [e] [] pos', ifs, 0⟩] scope pos) (some (.Name y py)) spos.line env = pure true)
    (hclos : closureFor scope env = pure cl) (hcell : ∀ y ∈ scope.names, y.2 ≠ .cell) (hkind : scope.kind = .function) (hnames : ∀ y ∈ scope.names, y.2 = .local → scope.names.lookup y.1 = some .local) (hx : scope.names.lookup x = some .local)
    (he : Ev prog w A h₀ L env m nw e (VI n)) (hz : n < 1000) (h0 : J 0 [])
    (turn : ∀ i t C oC m₂ D ys nw', i < n → Kp [] nw nw' → LCg.NsObj oC m₂ → m₂ x = some (.int i t) → J i ys →
      Run prog w A h₀ L m ((C, oC) :: (D, LCg.lst ys) :: nw') (forIn ifs true fun c r => if r = true then do let ok ← isTrue c (compEnvC scope cl C env) (eval c (compEnvC scope cl C env)); pure (ForInStep.yield ok) else pure (ForInStep.yield r))
        (fun b m'' nw'' => (m'' = m ∧ nw'' = (C, oC) :: (D, LCg.lst ys) :: nw') ∧ (b = true → Ev prog w A h₀ L (compEnvC scope cl C env) m ((C, oC) :: (D, LCg.lst ys) :: nw') elt (fun y => J (i + 1) (ys ++ [y]))) ∧ (b = false → J (i + 1) ys)))
    (done : ∀ D ys nw', J n ys → Kp [] nw nw' → D ∉ keys nw' → Sx prog w A h₀ L env (upd m y (.ref D)) ((D, LCg.lst ys) :: nw') rest R)
    (hev : eval (.Call (.Name "range" p) [e] [] pos') env = (do callWith pos' (← eval (.Name "range" p) env) [] (backTo pos' (starEach [e] env)) (backToKw pos' (keywordEach [] env))) := by rfl)
    (hse : starEach [e] env = [(false, eval e env)] := by rfl)
    (hs : ∀ x, foldedSetIterable (.Call (.Name "range" p) [e] [] pos') env x = pure x := by intro _; rfl) :
    Sx prog w A h₀ L env m nw (.Assign [.Name y py] (.ListComp elt [⟨.Name x px, .Call (.Name "range" p) [e] [] pos', ifs, 0⟩] scope pos) spos :: rest) R := by
  refine sx_comp (cl := cl) (P := Kt m nw fun v nw' => ∃ a t u v', v = .ref a ∧ (a, rangeO (n : Int) t u v') ∈ nw') (It := fun v i o => o = { cls := .type "range_iterator", dict := none, data := .fields #[rawInt (i : Int), rawInt ((n : Int) - i), rawInt 1], slots := #[] }) (n := fun _ => n) (V := fun _ i v => ∃ t, v = .int i t) (need := fun _ _ => True)
    (fun v nw' i ys => J i ys) hl hk hy hsw hclos hcell hkind hnames hx (ex_range M hg hb hk hn he hev hse) ?_ ?_ ?_ ?_ ?_ ?_ hs
  · rintro v m' nw' os fx s Q ⟨e, kk, a, t, u, v', e', hm⟩ hs hQ
    subst e'
    exact start_range (n := n) hm (by omega) hs hQ
  · exact fun v m' nw' _ => stepper_range M.hnd
  · exact fun v m' nw' _ => self_range
  · exact fun v m' nw' _ => ⟨h0, hz, fun _ _ => trivial⟩
  · rintro v m' nw' k u C oC m₂ D ys ⟨e, kk, _⟩ hk ⟨tk, rfl⟩ hN hm2 hJ
    rw [e]
    exact turn k tk C oC m₂ D ys nw' hk kk hN hm2 hJ
  · rintro v m' nw' D ys ⟨e, kk, _⟩ hJ hD
    rw [e]
    exact done D ys nw' hJ kk hD
end
end Mine

-- LA2
open PySem PySem.W PySem.Calls PyProof.Rows
set_option maxRecDepth 100000
set_option linter.unusedVariables false
namespace Mine
/-- a tree, its kind, its rows -/
def ItemAt (prog : Program) (w : World) (fl : List Fk) (nw : Led) (v : Value) (dk : Bool) (lrs : List Lr) : Prop :=
  ∃ a n tk x tA lvs ln rest T, v = .ref a ∧ (a, tupO [.ref x, .str (kindS dk) tk, .ref tA] n) ∈ nw ∧ Tr prog w nw rest dk x T (Sall dk fl) (Gall fl) ∧ (tA, listOf lvs.toArray ln) ∈ nw ∧ LrsAt nw lvs lrs ∧ (Gall fl).Perm (lrs.map (·.f)) ∧ (∀ lr ∈ lrs, LrOk w.params nw dk lr) ∧ lrs.length ≤ 10
theorem ItemAt.keep0 {prog w fl nw nw' v dk lrs} (h : ItemAt prog w fl nw v dk lrs) (k : Kp [] nw nw') : ItemAt prog w fl nw' v dk lrs :=
  let ⟨a, n, tk, x, tA, lvs, ln, rest, T, e, h1, h2, h3, h4, h5, h6, h7⟩ := h
  ⟨a, n, tk, x, tA, lvs, ln, rest, T, e, k.get h1, h2.keep k, k.get h3, h4.keep0 k, h5, fun lr hl => (h6 lr hl).keepS (.of k), h7⟩
theorem fronts_S {P nw dk} {fl : List Fk} {lrs : List Lr} {ps : List (List Key)} (hp : (Gall fl).Perm (lrs.map (·.f))) (ho : ∀ lr ∈ lrs, LrOk P nw dk lr) (hF : FrontsOf lrs 0 [] ps) (p : List Key) : p ∈ ps ↔ Sall dk fl p := by
  rw [hF.2, Sall_iff]
  constructor
  · rintro (e | ⟨lr, hl, h1, h2⟩ | ⟨h1, h2, h3⟩)
    · exact .inl e
    · refine .inr ⟨lr.f, hp.mem_iff.mpr (List.mem_map_of_mem hl), h1, ?_⟩
      rw [← (ho lr hl).p]; exact h2
    · exact absurd (List.prefix_nil.mp h3) h1
  · rintro (e | ⟨f, hf, h1, h2⟩)
    · exact .inl e
    · obtain ⟨lr, hl, rfl⟩ := List.mem_map.mp (hp.mem_iff.mp hf)
      refine .inr (.inl ⟨lr, hl, h1, ?_⟩)
      rw [(ho lr hl).p]; exact h2
theorem S_len {P nw dk} {fl : List Fk} {lrs : List Lr} (hp : (Gall fl).Perm (lrs.map (·.f))) (ho : ∀ lr ∈ lrs, LrOk P nw dk lr) {p : List Key} (h : Sall dk fl p) : p.length ≤ 5 ∧ Key.y ∉ p := by
  rcases (Sall_iff dk fl p).mp h with rfl | ⟨f, hf, h1, h2⟩
  · exact ⟨by simp, by simp⟩
  · obtain ⟨lr, hl, rfl⟩ := List.mem_map.mp (hp.mem_iff.mp hf)
    have hk := ho lr hl
    rw [← hk.p] at h2
    exact ⟨Nat.le_trans h2.length_le hk.l, fun hy => hk.y (h2.subset hy)⟩
theorem fronts_len {P nw dk} {lrs : List Lr} {ps : List (List Key)} (ho : ∀ lr ∈ lrs, LrOk P nw dk lr) (hl : lrs.length ≤ 10) (hF : FrontsOf lrs 0 [] ps) : ps.length ≤ 51 := by
  have hs : ps ⊆ [] :: lrs.flatMap fun lr => (List.range 5).map fun k => lr.p.take (k + 1) := by
    intro p hp
    rcases (hF.2 p).mp hp with e | ⟨lr, hl, h1, h2⟩ | ⟨h1, h2, h3⟩
    · rw [e]; exact .head _
    · refine .tail _ (List.mem_flatMap.mpr ⟨lr, hl, List.mem_map.mpr ⟨p.length - 1, ?_, ?_⟩⟩)
      · have := h2.length_le
        have := (ho lr hl).l
        have : p.length ≠ 0 := fun e => h1 (List.length_eq_zero_iff.mp e)
        rw [List.mem_range]
        omega
      · have : p.length ≠ 0 := fun e => h1 (List.length_eq_zero_iff.mp e)
        rw [show p.length - 1 + 1 = p.length by omega]
        exact (List.prefix_iff_eq_take.mp h2).symm
    · exact absurd (List.prefix_nil.mp h3) h1
  have h1 := hF.1.length_le_of_subset hs
  have h2 : ∀ l : List Lr, (l.flatMap fun lr => (List.range 5).map fun k => lr.p.take (k + 1)).length = 5 * l.length := by
    intro l
    induction l with
    | nil => rfl
    | cons a l ih => rw [List.flatMap_cons, List.length_append, ih]; simp; omega
  rw [List.length_cons, h2] at h1
  omega
def Pre10 (w : World) (h₀ : Heap) (m : Loc) (nw : Led) : Prop := ∃ mA dA sA n1 n2 n3 fl dl sl dv sv,
  m "made" = some (.ref mA) ∧ m "by_document" = some (.ref dA) ∧ m "by_schema" = some (.ref sA) ∧ (mA, listOf (refs (fl.map (·.1))).toArray n1) ∈ nw ∧ (dA, listOf dv.toArray n2) ∈ nw ∧ (sA, listOf sv.toArray n3) ∈ nw ∧ LrsAt nw dv dl ∧ LrsAt nw sv sl ∧ Made w.params nw 5 fl dl sl ∧ TabAt' nw
section
variable {prog : Program} {w : World} {A : Around} {h₀ : Heap} {L : Addr} {m : Loc} {nw rest : Led} {mg mb : Loc} {r : Nat} {env : Env} {K : Frag}
theorem ex_tree {dk : Bool} {func : Expr} {e : Expr} {pos : Pos} {made : Addr} {nM : Nat} {fl : List Fk} (HP : PG prog) (M : Fm (KH w.params) mg mb r A h₀ L) (hr : 65 ≤ r) (hf : Ev prog w A h₀ L env m nw func (· = .ref (rootC dk))) (hk : keepIn (KH w.params) (.ref (rootC dk)) = true) (he : Ev prog w A h₀ L env m nw e (· = .ref made))
    (hmade : (made, listOf (refs (fl.map (·.1))).toArray nM) ∈ nw) (hfl : ∀ p ∈ fl, FkOk nw dk p) (hl : fl.length ≤ 5)
    (hev : eval (.Call func [e] [] pos) env = (do callWith pos (← eval func env) [] (backTo pos (starEach [e] env)) (backToKw pos (keywordEach [] env))) := by rfl)
    (hs : starEach [e] env = [(false, eval e env)] := by rfl) :
    Ex prog w A h₀ L env m nw (.Call func [e] [] pos) (Kt m nw fun v nw' => ∃ x rest T, v = .ref x ∧ Tr prog w nw' rest dk x T (Sall dk fl) (Gall fl)) :=
  ex_callK M hf hk (arg1 he hs) (fun vs m' nw' ⟨v, e1, e2, e3, e4⟩ => by
    subst e1; subst e2; rw [e3, e4]
    exact run_tree HP M hr hmade hfl hl fun x nw' rest' T' htr k => ⟨rfl, k.trans htr.lay.kp, x, rest', T', rfl, htr⟩) hev hs rfl
theorem ev_fetch_no {dk : Bool} {root : Addr} {T : List Nd} {S : List Key → Prop} {G : List Fa} {oe fe : Expr} {apos pos : Pos} {q : List Key} (M : Fm (KH w.params) mg mb r A h₀ L) (hr : 5 ≤ r) (htr : Tr prog w nw rest dk root T S G) (hz : q.length < 100) (hno : ¬ ∃ nd ∈ T, nd.p = q)
    (ho : Ev prog w A h₀ L env m nw oe (· = .ref root)) (hf : Ex prog w A h₀ L env m nw fe (Kt m nw fun v nw' => ∃ a, v = .ref a ∧ PathAt nw' a q)) {pl : Sem Bool}
    (he : eval (.Call (.Attribute oe "fetch_node_from" apos) [fe] [] pos) env = (do
      let ov ← eval oe env
      standAt apos.atName
      let (f, first) ← holding [ov] (getMethod ov "fetch_node_from" pl)
      callWith pos f first (backTo pos (starEach [fe] env)) (backToKw pos (keywordEach [] env))) := by rfl)
    (hs : starEach [fe] env = [(false, eval fe env)] := by rfl) :
    Ev prog w A h₀ L env m nw (.Call (.Attribute oe "fetch_node_from" apos) [fe] [] pos) (· = .none) := by
  obtain ⟨nd0, hnd0, _, h2, _, h4, _⟩ := htr.rootAt
  have N := (htr.ok nd0 hnd0).node.keep0 htr.lay.kp
  rw [h2, h4] at N
  have a : MethAttr (KH w.params) (rootC dk) "fetch_node_from" 388 := by cases dk; exact kf_fetch_417; exact kf_fetch_405
  exact Run.drop (P := fun v m' nw' => v = .none ∧ m' = m ∧ Kp [] nw nw') (ev_methK ho (nd_method M N a ⟨rfl, rfl, rfl⟩) (cw_K (P := fun vs m' nw' => m' = m ∧ Kp [] nw nw' ∧ ∃ a, vs = [.ref a] ∧ PathAt nw' a q) M kk_388 (args_kt hf (fun v nw' k ⟨a, e, hp⟩ => args_nil ⟨rfl, k, a, by rw [e], hp⟩) hs) (fun vs m' nw' ⟨e1, k, a, e2, hp⟩ => by
    subst e2; rw [e1]
    exact Run.mono (run_fp M (t_fetch (htr.keep k) hp hz) hr) fun v m' nw'' ⟨h, e, e'⟩ => ⟨h.2.2 hno, e, by rw [e']; exact k⟩) hs rfl) he) fun _ _ _ h => h
theorem law10 : LawAt 10 Pre10 := by
  refine LawAt.of fun w => ⟨_, _, _, _, _, _, _, _, _, _, _, _, _, _, _, by with_unfolding_all exact rfl, fun ho => ?_⟩
  clear ho
  intro prog mg mb r A h₀ L fa cd m nw HP hr M HT hpre
  obtain ⟨mA, dA, sA, n1, n2, n3, fl, dl, sl, dv, sv, nm1, nm2, nm3, hmA, hdA, hsA, hdl, hsl, hM, hTb⟩ := hpre
  dsimp only [List.drop]
  refine sx_assign rfl rfl rfl (P := Kt m nw fun v nw' => ∃ tr v1 v2, v = .ref tr ∧ (tr, listOf [v1, v2].toArray 0) ∈ nw' ∧ ItemAt prog w fl nw' v1 true dl ∧ ItemAt prog w fl nw' v2 false sl) ?_ ?_
  · refine ex_list (P := fun vs m' nw' => m' = m ∧ Kp [] nw nw' ∧ ∃ v1 v2, vs = [v1, v2] ∧ ItemAt prog w fl nw' v1 true dl ∧ ItemAt prog w fl nw' v2 false sl) ?_ ?_ ?_
    · refine args_kt (V := fun v nw' => ItemAt prog w fl nw' v true dl) ?_ fun v1 nw1 k1 h1 => args_kt (V := fun v nw' => ItemAt prog w fl nw' v false sl) ?_ fun v2 nw2 k2 h2 => args_nil ⟨rfl, k1.trans k2, v1, v2, rfl, h1.keep0 k2, h2⟩
      · refine ex_tuple (P := fun vs m' nw' => m' = m ∧ Kp [] nw nw' ∧ ∃ x rest T tk, vs = [.ref x, .str (kindS true) tk, .ref dA] ∧ Tr prog w nw' rest true x T (Sall true fl) (Gall fl)) (args_kt (ex_tree (dk := true) HP M (by omega) (ex_global M rfl rfl rfl kg_DocumentErrorTree) kk_DocumentErrorTree (ex_local rfl rfl rfl nm1) hmA (fun p hp => (hM.ok p hp).1) (Nat.le_of_eq hM.len)) fun v nw' k ⟨x, rest, T, e, htr⟩ => args_ev ex_str fun v2 ⟨tk, e2⟩ => args_ev (V := (· = .ref dA)) (ex_local rfl rfl rfl nm2) fun v3 e3 => args_nil ⟨rfl, k, x, rest, T, tk, by rw [e, e2, e3]; rfl, htr⟩)
          (fun vs m' nw' ⟨_, _, x, rest, T, tk, e, _⟩ => by subst e; exact (show 3 < 1000 by decide)) (fun vs m' nw' a ⟨e1, k, x, rest, T, tk, e, htr⟩ => by subst e; exact ⟨e1, k.trans Kp.cons, a, 0, tk, x, dA, dv, n2, rest, T, rfl, .head _, htr.keep Kp.cons, (k.trans Kp.cons).get hdA, hdl.keep0 (k.trans Kp.cons), hM.dperm, fun lr hl => (hM.dok lr hl).keepS (.of (k.trans Kp.cons)), hM.dlen⟩)
      · refine ex_tuple (P := fun vs m' nw' => m' = m ∧ Kp [] nw1 nw' ∧ ∃ x rest T tk, vs = [.ref x, .str (kindS false) tk, .ref sA] ∧ Tr prog w nw' rest false x T (Sall false fl) (Gall fl)) (args_kt (ex_tree (dk := false) HP M (by omega) (ex_global M rfl rfl rfl kg_SchemaErrorTree) kk_SchemaErrorTree (ex_local rfl rfl rfl nm1) (k1.get hmA) (fun p hp => (hM.ok p hp).2.keepS (.of k1)) (Nat.le_of_eq hM.len)) fun v nw' k ⟨x, rest, T, e, htr⟩ => args_ev ex_str fun v2 ⟨tk, e2⟩ => args_ev (V := (· = .ref sA)) (ex_local rfl rfl rfl nm3) fun v3 e3 => args_nil ⟨rfl, k, x, rest, T, tk, by rw [e, e2, e3]; rfl, htr⟩)
          (fun vs m' nw' ⟨_, _, x, rest, T, tk, e, _⟩ => by subst e; exact (show 3 < 1000 by decide)) (fun vs m' nw' a ⟨e1, k, x, rest, T, tk, e, htr⟩ => by subst e; have k2 : Kp [] nw ((a, tupO [.ref x, .str (kindS false) tk, .ref sA] 0) :: nw') := k1.trans (k.trans Kp.cons); exact ⟨e1, k.trans Kp.cons, a, 0, tk, x, sA, sv, n3, rest, T, rfl, .head _, htr.keep Kp.cons, k2.get hsA, hsl.keep0 k2, hM.sperm, fun lr hl => (hM.sok lr hl).keepS (.of k2), hM.slen⟩)
    · rintro vs m' nw' ⟨_, _, v1, v2, rfl, _⟩
      exact (show 2 < 1000 by decide)
    · rintro vs m' nw' a ⟨e1, k, v1, v2, rfl, h1, h2⟩
      exact ⟨e1, k.trans Kp.cons, a, v1, v2, rfl, .head _, h1.keep0 Kp.cons, h2.keep0 Kp.cons⟩
  rintro v m1 nw1 ⟨e1, k1, tr, v1, v2, rfl, htr, hi1, hi2⟩
  have hTb1 := hTb.keep0 k1
  clear hmA hdA hsA hdl hsl hM nm1 nm2 nm3
  have nmt : upd m1 "trees" (.ref tr) "trees" = some (.ref tr) := rfl
  generalize upd m1 "trees" (.ref tr) = m2 at *
  refine sv_assign rfl rfl rfl (V := VI 0) ex_int fun v ⟨t0, hv⟩ => ?_
  subst hv
  have nmt' : upd m2 "seen" (.int 0 t0) "trees" = some (.ref tr) := nmt
  have nms : upd m2 "seen" (.int 0 t0) "seen" = some (.int (0 : Nat) t0) := rfl
  generalize upd m2 "seen" (.int 0 t0) = m3 at *
  refine sx_forL [v1, v2] (n := 0) (P := fun v m' nw' => v = .ref tr ∧ m' = m3 ∧ nw' = nw1) (fun a i m' nw' => a = tr ∧ Kp [] nw1 nw' ∧ ∃ t, m' "seen" = some (.int (i : Nat) t)) (fun _ _ => False) M rfl rfl rfl (ex_local rfl rfl rfl nmt') ?_ ?_ ?_ (fun _ _ h => h.elim) ?_
  · rintro v m' nw' ⟨rfl, e1, rfl⟩
    rw [e1]
    exact ⟨tr, rfl, htr, rfl, Kp.refl, t0, nms⟩
  · rintro a i m' nw' ⟨rfl, k, _⟩
    exact k.get htr
  · rintro a i u m4 nw4 hu ⟨rfl, k4, ts, hs4⟩
    obtain ⟨dk, lrs, hit⟩ : ∃ dk lrs, ItemAt prog w fl nw4 u dk lrs := by
      match i, hu with
      | 0, hu => exact ⟨true, dl, by have h : v1 = u := Option.some.inj hu; rw [← h]; exact hi1.keep0 k4⟩
      | 1, hu => exact ⟨false, sl, by have h : v2 = u := Option.some.inj hu; rw [← h]; exact hi2.keep0 k4⟩
      | n + 2, hu => simp at hu
    obtain ⟨ia, n, tk, x, tA, lvs, ln, rest, T, rfl, hia, htr', htA, hlrs, hperm, hok, hfew⟩ := hit
    obtain ⟨nd0, hnd0, hp0, hx0, hpar0, hC0, hroot⟩ := htr'.rootAt
    have ok0 := htr'.ok nd0 hnd0
    have N0 := ok0.node.keep0 htr'.lay.kp
    rw [hx0, hpar0] at N0
    have s5 : upd m4 "item" (.ref ia) "seen" = some (.int (i : Nat) ts) := hs4
    have i5 : upd m4 "item" (.ref ia) "item" = some (.ref ia) := rfl
    generalize upd m4 "item" (.ref ia) = m5 at *
    refine sv_assign rfl rfl rfl (V := (· = .ref x)) (ev_item (i := 0) (ex_local rfl rfl rfl i5) hia rfl (by decide)) fun v hv => ?_
    subst hv
    have s6 : upd m5 "tree" (.ref x) "seen" = some (.int (i : Nat) ts) := s5
    have i6 : upd m5 "tree" (.ref x) "item" = some (.ref ia) := i5
    have t6 : upd m5 "tree" (.ref x) "tree" = some (.ref x) := rfl
    generalize upd m5 "tree" (.ref x) = m6 at *
    refine sx_assign rfl rfl rfl (P := Kt m6 nw4 fun v nw' => ∃ fa ws ps n, v = .ref fa ∧ (fa, listOf ws.toArray n) ∈ nw' ∧ PathsAt nw' ws ps ∧ FrontsOf lrs 0 [] ps) (ex_callK M (ex_global M rfl rfl rfl kg_law_fronts) kk_law_fronts (arg1 (V := (· = .ref tA)) (ev_item (i := 2) (ex_local rfl rfl rfl i6) hia rfl (by decide))) fun vs m' nw' ⟨v, e1, e2, e3, e4⟩ => by
      subst e1; subst e2; rw [e3, e4]
      exact run_call (t_fronts htA hlrs hfew fun lr hl => (hok lr hl).l) M (by omega) fun v nw' ⟨fa, ws, ps, n, e, h1, h2, h3, k⟩ => ⟨rfl, k, fa, ws, ps, n, e, h1, h2, h3⟩) ?_
    rintro v m7 nw7 ⟨e7, k7, fA, ws, ps, nf, rfl, hfA, hps, hF⟩
    subst e7
    have s8 : upd m7 "fronts" (.ref fA) "seen" = some (.int (i : Nat) ts) := s6
    have i8 : upd m7 "fronts" (.ref fA) "item" = some (.ref ia) := i6
    have t8 : upd m7 "fronts" (.ref fA) "tree" = some (.ref x) := t6
    have f8 : upd m7 "fronts" (.ref fA) "fronts" = some (.ref fA) := rfl
    generalize upd m7 "fronts" (.ref fA) = m8 at *
    have htr7 := htr'.keep k7
    have N7 := N0.keep0 k7
    have hS : ∀ p, p ∈ ps ↔ Sall dk fl p := fronts_S hperm hok hF
    have h5 : ∀ nd ∈ T, nd.p.length ≤ 5 := fun nd hnd => (S_len hperm hok ((htr'.sh.all _).mpr ⟨nd, hnd, rfl⟩)).1
    have hzz : ¬ ∃ nd ∈ T, nd.p = [Key.y] := fun ⟨nd, hnd, e⟩ => (S_len hperm hok ((htr'.sh.all _).mpr ⟨nd, hnd, rfl⟩)).2 (by rw [e]; simp)
    refine sv_if (B := (· = false)) (tv_or (or_cons (B := (· = false)) (tv_op (V := (· = .none)) (V' := (· = .none)) (ev_at (ex_local rfl rfl rfl t8) (nd_par M ok0.ty.nc N7 rfl)) ex_none fun a b ha hb => by
        subst ha; subst hb; exact rv_isnot_none (.inl rfl)) (fun h => absurd h (by decide)) fun _ =>
      or_cons (B := (· = false)) (tv_op (V := (· = .none)) (V' := (· = .none)) (ev_fetch_no M (by omega) htr7 (q := [Key.y]) (by decide) hzz (ex_local rfl rfl rfl t8) (ex_path1 (k := .y) (fun _ => rfl))) ex_none fun a b ha hb => by
        subst ha; subst hb; exact rv_isnot_none (.inl rfl)) (fun h => absurd h (by decide)) fun _ => or_nil ⟨rfl, rfl, rfl⟩)) (fun h => absurd h (by decide)) (fun _ => sx_nil ?_)
    have lws := hps.length
    have hl5 := fronts_len (P := w.params) hok hfew hF
    refine sv_if (B := (· = false)) (tv_op (V := VI ps.length) (V' := VI ws.length) (Run.drop (P := fun v m' nw' => VI ps.length v ∧ m' = m8 ∧ Kp [] nw7 nw') (ex_callK (P := fun vs m' nw' => m' = m8 ∧ Kp [] nw7 nw' ∧ ∃ pp, vs = [.ref x, .ref x, .ref pp, .str (kindS dk) tk, .ref tA, .ref fA] ∧ PathAt nw' pp []) M (ex_global M rfl rfl rfl kg_law_walk) kk_law_walk
      (args_ev (V := (· = .ref x)) (ex_local rfl rfl rfl t8) fun v1 e1 => args_ev (V := (· = .ref x)) (ex_local rfl rfl rfl t8) fun v2 e2 => args_kt (V := fun v nw' => ∃ pp, v = .ref pp ∧ PathAt nw' pp []) (ex_tuple (P := fun vs m' nw' => vs = [] ∧ m' = m8 ∧ nw' = nw7) (args_nil ⟨rfl, rfl, rfl⟩) (fun vs m' nw' ⟨e, _⟩ => by subst e; exact (show 0 < 1000 by decide)) fun vs m' nw' a ⟨e, e1, e2⟩ => by subst e; rw [e2]; exact ⟨e1, Kp.cons, a, rfl, [], 0, .head _, rfl⟩) fun v3 nw' k ⟨pp, e3, hpp⟩ =>
        args_ev (V := (· = .str (kindS dk) tk)) (ev_item (i := 1) (ex_local rfl rfl rfl i8) (k.get (k7.get hia)) rfl (by decide)) fun v4 e4 => args_ev (V := (· = .ref tA)) (ev_item (i := 2) (ex_local rfl rfl rfl i8) (k.get (k7.get hia)) rfl (by decide)) fun v5 e5 => args_ev (V := (· = .ref fA)) (ex_local rfl rfl rfl f8) fun v6 e6 => args_nil ⟨rfl, k, pp, by rw [e1, e2, e3, e4, e5, e6], hpp⟩)
      (fun vs m' nw' ⟨e1, k, pp, e2, hpp⟩ => by
        subst e2; rw [e1]
        exact Run.mono (run_fp M (t_walk_root h5 (htr7.keep k) ⟨k.get (k7.get htA), hlrs.keep0 (k7.trans k), k.get hfA, hps.mono fun x p h => h.keep0 k, fun p hp => (hS p).mpr hp, hperm, fun lr hl => ⟨(hok lr hl).p, (hok lr hl).c, (hok lr hl).f.keepS (.of (k7.trans k)), (hok lr hl).d⟩, hfew⟩ hpp hF.1 (fun p hp => (hS p).mp hp)) (by omega)) fun v m'' nw'' ⟨h, e1, e2⟩ => ⟨h, e1, by rw [e2]; exact k⟩)) fun _ _ _ h => h)
      (ev_call1 (V := (· = .ref fA)) (ex_builtin M rfl rfl rfl rfl kb_len rfl (by decide)) (ex_local rfl rfl rfl f8) fun v hv => by subst hv; exact rv_len_list hfA (by omega)) fun a b ⟨t, ha⟩ ⟨u, hb⟩ => by
        subst ha; subst hb; exact Run.mono rv_ne_int fun v m' nw' ⟨e, e1⟩ => ⟨by rw [e, lws]; simp, e1⟩) (fun h => absurd h (by decide)) (fun _ => sx_nil ?_)
    refine sx_aug (P := Is (VI 1) m8 nw7) rfl rfl rfl s8 ex_int fun v m' nw' ⟨⟨t, e1⟩, e2, e3⟩ => ?_
    subst e1; rw [e2, e3]
    refine Run.mono rv_iadd fun v m' nw' ⟨⟨t9, e1⟩, e2, e3⟩ => ?_
    subst e1; rw [e2, e3]
    refine sx_nil ⟨rfl, k4.trans k7, t9, ?_⟩
    show some (Value.int _ t9) = _
    rw [Int.natCast_add, Int.natCast_one]
  · rintro a m4 nw4 ⟨rfl, k4, ts, hs4⟩
    refine sv_ret (V := (· = .bool true)) (ev_op (V := VI 2) (V' := VI 2) (ev_mono (ex_local rfl rfl rfl hs4) fun v e => ⟨ts, e⟩) ex_int fun a b ⟨t, ha⟩ ⟨u, hb⟩ => by subst ha; subst hb; exact run_eq_int ⟨rfl, rfl, rfl⟩) fun v hv => ⟨by rw [hv], hTb1.keep0 k4⟩
end
end Mine

-- LA3
open PySem PySem.W PySem.Calls PyProof.Rows
set_option maxRecDepth 100000
set_option linter.unusedVariables false
namespace Mine
theorem kk_258 {P : Params} : keepIn (KH P) (.ref 258) = true := by kernel_rfl
theorem ne253 {nw : Led} {a : Addr} {o : Obj} (hn : (nw.map (·.1)).Nodup) (hT : TabAt' nw) (h : (a, o) ∈ nw) (hd : ∀ vs, o.data ≠ .fields vs) : a ≠ 253 := fun e => by
  obtain ⟨op, ps, h1, h2, _⟩ := hT
  rw [e] at h
  rw [mem_uniq hn h h1] at hd
  exact hd _ h2
theorem Ks.of253 {nw nw' : Led} (hn : (nw.map (·.1)).Nodup) (hT : TabAt' nw) (k : Kp [253] nw nw') : Ks nw nw' := fun p hp hs => k p hp fun hm => ne253 hn hT (show (p.1, p.2) ∈ nw from hp) hs.2 (List.mem_singleton.mp hm)
theorem get253 {nw nw' : Led} (hn : (nw.map (·.1)).Nodup) (hT : TabAt' nw) (k : Kp [253] nw nw') {a : Addr} {o : Obj} (h : (a, o) ∈ nw) (hd : ∀ vs, o.data ≠ .fields vs) : (a, o) ∈ nw' := k _ h fun hm => ne253 hn hT h hd (List.mem_singleton.mp hm)
def Pre7 (w : World) (h₀ : Heap) (m : Loc) (nw : Led) : Prop := ∃ ta tvs mA dA sA n1 n2 n3 fl dl sl dv sv,
  m "table" = some (.ref ta) ∧ (ta, listOf tvs.toArray 0) ∈ nw ∧ RowsAt nw tvs rows ∧ TabAt' nw ∧
  m "made" = some (.ref mA) ∧ m "by_document" = some (.ref dA) ∧ m "by_schema" = some (.ref sA) ∧ (mA, listOf (refs (fl.map (·.1))).toArray n1) ∈ nw ∧ (dA, listOf dv.toArray n2) ∈ nw ∧ (sA, listOf sv.toArray n3) ∈ nw ∧ LrsAt nw dv dl ∧ LrsAt nw sv sl ∧ Made w.params nw 5 fl dl sl
structure N7 (m : Loc) (mA dA sA el : Addr) : Prop where
  made : m "made" = some (.ref mA)
  doc : m "by_document" = some (.ref dA)
  sch : m "by_schema" = some (.ref sA)
  listed : m "listed" = some (.ref el)
theorem any_codes (fs : List Fa) (c : Nat) : (fs.any fun f => f.code == c) = decide (c ∈ fs.map (·.code)) := by
  induction fs with
  | nil => simp
  | cons f fs ih =>
    rw [List.any_cons, ih, List.map_cons]
    by_cases h : f.code = c
    · subst h; simp
    · simp [h, Ne.symm h]
theorem law7 : LawAt 7 Pre7 := by
  refine LawAt.of fun w => ⟨_, _, _, _, _, _, _, _, _, _, _, _, _, _, _, by with_unfolding_all exact rfl, fun ho => ?_⟩
  intro prog mg mb r A h₀ L fa cd m nw HP hr M HT hpre
  obtain ⟨ta, tvs, mA, dA, sA, n1, n2, n3, fl, dl, sl, dv, sv, nmt, hta, hrows, hT, nm1, nm2, nm3, hmA, hdA, hsA, hdl, hsl, hM⟩ := hpre
  have hlf : fl.length = 5 := hM.len
  have hfs : ∀ f ∈ fl.map (·.1), FaOk nw f := fun f hf => by
    obtain ⟨p, hp, rfl⟩ := List.mem_map.mp hf
    exact (hM.ok p hp).1.f
  have lfs : (refs (fl.map (·.1))).length = 5 := by simp [refs, hlf]
  generalize hfs' : fl.map (·.1) = fs at *
  dsimp only [List.drop]
  refine sx_assign rfl rfl rfl (P := Kt m nw fun v nw' => ∃ el de k, v = .ref el ∧ (el, elObj de (refs fs) k) ∈ nw' ∧ (de, dictOf [] 0) ∈ nw') (ex_callK M (ex_global M rfl rfl rfl kg_ErrorList) kk_ErrorList (arg1 (V := (· = .ref mA)) (ex_local rfl rfl rfl nm1)) fun vs m' nw' ⟨v, e1, e2, e3, e4⟩ => by
    subst e1; subst e2; rw [e3, e4]
    exact run_EL1 M hmA (by omega) fun x dx n _ _ _ => ⟨rfl, fun p hp _ => .tail _ (.tail _ hp), x, dx, n, rfl, .head _, .tail _ (.head _)⟩) ?_
  rintro v m1 nw1 ⟨e1, k1, el, de, ke, rfl, hel, hde⟩
  subst e1
  have W1 : N7 (upd m1 "listed" (.ref el)) mA dA sA el := ⟨nm1, nm2, nm3, rfl⟩
  have nmt1 : upd m1 "listed" (.ref el) "table" = some (.ref ta) := nmt
  generalize upd m1 "listed" (.ref el) = m2 at *
  have hT1 := hT.keep0 k1
  have hta1 := k1.get hta
  have hmA1 := k1.get hmA
  have hdA1 := k1.get hdA
  have hsA1 := k1.get hsA
  have hrows1 := hrows.keep0 k1
  have hfs1 : ∀ f ∈ fs, FaOk nw1 f := fun f hf => (hfs f hf).keep0 k1
  have hdl1 := hdl.keep0 k1
  have hsl1 := hsl.keep0 k1
  have hM1 := hM.keepS (.of k1)
  clear hT hta hmA hdA hsA hrows hfs hdl hsl hM nm1 nm2 nm3 nmt k1
  refine Run.nodup fun hn => ?_
  refine sx_forL tvs (n := 0) (P := fun v m' nw' => v = .ref ta ∧ N7 m' mA dA sA el ∧ nw' = nw1) (fun a i m' nw' => a = ta ∧ N7 m' mA dA sA el ∧ Kp [253] nw1 nw' ∧ TabAt' nw') (fun _ _ => False) M rfl rfl rfl (Run.mono (ex_local (v := .ref ta) rfl rfl rfl nmt1) fun v m' nw' ⟨e1, e2, e3⟩ => ⟨e1, by rw [e2]; exact W1, e3⟩) ?_ ?_ ?_ (fun _ _ h => h.elim) ?_
  · rintro v m' nw' ⟨rfl, W, rfl⟩
    exact ⟨ta, rfl, hta1, rfl, W, Kp.refl, hT1⟩
  · rintro a i m' nw' ⟨rfl, _, k, _⟩
    exact get253 hn hT1 k hta1 fun vs q => by cases q
  · rintro a i u m3 nw3 hu ⟨rfl, W3, k3, hT3⟩
    obtain ⟨x, hx, hra⟩ := hrows1.get hu
    obtain ⟨b, nb, cv, rv, rfl, hb, ⟨tc, rfl⟩, hrv⟩ := hra
    have D := rows_def (P := w.params) x (List.mem_of_getElem? hx)
    have K3 := Ks.of253 hn hT1 k3
    have hb3 := K3 _ hb soft_tup
    have hel3 := K3 _ hel soft_el
    have hde3 := K3 _ hde soft_dict
    have hmA3 := get253 hn hT1 k3 hmA1 fun vs q => by cases q
    have hfs3 : ∀ f ∈ fs, FaOk nw3 f := fun f hf => (hfs1 f hf).keepS K3
    have W4 : N7 (upd m3 "row" (.ref b)) mA dA sA el := ⟨W3.made, W3.doc, W3.sch, W3.listed⟩
    have hrow : upd m3 "row" (.ref b) "row" = some (.ref b) := rfl
    generalize upd m3 "row" (.ref b) = m4 at *
    refine Run.nodup fun hn3 => ?_
    refine sx_if (P := fun b' m' nw' => b' = false ∧ m' = m4 ∧ Kp [253] nw3 nw' ∧ TabAt' nw')
      (tx_cmp (P := fun v m' nw' => v = .bool (fs.any fun f => f.code == x.2.1) ∧ m' = m4 ∧ Kp [253] nw3 nw' ∧ TabAt' nw') (P2 := fun v v' m' nw' => v = .bool (fs.any fun f => f.code == x.2.1) ∧ v' = .bool (decide (x.2.1 ∈ fs.map (·.code))) ∧ m' = m4 ∧ Kp [253] nw3 nw' ∧ TabAt' nw') (P3 := fun c m' nw' => c = .bool false ∧ m' = m4 ∧ Kp [253] nw3 nw' ∧ TabAt' nw') ?_ ?_ ?_ ?_) ?_ ?_
    · exact ev_methK (ex_local rfl rfl rfl W4.listed) (el_method M hel3 hde3 kf_el_holds kf_fn_holds (.inr rfl) ⟨rfl, rfl, rfl⟩) (cw_K M kk_258 (arg1 (V := (· = .ref x.1)) (ev_item (i := 0) (ex_local rfl rfl rfl hrow) hb3 rfl (by decide))) fun vs m' nw' ⟨v, e1, e2, e3, e4⟩ => by
        subst e1; subst e2; rw [e3, e4]
        exact run_call (t_holds hel3 hfs3 D hT3) M (by omega) fun v nw' ⟨h1, h2, h3⟩ => ⟨h1, rfl, h2, h3⟩)
    · rintro v m' nw' ⟨e1, e2, k5, hT5⟩
      rw [e2]
      have K5 := Ks.of253 hn3 hT3 k5
      have hb5 := K5 _ hb3 soft_tup
      have hmA5 := get253 hn3 hT3 k5 hmA3 fun vs q => by cases q
      have hfs5 : ∀ f ∈ fs, FaOk nw' f := fun f hf => (hfs3 f hf).keepS K5
      refine Run.mono (P := Is (· = .bool (decide (x.2.1 ∈ fs.map (·.code)))) m4 nw') (ek_cmp (V := fun v _ => v = .int x.2.1 tc) (V' := fun v v' nw' => v = .int x.2.1 tc ∧ ∃ D us, v' = .ref D ∧ (D, LCg.lst us) ∈ nw' ∧ Cs us (fs.map (·.code))) (Ev.kt (ev_item (i := 1) (ex_local rfl rfl rfl hrow) hb5 rfl (by decide))) ?_ ?_) fun v' m'' nw'' ⟨e, e', e''⟩ => ⟨e1, e, e', by rw [e'']; exact k5, by rw [e'']; exact hT5⟩
      · rintro v nw6 k6 hv
        refine ex_compL (cl := []) (a := mA) (items := refs fs) (n := n1) (fun i us => Cs us ((fs.take i).map (·.code))) M rfl (by decide) rfl (by decide) rfl (ex_local rfl rfl rfl W4.made) (k6.get hmA5) (by omega) .nil ?_ ?_
        · intro i u C oK m₂ D us hu hNs hm hJ
          obtain ⟨f, hf, rfl⟩ : ∃ f, fs[i]? = some f ∧ u = .ref f.x := by
            unfold refs at hu
            rw [List.getElem?_map, Option.map_eq_some_iff] at hu
            obtain ⟨f, h1, h2⟩ := hu
            exact ⟨f, h1, h2.symm⟩
          have V := ((hfs5 f (List.mem_of_getElem? hf)).keep0 k6).keep0 (Kp.cons.trans Kp.cons : Kp [] nw6 ((C, oK) :: (D, LCg.lst us) :: nw6))
          refine tests_nil ⟨⟨rfl, rfl⟩, fun _ => ev_mono (ev_at (ex_local2 (.head _) hNs rfl rfl rfl hm) (ve_code M V)) fun y ⟨t, hy⟩ => ?_, fun h => absurd h (by decide)⟩
          rw [hy, List.take_add_one, hf, List.map_append]
          exact hJ.snoc t
        · intro D us hJ hD
          rw [show (refs fs).length = fs.length by simp [refs], List.take_length] at hJ
          exact ⟨rfl, Kp.cons, hv, D, us, rfl, .head _, hJ⟩
      · rintro v v' nw6 k6 ⟨e, D, us, e', h1, h2⟩
        subst e; subst e'
        exact Run.mono (rv_code_in h1 h2) fun c m' nw2 ⟨e, e1, e2⟩ => ⟨e1, by rw [e2]; exact Kp.refl, e⟩
    · rintro v v' m' nw' ⟨e1, e2, e3, k5, hT5⟩
      subst e1; subst e2; rw [e3]
      exact Run.mono rv_isnot_bool fun c m'' nw'' ⟨e, e', e''⟩ => ⟨by rw [e, any_codes]; simp, e', by rw [e'']; exact k5, by rw [e'']; exact hT5⟩
    · rintro c m' nw' ⟨e, e', k5, hT5⟩
      subst e; rw [e']
      exact run_truthy_bool ⟨rfl, rfl, k5, hT5⟩
    · rintro m' nw' ⟨e, _⟩
      cases e
    · rintro m' nw' ⟨_, e', k5, hT5⟩
      rw [e']
      exact sx_nil (sx_nil ⟨rfl, W4, k3.trans k5, hT5⟩)
  · rintro a m3 nw3 ⟨rfl, W3, k3, hT3⟩
    have K3 := Ks.of253 hn hT1 k3
    have hel3 := K3 _ hel soft_el
    have hde3 := K3 _ hde soft_dict
    obtain ⟨A₀, base, fe, HB, HA, Hf, Hk⟩ := HT
    obtain ⟨r4, rfl⟩ : ∃ r4, r = r4 + 4 := ⟨r - 4, by omega⟩
    refine sv_if (B := (· = false)) (tv_or (or_cons (B := (· = false)) (tv_not (tv_is (x := true) (ex_callK M (ex_global M rfl rfl rfl kg_law_refuses) kk_law_refuses (arg2 (V := (· = .ref el)) (V' := VI 66) (ex_local rfl rfl rfl W3.listed) ex_int) fun vs m' nw' ⟨v, v', e1, e2, ⟨t, e3⟩, e4, e5⟩ => by
        subst e1; subst e2; subst e3; rw [e4, e5]
        exact run_refuses M HB HA Hf Hk hel3 hde3 (.inl ⟨66, t, rfl⟩))) fun b hb => by subst hb; rfl) (fun h => absurd h (by decide)) fun _ =>
      or_cons (B := (· = false)) (tv_not (tv_is (x := true) (ex_callK M (ex_global M rfl rfl rfl kg_law_refuses) kk_law_refuses (arg2 (V := (· = .ref el)) (V' := VS "min") (ex_local rfl rfl rfl W3.listed) ex_str) fun vs m' nw' ⟨v, v', e1, e2, ⟨t, e3⟩, e4, e5⟩ => by
        subst e1; subst e2; subst e3; rw [e4, e5]
        exact run_refuses M HB HA Hf Hk hel3 hde3 (.inr ⟨"min", t, rfl⟩))) fun b hb => by subst hb; rfl) (fun h => absurd h (by decide)) fun _ => or_nil ⟨rfl, rfl, rfl⟩)) (fun h => absurd h (by decide)) (fun _ => sx_nil ?_)
    have hd := fun {a : Addr} {vs : List Value} {n : Nat} (h : (a, listOf vs.toArray n) ∈ nw1) => get253 hn hT1 k3 h fun vs q => by cases q
    exact law10 w _ _ _ _ _ _ _ _ _ _ _ _ _ _ _ ho prog mg mb _ A h₀ L fa cd m3 nw3 HP hr M ⟨A₀, base, fe, HB, HA, Hf, Hk⟩ ⟨mA, dA, sA, n1, n2, n3, fl, dl, sl, dv, sv, W3.made, W3.doc, W3.sch, by rw [hfs']; exact hd hmA1, hd hdA1, hd hsA1, hdl1.keepS K3, hsl1.keepS K3, hM1.keepS K3, hT3⟩
end Mine

-- LA4
open PySem PySem.W PySem.Calls PyProof.Rows
set_option maxRecDepth 100000
set_option linter.unusedVariables false
namespace Mine
structure Base (nw : Led) (na ta : Addr) (nums tvs : List Value) : Prop where
  na : (na, LCg.lst nums) ∈ nw
  ta : (ta, listOf tvs.toArray 0) ∈ nw
  rows : RowsAt nw tvs rows
  T : TabAt' nw
theorem Base.keep0 {nw nw' na ta nums tvs} (h : Base nw na ta nums tvs) (k : Kp [] nw nw') : Base nw' na ta nums tvs := ⟨k.get h.na, k.get h.ta, h.rows.keep0 k, h.T.keep0 k⟩
theorem TabAt'.setL {nw : Led} {a : Addr} {vs : Array Value} {n : Nat} {o' : Obj} (hn : (nw.map (·.1)).Nodup) (hT : TabAt' nw) (ha : (a, listOf vs n) ∈ nw) : TabAt' (Mine.setL nw a o') := by
  have h := ne253 hn hT ha fun vs q => by cases q
  obtain ⟨op, ps, h1, h2, h3⟩ := hT
  exact ⟨op, ps, mem_setL_ne h1 fun e => h e.symm, h2, h3⟩
theorem Base.setL {nw na ta nums tvs} {a : Addr} {vs : Array Value} {n : Nat} {o' : Obj} (h : Base nw na ta nums tvs) (hn : (nw.map (·.1)).Nodup) (ha : (a, listOf vs n) ∈ nw) (h1 : a ≠ na) (h2 : a ≠ ta) : Base (Mine.setL nw a o') na ta nums tvs :=
  ⟨mem_setL_ne h.na (Ne.symm h1), mem_setL_ne h.ta (Ne.symm h2), h.rows.keepS (Ks.setL hn ha hard_list), h.T.setL hn ha⟩
def Lists (nw : Led) (mA dA sA : Addr) (mv dv sv : List Value) : Prop := ∃ n1 n2 n3, (mA, listOf mv.toArray n1) ∈ nw ∧ (dA, listOf dv.toArray n2) ∈ nw ∧ (sA, listOf sv.toArray n3) ∈ nw
theorem Lists.keep0 {nw nw' mA dA sA mv dv sv} (h : Lists nw mA dA sA mv dv sv) (k : Kp [] nw nw') : Lists nw' mA dA sA mv dv sv := let ⟨n1, n2, n3, a, b, c⟩ := h; ⟨n1, n2, n3, k.get a, k.get b, k.get c⟩
structure Apart (na ta mA dA sA : Addr) : Prop where
  mn : mA ≠ na
  mt : mA ≠ ta
  dn : dA ≠ na
  dt : dA ≠ ta
  sn : sA ≠ na
  st : sA ≠ ta
  md : mA ≠ dA
  ms : mA ≠ sA
  ds : dA ≠ sA
structure Nm (m : Loc) (na ta mA dA sA : Addr) : Prop where
  numbers : m "numbers" = some (.ref na)
  table : m "table" = some (.ref ta)
  made : m "made" = some (.ref mA)
  doc : m "by_document" = some (.ref dA)
  sch : m "by_schema" = some (.ref sA)
theorem Nm.upd {m : Loc} {na ta mA dA sA : Addr} {v : Value} {n : Str} (h : Nm m na ta mA dA sA) (hn : n ∉ (["numbers", "table", "made", "by_document", "by_schema"] : List Str)) : Nm (Mine.upd m n v) na ta mA dA sA := by
  have e : ∀ y : Str, y ∈ (["numbers", "table", "made", "by_document", "by_schema"] : List Str) → Mine.upd m n v y = m y := fun y hy => by
    unfold Mine.upd
    rw [if_neg]
    rintro rfl
    exact hn hy
  exact ⟨(e _ (by decide)).trans h.numbers, (e _ (by decide)).trans h.table, (e _ (by decide)).trans h.made, (e _ (by decide)).trans h.doc, (e _ (by decide)).trans h.sch⟩
section
variable {prog : Program} {w : World} {A : Around} {h₀ : Heap} {L : Addr} {m : Loc} {nw rest : Led} {mg mb : Loc} {r : Nat} {env : Env} {K : Frag}
theorem ex_newlist {pos : Pos} : Ex prog w A h₀ L env m nw (.List [] pos) (fun v m' nw' => m' = m ∧ ∃ a, v = .ref a ∧ a ∉ keys nw ∧ nw' = (a, listOf (List.toArray []) 0) :: nw) := by
  refine Run.mono (Run.nod (ex_list (P := fun vs m' nw' => vs = [] ∧ m' = m ∧ nw' = nw) (Q := fun v m' nw' => m' = m ∧ ∃ a, v = .ref a ∧ nw' = (a, listOf (List.toArray []) 0) :: nw) (args_nil ⟨rfl, rfl, rfl⟩) (fun vs m' nw' ⟨e, _⟩ => by subst e; exact (show 0 < 1000 by decide)) (fun vs m' nw' a ⟨e, e1, e2⟩ => ⟨e1, a, rfl, by rw [e, e2]⟩))) ?_
  rintro v m' nw'' ⟨⟨e1, a, e2, e3⟩, hn⟩
  refine ⟨e1, a, e2, ?_, e3⟩
  rw [e3] at hn
  have hn' : (a :: keys nw).Nodup := hn
  rw [List.nodup_cons] at hn'
  exact hn'.1
/-- x.append(e) -/
theorem sx_app {x : Str} {a : Addr} {vs : List Value} {n : Nat} {e : Expr} {p1 p2 p3 p4 : Pos} {rest : List Stmt} {R : Flow → Loc → Led → Prop} {V : Value → Led → Prop} (hl : env.locals = L) (hk : env.scope.kind = .function) (hx : env.kindOf x = some .local) (hm : m x = some (.ref a)) (ha : (a, listOf vs.toArray n) ∈ nw) (hz : vs.length < 1000)
    (he : Ex prog w A h₀ L env m nw e (Kt m nw V)) (k : ∀ v nw', Kp [] nw nw' → V v nw' → (nw'.map (·.1)).Nodup → Sx prog w A h₀ L env m (setL nw' a (listOf (vs ++ [v]).toArray (n + 1))) rest R)
    (hd : (x == ("__debug__" : Str)) = false := by decide)
    {pl : Sem Bool}
    (hev : eval (.Call (.Attribute (.Name x p1) "append" p2) [e] [] p3) env = (do
      let ov ← eval (.Name x p1) env
      standAt p2.atName
      let (f, first) ← holding [ov] (getMethod ov "append" pl)
      callWith p3 f first (backTo p3 (starEach [e] env)) (backToKw p3 (keywordEach [] env))) := by rfl)
    (hs : starEach [e] env = [(false, eval e env)] := by rfl)
    (hi : interactive env = false := by rfl) (hsw : swapsWith (.Call (.Attribute (.Name x p1) "append" p2) [e] [] p3) none p4.line env = pure false := by rfl) :
    Sx prog w A h₀ L env m nw (.Expr (.Call (.Attribute (.Name x p1) "append" p2) [e] [] p3) p4 :: rest) R := by
  refine sx_expr (P := fun v m' nw'' => v = .none ∧ m' = m ∧ ∃ u nw', Kp [] nw nw' ∧ V u nw' ∧ (nw'.map (·.1)).Nodup ∧ nw'' = setL nw' a (listOf (vs ++ [u]).toArray (n + 1)))
    (ev_methK (ex_local hl hk hx hm hd) (list_append_method ha ⟨rfl, rfl, rfl⟩) (cw_builtin (P := fun us m' nw' => m' = m ∧ Kp [] nw nw' ∧ ∃ u, us = [u] ∧ V u nw') (args_kt he (fun v nw' kp hv => args_nil ⟨rfl, kp, v, rfl, hv⟩) hs) (fun us m' nw' ⟨e1, kp, u, e2, hv⟩ => by
      subst e2; rw [e1]
      exact Run.nodup fun hn => run_append (kp.get ha) hz ⟨rfl, rfl, u, nw', kp, hv, hn, rfl⟩) hs rfl) hev) (fun v m' nw'' ⟨e, e1, u, nw', kp, hv, hn, e2⟩ => ⟨by rw [e]; rfl, by rw [e1, e2]; exact k u nw' kp hv hn⟩) hi hsw
/-- path + (key,) -/
theorem ex_cat1 {e : Expr} {s : Str} {k1 k2 : Nat} {p pos pos' : Pos} {k : Key} {a : Addr} {q : List Key} (hk : ∀ t, vkey (.str s t) = some k) (he : Ev prog w A h₀ L env m nw e (· = .ref a)) (hq : PathAt nw a q) (hz : q.length < 900)
    (hs : starEach [.Constant (.str s) k1 p] env = (false, eval (.Constant (.str s) k1 p) env) :: starEach [] env := by rfl) :
    Ex prog w A h₀ L env m nw (.BinOp e .Add (.Tuple [.Constant (.str s) k1 p] k2 pos) pos') (Kt m nw fun v nw' => ∃ b, v = .ref b ∧ PathAt nw' b (q ++ [k])) :=
  ex_binop (P := Is (· = .ref a) m nw) (P2 := fun a' b m' nw' => a' = .ref a ∧ m' = m ∧ Kp [] nw nw' ∧ ∃ pk, b = .ref pk ∧ PathAt nw' pk [k]) he (fun a' m' nw' ⟨e1, e2, e3⟩ => by
    subst e1; rw [e2, e3]
    exact Run.mono (ex_path1 hk hs) fun b m'' nw'' ⟨h1, h2, h3⟩ => ⟨rfl, h1, h2, h3⟩) (fun a' b m' nw' ⟨e1, e2, k', pk, e3, hpk⟩ => by
    subst e1; subst e3; rw [e2]
    exact run_cat (hq.keep0 k') hpk (by simp; omega) fun cc nw'' k'' h => ⟨rfl, k'.trans k'', cc, rfl, h⟩)
/-- path if path != () else (key,) -/
theorem ex_or_key {x s : Str} {k1 k2 k3 : Nat} {p1 p2 p3 p4 p5 p6 pos : Pos} {k : Key} {a : Addr} {q : List Key} (M : Fm K mg mb (r + 3) A h₀ L) (hk : ∀ t, vkey (.str s t) = some k) (hx1 : Ev prog w A h₀ L env m nw (.Name x p1) (· = .ref a)) (hx2 : Ev prog w A h₀ L env m nw (.Name x p2) (· = .ref a)) (hq : PathAt nw a q)
    (hs : starEach [.Constant (.str s) k1 p4] env = (false, eval (.Constant (.str s) k1 p4) env) :: starEach [] env := by rfl) :
    Ex prog w A h₀ L env m nw (.IfExp (.Compare (.Name x p1) [.NotEq] [.Tuple [] k3 p3] p5) (.Name x p2) (.Tuple [.Constant (.str s) k1 p4] k2 p6) pos) (Kt m nw fun v nw' => ∃ b, v = .ref b ∧ PathAt nw' b (if q = [] then [k] else q)) := by
  refine ex_ifexp (B := fun b => b = !decide (q = [])) (tk_cmp (V := fun v nw' => v = .ref a) (V' := fun v v' nw' => v = .ref a ∧ ∃ b, v' = .ref b ∧ PathAt nw' b []) hx1.kt ?_ ?_) (fun hb => ?_) (fun hb => ?_)
  · rintro v nw' k' hv
    exact ex_tuple (P := fun vs m' nw'' => vs = [] ∧ m' = m ∧ nw'' = nw') (args_nil ⟨rfl, rfl, rfl⟩) (fun vs m' nw' ⟨e, _⟩ => by subst e; exact (show 0 < 1000 by decide)) fun vs m' nw'' b ⟨e, e1, e2⟩ => by subst e; rw [e2]; exact ⟨e1, Kp.cons, hv, b, rfl, [], 0, .head _, rfl⟩
  · rintro v v' nw' k' ⟨e, b, e', hb⟩
    subst e; subst e'
    exact run_ne_path M (hq.keep0 k') hb ⟨rfl, Kp.refl, _, rfl, rfl⟩
  · have h : ¬ q = [] := by simpa using hb.symm
    rw [if_neg h]
    exact Run.mono hx2 fun v m' nw' ⟨e, e1, e2⟩ => ⟨e1, by rw [e2]; exact Kp.refl, a, e, by rw [e2]; exact hq⟩
  · have h : q = [] := by simpa using hb.symm
    rw [if_pos h]
    exact ex_path1 hk hs
end
end Mine

-- LA5
open PySem PySem.W PySem.Calls PyProof.Rows
set_option maxRecDepth 100000
set_option linter.unusedVariables false
namespace Mine
def Pre3 (w : World) (h₀ : Heap) (m : Loc) (nw : Led) : Prop := ∃ na ta nums tvs, m "numbers" = some (.ref na) ∧ m "table" = some (.ref ta) ∧ AllInt 15 nums ∧ Base nw na ta nums tvs ∧ na ≠ ta
def Body (P : Params) (nw : Led) (na ta mA dA sA : Addr) (nums tvs : List Value) (i : Nat) : Prop :=
  Base nw na ta nums tvs ∧ ∃ fl dl sl dv sv, Lists nw mA dA sA (refs (fl.map (·.1))) dv sv ∧ LrsAt nw dv dl ∧ LrsAt nw sv sl ∧ Made P nw i fl dl sl
/-- before the fault of a turn is laid in -/
structure Mid (P : Params) (m : Loc) (nw : Led) (na ta mA dA sA : Addr) (nums tvs : List Value) (i : Nat) (b : Addr) (c : Nat) (d : Addr) : Prop where
  nm : Nm m na ta mA dA sA
  base : Base nw na ta nums tvs
  row : m "row" = some (.ref b)
  b : ∃ nb tc rv, (b, tupO [.ref d, .int c tc, rv] nb) ∈ nw
  fault : ∃ f a1 a2 kid fl dl sl dv sv, m "at" = some (.ref a1) ∧ PathAt nw a1 f.doc ∧ m "by" = some (.ref a2) ∧ PathAt nw a2 f.sch ∧ m "fault" = some (.ref f.x) ∧ f.code = c ∧
    Lists nw mA dA sA (refs (fl.map (·.1))) dv sv ∧ LrsAt nw dv dl ∧ LrsAt nw sv sl ∧ fl.length = i ∧ Made P nw (i + 1) (fl ++ [(f, kid)]) (dl ++ [⟨f.doc, f.code, f, d⟩]) (sl ++ [⟨f.sch, f.code, f, d⟩])
theorem law3 : LawAt 3 Pre3 := by
  refine LawAt.of fun w => ⟨_, _, _, _, _, _, _, _, _, _, _, _, _, _, _, by with_unfolding_all exact rfl, fun ho => ?_⟩
  intro prog mg mb r A h₀ L fa cd m nw HP hr M HT hpre
  obtain ⟨na, ta, nums, tvs, nmn, nmt, hnums, hB, hnt⟩ := hpre
  dsimp only [List.drop]
  refine sx_assign rfl rfl rfl ex_newlist ?_
  rintro v m1 nw1 ⟨e1, mA, rfl, fm, rfl⟩
  subst e1
  refine sx_assign rfl rfl rfl ex_newlist ?_
  rintro v m2 nw2 ⟨rfl, dA, rfl, fd, rfl⟩
  refine sx_assign rfl rfl rfl ex_newlist ?_
  rintro v m3 nw3 ⟨rfl, sA, rfl, fs, rfl⟩
  have k3 : Kp [] nw ((sA, listOf (List.toArray []) 0) :: (dA, listOf (List.toArray []) 0) :: (mA, listOf (List.toArray []) 0) :: nw) := (Kp.cons.trans Kp.cons).trans Kp.cons
  have hap : Apart na ta mA dA sA := by
    have hna := keys_mem hB.na
    have hta := keys_mem hB.ta
    have fd' : dA ≠ mA ∧ dA ∉ keys nw := ⟨fun e => fd (by rw [e]; exact .head _), fun h => fd (.tail _ h)⟩
    have fs' : sA ≠ dA ∧ sA ≠ mA ∧ sA ∉ keys nw := ⟨fun e => fs (by rw [e]; exact .head _), fun e => fs (by rw [e]; exact .tail _ (.head _)), fun h => fs (.tail _ (.tail _ h))⟩
    exact ⟨fun e => fm (e ▸ hna), fun e => fm (e ▸ hta), fun e => fd'.2 (e ▸ hna), fun e => fd'.2 (e ▸ hta), fun e => fs'.2.2 (e ▸ hna), fun e => fs'.2.2 (e ▸ hta), fun e => fd'.1 e.symm, fun e => fs'.2.1 e.symm, fun e => fs'.1 e.symm⟩
  have hN : Nm (upd (upd (upd m1 "made" (.ref mA)) "by_document" (.ref dA)) "by_schema" (.ref sA)) na ta mA dA sA := ⟨nmn, nmt, rfl, rfl, rfl⟩
  have hB0 : Body w.params ((sA, listOf (List.toArray []) 0) :: (dA, listOf (List.toArray []) 0) :: (mA, listOf (List.toArray []) 0) :: nw) na ta mA dA sA nums tvs 0 :=
    ⟨hB.keep0 k3, [], [], [], [], [], ⟨0, 0, 0, .tail _ (.tail _ (.head _)), .tail _ (.head _), .head _⟩, LrsAt.nil, LrsAt.nil, Made.nil⟩
  clear nmn nmt hB k3 fm fd fs
  generalize upd (upd (upd m1 "made" (.ref mA)) "by_document" (.ref dA)) "by_schema" (.ref sA) = m4 at *
  generalize ((sA, listOf (List.toArray []) 0) :: (dA, listOf (List.toArray []) 0) :: (mA, listOf (List.toArray []) 0) :: nw) = nw4 at *
  refine sx_range (n := 5) (fun i m' nw' => Nm m' na ta mA dA sA ∧ Body w.params nw' na ta mA dA sA nums tvs i) (fun _ _ => False) M rfl rfl rfl rfl rfl rfl ex_int (by decide) ?_ ?_ (fun _ _ h => h.elim) ?_
  · intro nw' k
    obtain ⟨hB, fl, dl, sl, dv, sv, h1, h2, h3, h4⟩ := hB0
    exact ⟨hN, hB.keep0 k, fl, dl, sl, dv, sv, h1.keep0 k, h2.keep0 k, h3.keep0 k, h4.keepS (.of k)⟩
  · rintro i t m5 nw5 hi ⟨hN5, hB5⟩
    have W6 := hN5.upd (n := "i") (v := .int i t) (by decide)
    have i6 : upd m5 "i" (.int i t) "i" = some (.int i t) := rfl
    generalize upd m5 "i" (.int i t) = m6 at *
    have hnl : nums.length = 15 := hnums.len
    have getn : ∀ k, k < 15 → ∃ x tx, nums[k]? = some (.int x tx) := fun k hk => by
      obtain ⟨x, tx, e⟩ := hnums.all _ (List.getElem_mem (show k < nums.length by omega))
      exact ⟨x, tx, by rw [List.getElem?_eq_getElem (show k < nums.length by omega), e]⟩
    obtain ⟨x0, t0, hx0⟩ := getn i (by omega)
    obtain ⟨x1, t1, hx1⟩ := getn (5 + i) (by omega)
    obtain ⟨x2, t2, hx2⟩ := getn (10 + i) (by omega)
    obtain ⟨hB, fl, dl, sl, dv, sv, hLs, hdl, hsl, hM⟩ := hB5
    obtain ⟨j, hj⟩ : ∃ j : Nat, x0.fmod 39 = (j : Int) := ⟨(x0.fmod 39).toNat, by have := Int.fmod_nonneg_of_pos x0 (show (0 : Int) < 39 by decide); omega⟩
    have hj39 : j < 39 := by have := Int.fmod_lt_of_pos x0 (show (0 : Int) < 39 by decide); omega
    have htl : tvs.length = 39 := hB.rows.length
    obtain ⟨u, hu⟩ : ∃ u, tvs[j]? = some u := ⟨tvs[j], List.getElem?_eq_getElem (by omega)⟩
    obtain ⟨xr, hxr, hra⟩ := hB.rows.get hu
    obtain ⟨b, nb, cv, rv, rfl, hb, ⟨tc, rfl⟩, hrv⟩ := hra
    have hmem := List.mem_of_getElem? hxr
    have D := rows_def (P := w.params) xr hmem
    have hfct := (rows_facts xr hmem).1
    refine sv_assign rfl rfl rfl (V := (· = .ref b)) (ev_sub (V := (· = .ref ta)) (V' := VI j) (ex_local rfl rfl rfl W6.table) (ev_binop (V := (· = .int x0 t0)) (V' := VI 39) (ev_sub (V := (· = .ref na)) (V' := VI i) (ex_local rfl rfl rfl W6.numbers) (ev_mono (ex_local rfl rfl rfl i6) fun v e => ⟨t, e⟩) fun o k ho ⟨tk, hk⟩ => by
        subst ho; subst hk; exact run_item_list (items := nums) hB.na (by omega) (by omega) (by rw [Int.toNat_natCast]; exact hx0) ⟨rfl, rfl, rfl⟩) ex_int fun a c ha ⟨u, hc⟩ => by
        subst ha; subst hc; rw [← hj]; exact rv_mod (by decide)) fun o k ho ⟨tk, hk⟩ => by
      subst ho; subst hk; exact run_item_list (items := tvs) hB.ta (by omega) (by omega) (by rw [Int.toNat_natCast]; exact hu) ⟨rfl, rfl, rfl⟩) fun v hv => ?_
    subst hv
    have W7 := W6.upd (n := "row") (v := .ref b) (by decide)
    have i7 : upd m6 "row" (.ref b) "i" = some (.int i t) := i6
    have r7 : upd m6 "row" (.ref b) "row" = some (.ref b) := rfl
    clear i6 W6 hN5
    generalize upd m6 "row" (.ref b) = m7 at *
    refine sx_assign rfl rfl rfl (P := Kt m7 nw5 fun v nw' => ∃ a p, v = .ref a ∧ PathAt nw' a p ∧ p.length ≤ 3 ∧ Key.y ∉ p) (ex_callK M (ex_global M rfl rfl rfl kg_law_path) kk_law_path (arg1 (V := (· = .int x1 t1)) (ev_sub (V := (· = .ref na)) (V' := VI (5 + i : Nat)) (ex_local rfl rfl rfl W7.numbers) (ev_binop (V := VI 5) (V' := VI i) ex_int (ev_mono (ex_local rfl rfl rfl i7) fun v e => ⟨t, e⟩) fun a c ⟨ta, ha⟩ ⟨tb, hc⟩ => by
        subst ha; subst hc; rw [Int.natCast_add]; exact rv_add) fun o k ho ⟨tk, hk⟩ => by
        subst ho; subst hk; exact run_item_list (items := nums) hB.na (by omega) (by omega) (by rw [Int.toNat_natCast]; exact hx1) ⟨rfl, rfl, rfl⟩)) fun vs m' nw' ⟨v, e1, e2, e3, e4⟩ => by
      subst e1; subst e2; rw [e3, e4]
      exact run_call t_path M (by omega) fun v nw' ⟨a, p, e, h1, h2, h3, k⟩ => ⟨rfl, k, a, p, e, h1, h2, h3⟩) ?_
    rintro v m8 nw8 ⟨rfl, k8, a1, p1, rfl, hp1, lp1, yp1⟩
    have W8 := W7.upd (n := "at") (v := .ref a1) (by decide)
    have i8 : upd m8 "at" (.ref a1) "i" = some (.int i t) := i7
    have r8 : upd m8 "at" (.ref a1) "row" = some (.ref b) := r7
    have at8 : upd m8 "at" (.ref a1) "at" = some (.ref a1) := rfl
    clear i7 r7 W7
    generalize upd m8 "at" (.ref a1) = m9 at *
    refine sx_assign rfl rfl rfl (P := Kt m9 nw8 fun v nw' => ∃ a p, v = .ref a ∧ PathAt nw' a p ∧ p.length ≤ 3 ∧ Key.y ∉ p) (ex_callK M (ex_global M rfl rfl rfl kg_law_path) kk_law_path (arg1 (V := (· = .int x2 t2)) (ev_sub (V := (· = .ref na)) (V' := VI (10 + i : Nat)) (ex_local rfl rfl rfl W8.numbers) (ev_binop (V := VI 10) (V' := VI i) ex_int (ev_mono (ex_local rfl rfl rfl i8) fun v e => ⟨t, e⟩) fun a c ⟨ta, ha⟩ ⟨tb, hc⟩ => by
        subst ha; subst hc; rw [Int.natCast_add]; exact rv_add) fun o k ho ⟨tk, hk⟩ => by
        subst ho; subst hk; exact run_item_list (items := nums) (k8.get hB.na) (by omega) (by omega) (by rw [Int.toNat_natCast]; exact hx2) ⟨rfl, rfl, rfl⟩)) fun vs m' nw' ⟨v, e1, e2, e3, e4⟩ => by
      subst e1; subst e2; rw [e3, e4]
      exact run_call t_path M (by omega) fun v nw' ⟨a, p, e, h1, h2, h3, k⟩ => ⟨rfl, k, a, p, e, h1, h2, h3⟩) ?_
    rintro v m10 nw10 ⟨rfl, k10, a2, p2, rfl, hp2, lp2, yp2⟩
    have W10 := W8.upd (n := "by") (v := .ref a2) (by decide)
    have r10 : upd m10 "by" (.ref a2) "row" = some (.ref b) := r8
    have at10 : upd m10 "by" (.ref a2) "at" = some (.ref a1) := at8
    have by10 : upd m10 "by" (.ref a2) "by" = some (.ref a2) := rfl
    clear i8 r8 at8 W8
    generalize upd m10 "by" (.ref a2) = m11 at *
    have kk := k8.trans k10
    have hB := hB.keep0 kk
    have hLs := hLs.keep0 kk
    have hdl := hdl.keep0 kk
    have hsl := hsl.keep0 kk
    have hM := hM.keepS (.of kk)
    have hb := kk.get hb
    have hp1 := hp1.keep0 k10
    clear hu hx0 hx1 hx2 getn kk k8 k10
    refine sx_join (B := fun b' => b' = decide ((128 : Int) ≤ (xr.2.1 : Nat))) (J := fun m' nw' => Mid w.params m' nw' na ta mA dA sA nums tvs i b xr.2.1 xr.1) (tv_op (V := (· = .int xr.2.1 tc)) (V' := VI 128) (ev_item (i := 1) (ex_local rfl rfl rfl r10) hb rfl (by decide)) ex_int fun a c ha ⟨t, hc⟩ => by
        subst ha; subst hc; exact rv_ge) (fun hbb => ?_) (fun hbb => ?_) ?_
    · have hge : (128 : Int) ≤ (xr.2.1 : Nat) := by simpa using hbb.symm
      have hcode : ((xr.2.1 &&& 128 : Nat) : Int) ≠ 0 := by
        have h1 : decide (128 ≤ xr.2.1) = true := decide_eq_true (by omega)
        rw [h1] at hfct
        simpa using hfct
      obtain ⟨r3, rfl⟩ : ∃ r3, r = r3 + 3 := ⟨r - 3, by omega⟩
      refine sx_assign rfl rfl rfl (ex_or_key (k := .b) M (fun _ => rfl) (ex_local rfl rfl rfl at10) (ex_local rfl rfl rfl at10) hp1) ?_
      rintro v m12 nw12 ⟨rfl, k12, b1, rfl, hq1⟩
      have ne1 : (if p1 = [] then [Key.b] else p1) ≠ [] := by split <;> simp_all
      have ln1 : (if p1 = [] then [Key.b] else p1).length ≤ 3 := by split <;> simp_all
      have yn1 : Key.y ∉ (if p1 = [] then [Key.b] else p1) := by split <;> simp_all
      generalize (if p1 = [] then [Key.b] else p1) = q1 at *
      have W12 := W10.upd (n := "at") (v := .ref b1) (by decide)
      have r12 : upd m12 "at" (.ref b1) "row" = some (.ref b) := r10
      have by12 : upd m12 "at" (.ref b1) "by" = some (.ref a2) := by10
      have at12 : upd m12 "at" (.ref b1) "at" = some (.ref b1) := rfl
      clear r10 by10 at10 W10
      generalize upd m12 "at" (.ref b1) = m13 at *
      refine sx_assign rfl rfl rfl (ex_or_key (k := .a) M (fun _ => rfl) (ex_local rfl rfl rfl by12) (ex_local rfl rfl rfl by12) (hp2.keep0 k12)) ?_
      rintro v m14 nw14 ⟨rfl, k14, b2, rfl, hq2⟩
      have ne2 : (if p2 = [] then [Key.a] else p2) ≠ [] := by split <;> simp_all
      have ln2 : (if p2 = [] then [Key.a] else p2).length ≤ 3 := by split <;> simp_all
      have yn2 : Key.y ∉ (if p2 = [] then [Key.a] else p2) := by split <;> simp_all
      generalize (if p2 = [] then [Key.a] else p2) = q2 at *
      have W14 := W12.upd (n := "by") (v := .ref b2) (by decide)
      have r14 : upd m14 "by" (.ref b2) "row" = some (.ref b) := r12
      have at14 : upd m14 "by" (.ref b2) "at" = some (.ref b1) := at12
      have by14 : upd m14 "by" (.ref b2) "by" = some (.ref b2) := rfl
      clear r12 by12 at12 W12
      generalize upd m14 "by" (.ref b2) = m15 at *
      have kk := k12.trans k14
      have hB := hB.keep0 kk
      have hLs := hLs.keep0 kk
      have hdl := hdl.keep0 kk
      have hsl := hsl.keep0 kk
      have hM := hM.keepS (.of kk)
      have hb := kk.get hb
      have hq1 := hq1.keep0 k14
      clear kk k12 k14 hp1 hp2
      refine sx_assign rfl rfl rfl (P := Kt m15 nw14 fun v nw' => ∃ x info, v = .ref x ∧ VeAt nw' x (q1 ++ [.c]) (q2 ++ [.d]) 66 info) (ex_callK (P := fun vs m' nw' => m' = m15 ∧ Kp [] nw14 nw' ∧ ∃ c1 c2 t3 v4 v5 v6 info, vs = [.ref c1, .ref c2, .int (66 : Nat) t3, v4, v5, v6, .ref info] ∧ PathAt nw' c1 (q1 ++ [.c]) ∧ PathAt nw' c2 (q2 ++ [.d])) M (ex_global M rfl rfl rfl kg_ValidationError) kk_ValidationError
        (args_kt (ex_cat1 (k := .c) (fun _ => rfl) (ex_local rfl rfl rfl at14) hq1 (by omega)) fun v1 nwx kx ⟨c1, e1, h1⟩ => args_kt (ex_cat1 (k := .d) (fun _ => rfl) (ex_local rfl rfl rfl by14) (hq2.keep0 kx) (by omega)) fun v2 nwy ky ⟨c2, e2, h2⟩ => args_ev ex_int fun v3 ⟨t3, e3⟩ => args_ev ex_str fun v4 e4 => args_ev ex_int fun v5 e5 => args_ev ex_int fun v6 e6 =>
          args_kt (V := fun v nw' => ∃ info, v = .ref info) (ex_tuple (P := fun vs m' nw' => vs = [] ∧ m' = m15 ∧ nw' = nwy) (args_nil ⟨rfl, rfl, rfl⟩) (fun vs m' nw' ⟨e, _⟩ => by subst e; exact (show 0 < 1000 by decide)) fun vs m' nw' a ⟨e, e1, e2⟩ => by rw [e2]; exact ⟨e1, Kp.cons, a, rfl⟩) fun v7 nwz kz ⟨info, e7⟩ => args_nil ⟨rfl, (kx.trans ky).trans kz, c1, c2, t3, v4, v5, v6, info, by rw [e1, e2, e3, e7]; rfl, h1.keep0 (ky.trans kz), h2.keep0 kz⟩)
        (fun vs m' nw' ⟨e1, k, c1, c2, t3, v4, v5, v6, info, e2, h1, h2⟩ => by
          subst e2; rw [e1]
          exact run_ve M (by omega) h1 h2 (by simp; omega) (by simp; omega) fun x nw'' V k' _ => ⟨rfl, k.trans k', x, info, rfl, V⟩)) ?_
      rintro v m16 nw16 ⟨rfl, k16, xb, ib, rfl, Vb⟩
      have W16 := W14.upd (n := "below") (v := .ref xb) (by decide)
      have r16 : upd m16 "below" (.ref xb) "row" = some (.ref b) := r14
      have at16 : upd m16 "below" (.ref xb) "at" = some (.ref b1) := at14
      have by16 : upd m16 "below" (.ref xb) "by" = some (.ref b2) := by14
      have bl16 : upd m16 "below" (.ref xb) "below" = some (.ref xb) := rfl
      clear r14 at14 by14 W14
      generalize upd m16 "below" (.ref xb) = m17 at *
      have hB := hB.keep0 k16
      have hLs := hLs.keep0 k16
      have hdl := hdl.keep0 k16
      have hsl := hsl.keep0 k16
      have hM := hM.keepS (.of k16)
      have hb := k16.get hb
      have hq1 := hq1.keep0 k16
      have hq2 := hq2.keep0 k16
      clear k16
      refine sx_assign rfl rfl rfl (P := Kt m17 nw16 fun v nw' => ∃ x info el de k, v = .ref x ∧ VeAt nw' x q1 q2 xr.2.1 info ∧ (info, tupO [.ref el] 0) ∈ nw' ∧ (el, elObj de [.ref xb] k) ∈ nw' ∧ (de, dictOf [] 0) ∈ nw')
        (ex_callK (P := fun vs m' nw' => m' = m17 ∧ Kp [] nw16 nw' ∧ ∃ info el de k, vs = [.ref b1, .ref b2, .int xr.2.1 tc, rv, .none, .none, .ref info] ∧ (info, tupO [.ref el] 0) ∈ nw' ∧ (el, elObj de [.ref xb] k) ∈ nw' ∧ (de, dictOf [] 0) ∈ nw') M (ex_global M rfl rfl rfl kg_ValidationError) kk_ValidationError
        (args_ev (V := (· = .ref b1)) (ex_local rfl rfl rfl at16) fun v1 e1 => args_ev (V := (· = .ref b2)) (ex_local rfl rfl rfl by16) fun v2 e2 => args_ev (V := (· = .int xr.2.1 tc)) (ev_item (i := 1) (ex_local rfl rfl rfl r16) hb rfl (by decide)) fun v3 e3 => args_ev (V := (· = rv)) (ev_item (i := 2) (ex_local rfl rfl rfl r16) hb rfl (by decide)) fun v4 e4 => args_ev ex_none fun v5 e5 => args_ev ex_none fun v6 e6 =>
          args_kt (V := fun v nw' => ∃ info el de k, v = .ref info ∧ (info, tupO [.ref el] 0) ∈ nw' ∧ (el, elObj de [.ref xb] k) ∈ nw' ∧ (de, dictOf [] 0) ∈ nw')
            (ex_tuple (P := fun vs m' nw' => m' = m17 ∧ Kp [] nw16 nw' ∧ ∃ el de k, vs = [.ref el] ∧ (el, elObj de [.ref xb] k) ∈ nw' ∧ (de, dictOf [] 0) ∈ nw')
              (args_kt (V := fun v nw' => ∃ el de k, v = .ref el ∧ (el, elObj de [.ref xb] k) ∈ nw' ∧ (de, dictOf [] 0) ∈ nw')
                (ex_callK (P := fun vs m' nw' => m' = m17 ∧ Kp [] nw16 nw' ∧ ∃ l, vs = [.ref l] ∧ (l, listOf [Value.ref xb].toArray 0) ∈ nw') M (ex_global M rfl rfl rfl kg_ErrorList) kk_ErrorList
                  (args_kt (V := fun v nw' => ∃ l, v = .ref l ∧ (l, listOf [Value.ref xb].toArray 0) ∈ nw')
                    (ex_list (P := fun vs m' nw' => vs = [.ref xb] ∧ m' = m17 ∧ nw' = nw16) (args_ev (V := (· = .ref xb)) (ex_local rfl rfl rfl bl16) fun v e => args_nil ⟨by rw [e], rfl, rfl⟩) (fun vs m' nw' ⟨e, _⟩ => by subst e; exact (show 1 < 1000 by decide)) (fun vs m' nw' a ⟨e, e1, e2⟩ => by subst e; rw [e2]; exact ⟨e1, Kp.cons, a, rfl, .head _⟩))
                    fun v nw' k ⟨l, e, hl⟩ => args_nil ⟨rfl, k, l, by rw [e], hl⟩)
                  (fun vs m' nw' ⟨e1, k, l, e2, hl⟩ => by
                    subst e2; rw [e1]
                    exact run_EL1 M hl (show 1 < 1000 by decide) fun x dx n _ _ _ => ⟨rfl, k.trans (fun p hp _ => .tail _ (.tail _ hp)), x, dx, n, rfl, .head _, .tail _ (.head _)⟩))
                fun v nw' k ⟨el, de, kk, e, h1, h2⟩ => args_nil ⟨rfl, k, el, de, kk, by rw [e], h1, h2⟩)
              (fun vs m' nw' ⟨_, _, el, de, kk, e, _⟩ => by subst e; exact (show 1 < 1000 by decide)) (fun vs m' nw' a ⟨e1, k, el, de, kk, e, h1, h2⟩ => by subst e; exact ⟨e1, k.trans Kp.cons, a, el, de, kk, rfl, .head _, .tail _ h1, .tail _ h2⟩))
            fun v7 nw' k ⟨info, el, de, kk, e7, h1, h2, h3⟩ => args_nil ⟨rfl, k, info, el, de, kk, by rw [e1, e2, e3, e4, e5, e6, e7], h1, h2, h3⟩)
        (fun vs m' nw' ⟨e1, k, info, el, de, kk, e2, h1, h2, h3⟩ => by
          subst e2; rw [e1]
          exact run_ve M (by omega) (hq1.keep0 k) (hq2.keep0 k) (by omega) (by omega) fun x nw'' V k' _ => ⟨rfl, k.trans k', x, info, el, de, kk, rfl, V, k'.get h1, k'.get h2, k'.get h3⟩)) ?_
      rintro v m18 nw18 ⟨rfl, k18, xf, info, el, de, ke, rfl, V, hi1, hi2, hi3⟩
      have W18 := W16.upd (n := "fault") (v := .ref xf) (by decide)
      have r18 : upd m18 "fault" (.ref xf) "row" = some (.ref b) := r16
      have at18 : upd m18 "fault" (.ref xf) "at" = some (.ref b1) := at16
      have by18 : upd m18 "fault" (.ref xf) "by" = some (.ref b2) := by16
      have bl18 : upd m18 "fault" (.ref xf) "below" = some (.ref xb) := bl16
      have f18 : upd m18 "fault" (.ref xf) "fault" = some (.ref xf) := rfl
      clear r16 at16 by16 bl16 W16
      generalize upd m18 "fault" (.ref xf) = m19 at *
      have hB := hB.keep0 k18
      obtain ⟨n1, n2, n3, hmA, hdA, hsA⟩ := hLs.keep0 k18
      have hdl := hdl.keep0 k18
      have hsl := hsl.keep0 k18
      have hM := hM.keepS (.of k18)
      have hb := k18.get hb
      have hq1 := hq1.keep0 k18
      have hq2 := hq2.keep0 k18
      have Vb := Vb.keep0 k18
      clear k18 hLs
      have ldv := hdl.1
      have lsv := hsl.1
      have l1 := hM.dlen
      have l2 := hM.slen
      refine sx_app (V := fun v nw' => LrAt nw' v ⟨q1 ++ [.c], 66, ⟨xb, q1 ++ [.c], q2 ++ [.d], 66, ib⟩, 101⟩) rfl rfl rfl W18.doc hdA (by omega) (ex_tuple (P := fun vs m' nw' => m' = m19 ∧ Kp [] nw18 nw' ∧ ∃ c1 t3, vs = [.ref c1, .int (66 : Nat) t3, .ref xb, .ref 101] ∧ PathAt nw' c1 (q1 ++ [.c]))
        (args_kt (ex_cat1 (k := .c) (fun _ => rfl) (ex_local rfl rfl rfl at18) hq1 (by omega)) fun v1 nwx kx ⟨c1, e1, h1⟩ => args_ev ex_int fun v3 ⟨t3, e3⟩ => args_ev (V := (· = .ref xb)) (ex_local rfl rfl rfl bl18) fun v4 e4 => args_ev (ex_global M rfl rfl rfl kg_MIN_VALUE) fun v5 e5 => args_nil ⟨rfl, kx, c1, t3, by rw [e1, e3, e4, e5]; rfl, h1⟩)
        (fun vs m' nw' ⟨_, _, c1, t3, e, _⟩ => by subst e; exact (show 4 < 1000 by decide)) (fun vs m' nw' a ⟨e1, k, c1, t3, e, h⟩ => by subst e; exact ⟨e1, k.trans Kp.cons, a, 0, c1, _, rfl, .head _, h.keep0 Kp.cons, t3, rfl⟩)) fun v1 nwa ka hv1 hna => ?_
      have hdA := ka.get hdA
      have KA : Ks nw18 (setL nwa dA (listOf (dv ++ [v1]).toArray (n2 + 1))) := (Ks.of ka).trans (Ks.setL hna hdA hard_list)
      have hv1 := hv1.keepS (Ks.setL (o' := listOf (dv ++ [v1]).toArray (n2 + 1)) hna hdA hard_list)
      have hBa := (hB.keep0 ka).setL (o' := listOf (dv ++ [v1]).toArray (n2 + 1)) hna hdA hap.dn hap.dt
      have hmAa : (mA, listOf (refs (fl.map fun (q : Fk) => q.1)).toArray n1) ∈ setL nwa dA (listOf (dv ++ [v1]).toArray (n2 + 1)) := mem_setL_ne (ka.get hmA) fun e => hap.md e
      have hdAa : (dA, listOf (dv ++ [v1]).toArray (n2 + 1)) ∈ setL nwa dA (listOf (dv ++ [v1]).toArray (n2 + 1)) := mem_setL_self hdA
      have hsAa : (sA, listOf sv.toArray n3) ∈ setL nwa dA (listOf (dv ++ [v1]).toArray (n2 + 1)) := mem_setL_ne (ka.get hsA) fun e => hap.ds e.symm
      clear hmA hdA hsA hB hna ka
      generalize setL nwa dA (listOf (dv ++ [v1]).toArray (n2 + 1)) = nw20 at *
      have hq1 := hq1.keepS KA
      have hq2 := hq2.keepS KA
      refine sx_app (V := fun v nw' => LrAt nw' v ⟨q2 ++ [.d], 66, ⟨xb, q1 ++ [.c], q2 ++ [.d], 66, ib⟩, 101⟩) rfl rfl rfl W18.sch hsAa (by omega) (ex_tuple (P := fun vs m' nw' => m' = m19 ∧ Kp [] nw20 nw' ∧ ∃ c1 t3, vs = [.ref c1, .int (66 : Nat) t3, .ref xb, .ref 101] ∧ PathAt nw' c1 (q2 ++ [.d]))
        (args_kt (ex_cat1 (k := .d) (fun _ => rfl) (ex_local rfl rfl rfl by18) hq2 (by omega)) fun v1 nwx kx ⟨c1, e1, h1⟩ => args_ev ex_int fun v3 ⟨t3, e3⟩ => args_ev (V := (· = .ref xb)) (ex_local rfl rfl rfl bl18) fun v4 e4 => args_ev (ex_global M rfl rfl rfl kg_MIN_VALUE) fun v5 e5 => args_nil ⟨rfl, kx, c1, t3, by rw [e1, e3, e4, e5]; rfl, h1⟩)
        (fun vs m' nw' ⟨_, _, c1, t3, e, _⟩ => by subst e; exact (show 4 < 1000 by decide)) (fun vs m' nw' a ⟨e1, k, c1, t3, e, h⟩ => by subst e; exact ⟨e1, k.trans Kp.cons, a, 0, c1, _, rfl, .head _, h.keep0 Kp.cons, t3, rfl⟩)) fun v2 nwa ka hv2 hna => ?_
      have hsA := ka.get hsAa
      have KB : Ks nw20 (setL nwa sA (listOf (sv ++ [v2]).toArray (n3 + 1))) := (Ks.of ka).trans (Ks.setL hna hsA hard_list)
      have hv2 := hv2.keepS (Ks.setL (o' := listOf (sv ++ [v2]).toArray (n3 + 1)) hna hsA hard_list)
      have hBb := (hBa.keep0 ka).setL (o' := listOf (sv ++ [v2]).toArray (n3 + 1)) hna hsA hap.sn hap.st
      have KAB := KA.trans KB
      have hG := (hM.keepS KAB).group (f := ⟨xf, q1, q2, xr.2.1, info⟩) (c := ⟨xb, q1 ++ [.c], q2 ++ [.d], 66, ib⟩) (V.keepS KAB) (Vb.keepS KAB) ⟨hcode, el, de, 0, ke, 0, KAB _ hi1 soft_tup, KAB _ hi2 soft_el, KAB _ hi3 soft_dict, Vb.keepS KAB⟩ (show ((66 &&& 128 : Nat) : Int) = 0 by decide) D (rows_def (101, 66, some "min") (by decide)) ne1 ne2
        (Nat.le_trans ln1 (by decide)) (Nat.le_trans ln2 (by decide)) yn1 yn2 (by simp; omega) (by simp; omega) (by simp [yn1]) (by simp [yn2])
      refine sx_nil ⟨rfl, W18, hBb, r18, ⟨nb, tc, rv, KAB _ hb soft_tup⟩, ⟨xf, q1, q2, xr.2.1, info⟩, b1, b2, some ⟨xb, q1 ++ [.c], q2 ++ [.d], 66, ib⟩, fl, dl ++ [⟨q1 ++ [.c], 66, ⟨xb, q1 ++ [.c], q2 ++ [.d], 66, ib⟩, 101⟩], sl ++ [⟨q2 ++ [.d], 66, ⟨xb, q1 ++ [.c], q2 ++ [.d], 66, ib⟩, 101⟩], dv ++ [v1], sv ++ [v2],
        at18, hq1.keepS KB, by18, hq2.keepS KB, f18, rfl, ⟨n1, n2 + 1, n3 + 1, mem_setL_ne (ka.get hmAa) fun e => hap.ms e, mem_setL_ne (ka.get hdAa) fun e => hap.ds e, mem_setL_self hsA⟩, (hdl.keepS KAB).snoc (hv1.keepS KB), (hsl.keepS KAB).snoc hv2, hM.len, ?_⟩
      rw [List.append_assoc, List.append_assoc]
      exact hG
    · have hlt : ¬ (128 : Int) ≤ (xr.2.1 : Nat) := by simpa using hbb.symm
      have hcode : ((xr.2.1 &&& 128 : Nat) : Int) = 0 := by
        have h1 : decide (128 ≤ xr.2.1) = false := decide_eq_false (by omega)
        rw [h1] at hfct
        simpa using hfct
      refine sx_assign rfl rfl rfl (P := Kt m11 nw10 fun v nw' => ∃ x info, v = .ref x ∧ VeAt nw' x p1 p2 xr.2.1 info) (ex_callK (P := fun vs m' nw' => m' = m11 ∧ Kp [] nw10 nw' ∧ ∃ info, vs = [.ref a1, .ref a2, .int xr.2.1 tc, rv, .none, .none, .ref info]) M (ex_global M rfl rfl rfl kg_ValidationError) kk_ValidationError
        (args_ev (V := (· = .ref a1)) (ex_local rfl rfl rfl at10) fun v1 e1 => args_ev (V := (· = .ref a2)) (ex_local rfl rfl rfl by10) fun v2 e2 => args_ev (V := (· = .int xr.2.1 tc)) (ev_item (i := 1) (ex_local rfl rfl rfl r10) hb rfl (by decide)) fun v3 e3 => args_ev (V := (· = rv)) (ev_item (i := 2) (ex_local rfl rfl rfl r10) hb rfl (by decide)) fun v4 e4 => args_ev ex_none fun v5 e5 => args_ev ex_none fun v6 e6 =>
          args_kt (V := fun v nw' => ∃ info, v = .ref info) (ex_tuple (P := fun vs m' nw' => vs = [] ∧ m' = m11 ∧ nw' = nw10) (args_nil ⟨rfl, rfl, rfl⟩) (fun vs m' nw' ⟨e, _⟩ => by subst e; exact (show 0 < 1000 by decide)) fun vs m' nw' a ⟨e, e1, e2⟩ => by rw [e2]; exact ⟨e1, Kp.cons, a, rfl⟩) fun v7 nw' k ⟨info, e7⟩ => args_nil ⟨rfl, k, info, by rw [e1, e2, e3, e4, e5, e6, e7]⟩)
        (fun vs m' nw' ⟨e1, k, info, e2⟩ => by
          subst e2; rw [e1]
          exact run_ve M (by omega) (hp1.keep0 k) (hp2.keep0 k) (by omega) (by omega) fun x nw'' V k' _ => ⟨rfl, k.trans k', x, info, rfl, V⟩)) ?_
      rintro v m12 nw12 ⟨rfl, k12, x, info, rfl, V⟩
      exact sx_nil ⟨rfl, W10.upd (by decide), hB.keep0 k12, r10, ⟨nb, tc, rv, k12.get hb⟩, ⟨x, p1, p2, xr.2.1, info⟩, a1, a2, none, fl, dl, sl, dv, sv, at10, hp1.keep0 k12, by10, hp2.keep0 k12, rfl, rfl, hLs.keep0 k12, hdl.keep0 k12, hsl.keep0 k12, hM.len,
        (hM.keepS (.of k12)).plain (f := ⟨x, p1, p2, xr.2.1, info⟩) V hcode D (Nat.le_trans lp1 (by decide)) (Nat.le_trans lp2 (by decide)) yp1 yp2⟩
    · rintro m12 nw12 ⟨W12, hB12, r12, ⟨nb', tc', rv', hb12⟩, f, a1', a2', kid, fl', dl', sl', dv', sv', at12, hpa1, by12, hpa2, f12, hfc, ⟨n1, n2, n3, hmA, hdA, hsA⟩, hdl12, hsl12, hlen, hM12⟩
      have ldv := hdl12.1
      have lsv := hsl12.1
      have l1 := hM12.dlen
      have l2 := hM12.slen
      rw [List.length_append] at l1 l2
      refine sx_app (V := fun v _ => v = .ref f.x) rfl rfl rfl W12.made hmA (by simp [refs, hlen]; omega) (Ev.kt (ex_local rfl rfl rfl f12)) fun v nwa ka hv hna => ?_
      subst hv
      have hmA := ka.get hmA
      have KA : Ks nw12 (setL nwa mA (listOf (refs (List.map (fun (q : Fk) => q.1) fl') ++ [Value.ref f.x]).toArray (n1 + 1))) := (Ks.of ka).trans (Ks.setL hna hmA hard_list)
      have hBa := (hB12.keep0 ka).setL (o' := listOf (refs (List.map (fun (q : Fk) => q.1) fl') ++ [Value.ref f.x]).toArray (n1 + 1)) hna hmA hap.mn hap.mt
      have hmAa : (mA, listOf (refs (List.map (fun (q : Fk) => q.1) fl') ++ [Value.ref f.x]).toArray (n1 + 1)) ∈ setL nwa mA (listOf (refs (List.map (fun (q : Fk) => q.1) fl') ++ [Value.ref f.x]).toArray (n1 + 1)) := mem_setL_self hmA
      have hdAa : (dA, listOf dv'.toArray n2) ∈ setL nwa mA (listOf (refs (List.map (fun (q : Fk) => q.1) fl') ++ [Value.ref f.x]).toArray (n1 + 1)) := mem_setL_ne (ka.get hdA) fun e => hap.md e.symm
      have hsAa : (sA, listOf sv'.toArray n3) ∈ setL nwa mA (listOf (refs (List.map (fun (q : Fk) => q.1) fl') ++ [Value.ref f.x]).toArray (n1 + 1)) := mem_setL_ne (ka.get hsA) fun e => hap.ms e.symm
      clear hmA hdA hsA hB12 hna ka
      generalize setL nwa mA (listOf (refs (List.map (fun (q : Fk) => q.1) fl') ++ [Value.ref f.x]).toArray (n1 + 1)) = nw13 at *
      have hba := KA _ hb12 soft_tup
      refine sx_app (V := fun v nw' => LrAt nw' v ⟨f.doc, f.code, f, xr.1⟩) rfl rfl rfl W12.doc hdAa (by omega) (ex_tuple (P := fun vs m' nw' => vs = [.ref a1', .int xr.2.1 tc', .ref f.x, .ref xr.1] ∧ m' = m12 ∧ nw' = nw13)
        (args_ev (V := (· = .ref a1')) (ex_local rfl rfl rfl at12) fun v1 e1 => args_ev (V := (· = .int xr.2.1 tc')) (ev_item (i := 1) (ex_local rfl rfl rfl r12) hba rfl (by decide)) fun v2 e2 => args_ev (V := (· = .ref f.x)) (ex_local rfl rfl rfl f12) fun v3 e3 => args_ev (V := (· = .ref xr.1)) (ev_item (i := 0) (ex_local rfl rfl rfl r12) hba rfl (by decide)) fun v4 e4 => args_nil ⟨by rw [e1, e2, e3, e4], rfl, rfl⟩)
        (fun vs m' nw' ⟨e, _⟩ => by subst e; exact (show 4 < 1000 by decide)) (fun vs m' nw' a ⟨e, e1, e2⟩ => by subst e; rw [e2]; exact ⟨e1, Kp.cons, a, 0, a1', _, rfl, .head _, (hpa1.keepS KA).keep0 Kp.cons, tc', by rw [hfc]⟩)) fun v1 nwa ka hv1 hna => ?_
      have hdA := ka.get hdAa
      have KB : Ks nw13 (setL nwa dA (listOf (dv' ++ [v1]).toArray (n2 + 1))) := (Ks.of ka).trans (Ks.setL hna hdA hard_list)
      have hv1 := hv1.keepS (Ks.setL (o' := listOf (dv' ++ [v1]).toArray (n2 + 1)) hna hdA hard_list)
      have hBb := (hBa.keep0 ka).setL (o' := listOf (dv' ++ [v1]).toArray (n2 + 1)) hna hdA hap.dn hap.dt
      have hmAb : (mA, listOf (refs (List.map (fun (q : Fk) => q.1) fl') ++ [Value.ref f.x]).toArray (n1 + 1)) ∈ setL nwa dA (listOf (dv' ++ [v1]).toArray (n2 + 1)) := mem_setL_ne (ka.get hmAa) fun e => hap.md e
      have hdAb : (dA, listOf (dv' ++ [v1]).toArray (n2 + 1)) ∈ setL nwa dA (listOf (dv' ++ [v1]).toArray (n2 + 1)) := mem_setL_self hdA
      have hsAb : (sA, listOf sv'.toArray n3) ∈ setL nwa dA (listOf (dv' ++ [v1]).toArray (n2 + 1)) := mem_setL_ne (ka.get hsAa) fun e => hap.ds e.symm
      clear hdA hmAa hdAa hsAa hBa hna ka
      generalize setL nwa dA (listOf (dv' ++ [v1]).toArray (n2 + 1)) = nw14 at *
      have hbb := KB _ hba soft_tup
      have KAB := KA.trans KB
      refine sx_app (V := fun v nw' => LrAt nw' v ⟨f.sch, f.code, f, xr.1⟩) rfl rfl rfl W12.sch hsAb (by omega) (ex_tuple (P := fun vs m' nw' => vs = [.ref a2', .int xr.2.1 tc', .ref f.x, .ref xr.1] ∧ m' = m12 ∧ nw' = nw14)
        (args_ev (V := (· = .ref a2')) (ex_local rfl rfl rfl by12) fun v1 e1 => args_ev (V := (· = .int xr.2.1 tc')) (ev_item (i := 1) (ex_local rfl rfl rfl r12) hbb rfl (by decide)) fun v2 e2 => args_ev (V := (· = .ref f.x)) (ex_local rfl rfl rfl f12) fun v3 e3 => args_ev (V := (· = .ref xr.1)) (ev_item (i := 0) (ex_local rfl rfl rfl r12) hbb rfl (by decide)) fun v4 e4 => args_nil ⟨by rw [e1, e2, e3, e4], rfl, rfl⟩)
        (fun vs m' nw' ⟨e, _⟩ => by subst e; exact (show 4 < 1000 by decide)) (fun vs m' nw' a ⟨e, e1, e2⟩ => by subst e; rw [e2]; exact ⟨e1, Kp.cons, a, 0, a2', _, rfl, .head _, (hpa2.keepS KAB).keep0 Kp.cons, tc', by rw [hfc]⟩)) fun v2 nwa ka hv2 hna => ?_
      have hsA := ka.get hsAb
      have KC : Ks nw14 (setL nwa sA (listOf (sv' ++ [v2]).toArray (n3 + 1))) := (Ks.of ka).trans (Ks.setL hna hsA hard_list)
      have hv2 := hv2.keepS (Ks.setL (o' := listOf (sv' ++ [v2]).toArray (n3 + 1)) hna hsA hard_list)
      have hBc := (hBb.keep0 ka).setL (o' := listOf (sv' ++ [v2]).toArray (n3 + 1)) hna hsA hap.sn hap.st
      have K3 := KAB.trans KC
      refine sx_nil ⟨W12, hBc, fl' ++ [(f, kid)], dl' ++ [⟨f.doc, f.code, f, xr.1⟩], sl' ++ [⟨f.sch, f.code, f, xr.1⟩], dv' ++ [v1], sv' ++ [v2], ⟨n1 + 1, n2 + 1, n3 + 1, ?_, mem_setL_ne (ka.get hdAb) fun e => hap.ds e, mem_setL_self hsA⟩, ?_, ?_, hM12.keepS K3⟩
      · rw [show refs ((fl' ++ [(f, kid)]).map (·.1)) = refs (fl'.map (·.1)) ++ [.ref f.x] by simp [refs]]
        exact mem_setL_ne (ka.get hmAb) fun e => hap.ms e
      · exact (hdl12.keepS K3).snoc (hv1.keepS KC)
      · exact (hsl12.keepS K3).snoc hv2
  · rintro m5 nw5 ⟨hN5, hB5, fl, dl, sl, dv, sv, ⟨n1, n2, n3, h1, h2, h3⟩, h4, h5, h6⟩
    exact law7 w _ _ _ _ _ _ _ _ _ _ _ _ _ _ _ ho prog mg mb _ A h₀ L fa cd m5 nw5 HP hr M HT ⟨ta, tvs, mA, dA, sA, n1, n2, n3, fl, dl, sl, dv, sv, hN5.table, hB5.ta, hB5.rows, hB5.T, hN5.made, hN5.doc, hN5.sch, h1, h2, h3, h4, h5, h6⟩
end Mine

-- LA6
open PySem PySem.W PySem.Calls PyProof.Rows
set_option maxRecDepth 100000
set_option linter.unusedVariables false
namespace Mine
def LawAtL (k : Nat) (Pre : World → Heap → Addr → Loc → Led → Prop) : Prop :=
  ∀ (w : World) (oc : Value) (od : Option Addr) (osl : Array (Option Value)) (name qual : Str) (params : Arguments) (body : List Stmt) (scope : Scope) (dV kV doc pm cdv ct : Value) (an : Option Addr),
    (KH w.params).lookup 469 = some ⟨oc, od, .func (fnOf name qual params body scope dV kV doc pm an cdv ct), osl⟩ →
    ∀ (prog : Program) (mg mb : Loc) (r : Nat) (A : Around) (h₀ : Heap) (L fa : Addr) (cd : Value) (m : Loc) (nw : Led), PG prog → 100 ≤ r → Fm (KH w.params) mg mb r A h₀ L → TopF A h₀ L → Pre w h₀ L m nw →
      Run prog w A h₀ L m nw (execs (body.drop k) (envOfC qual scope L fa cd)) PT
theorem LawAtL.of {k : Nat} {Pre : World → Heap → Addr → Loc → Led → Prop}
    (h : ∀ w : World, ∃ (oc : Value) (od : Option Addr) (osl : Array (Option Value)) (name qual : Str) (params : Arguments) (body : List Stmt) (scope : Scope) (dV kV doc pm cdv ct : Value) (an : Option Addr), (KH w.params).lookup 469 = some ⟨oc, od, .func (fnOf name qual params body scope dV kV doc pm an cdv ct), osl⟩ ∧
      ((KH w.params).lookup 469 = some ⟨oc, od, .func (fnOf name qual params body scope dV kV doc pm an cdv ct), osl⟩ → ∀ (prog : Program) (mg mb : Loc) (r : Nat) (A : Around) (h₀ : Heap) (L fa : Addr) (cd : Value) (m : Loc) (nw : Led), PG prog → 100 ≤ r → Fm (KH w.params) mg mb r A h₀ L → TopF A h₀ L → Pre w h₀ L m nw →
        Run prog w A h₀ L m nw (execs (body.drop k) (envOfC qual scope L fa cd)) PT)) : LawAtL k Pre := by
  intro w oc od osl name qual params body scope dV kV doc pm cdv ct an hl
  obtain ⟨oc', od', osl', name', qual', params', body', scope', dV', kV', doc', pm', cdv', ct', an', hl', hr⟩ := h w
  have e := Option.some.inj (hl.symm.trans hl')
  cases e
  exact hr hl
def Pre0 (w : World) (h₀ : Heap) (L : Addr) (m : Loc) (nw : Led) : Prop := ∃ oC sl svs ns, (L + 1, oC) ∈ nw ∧ oC.data = .cell (some (.ref sl)) ∧ h₀.IsList sl (List.toArray svs) ∧ IntsAre svs ns ∧ ns.length ≤ 63 ∧ TabAt' nw
theorem AllInt.snoc {n : Nat} {vs : List Value} {x : Int} {t : Tok} (h : AllInt n vs) : AllInt (n + 1) (vs ++ [.int x t]) := ⟨by simp [h.len], fun v hv => by
  rcases List.mem_append.mp hv with hv | hv
  · exact h.all v hv
  · rw [List.mem_singleton.mp hv]; exact ⟨x, t, rfl⟩⟩
theorem law0 : LawAtL 0 Pre0 := by
  refine LawAtL.of fun w => ⟨_, _, _, _, _, _, _, _, _, _, _, _, _, _, _, by with_unfolding_all exact rfl, fun ho => ?_⟩
  intro prog mg mb r A h₀ L fa cd m nw HP hr M HT hpre
  obtain ⟨oC, sl, svs, ns, hcell, hoC, hsl, hI, hns, hT⟩ := hpre
  have hlen := hI.length
  dsimp only [List.drop]
  refine sx_compR (cl := [("script", L + 1)]) (n := 15) (fun i ys => AllInt i ys) M rfl rfl rfl rfl rfl rfl rfl rfl (by decide) rfl (by decide) rfl ex_int (by decide) ⟨rfl, fun _ h => nomatch h⟩ ?_ ?_
  · intro i t C oK m₂ D ys nw' hi kk hN hm hJ
    refine tests_nil ⟨⟨rfl, rfl⟩, fun _ => ev_mono (V := fun y => ∃ x t, y = .int x t) ?_ fun y ⟨x, t, e⟩ => by rw [e]; exact hJ.snoc, fun h => absurd h (by decide)⟩
    have kc : Kp [] nw ((C, oK) :: (D, LCg.lst ys) :: nw') := (kk.trans Kp.cons).trans Kp.cons
    have hcell' := kc.get hcell
    have hC : (C, oK) ∈ (C, oK) :: (D, LCg.lst ys) :: nw' := .head _
    generalize ((C, oK) :: (D, LCg.lst ys) :: nw') = nw2 at *
    refine Run.drop (P := fun y m'' nw'' => (∃ x t, y = .int x t) ∧ m'' = m ∧ Kp [] nw2 nw'') (ex_ifexp (B := fun b => b = decide ((i : Int) < (svs.length : Int))) (tv_op (V := (· = .int i t)) (V' := VI svs.length) (ex_local2 hC hN rfl rfl rfl hm) (ev_call1 (V := (· = .ref sl)) (ex_builtin M rfl rfl rfl rfl kb_len rfl (by decide)) (ex_cell rfl rfl rfl hcell' hoC) fun v hv => by subst hv; exact rv_len_script hsl (by omega)) fun a b ha ⟨u, hb⟩ => by subst ha; subst hb; exact rv_lt) (fun hb => ?_) (fun hb => ?_)) fun _ _ _ h => h
    · have hlt : (i : Int) < (svs.length : Int) := by simpa using hb.symm
      obtain ⟨tx, hx⟩ := hI.get i ns[i] (List.getElem?_eq_getElem (by omega))
      exact ev_sub (V := (· = .ref sl)) (V' := (· = .int i t)) (ex_cell rfl rfl rfl hcell' hoC) (ex_local2 hC hN rfl rfl rfl hm) fun o k ho hk => by
        subst ho; subst hk; exact run_item_script hsl (by omega) (by omega) (by rw [Int.toNat_natCast]; exact hx) ⟨⟨_, tx, rfl⟩, rfl, Kp.refl⟩
    · refine ex_sub (P := fun o m'' nw'' => m'' = m ∧ Kp [] nw2 nw'' ∧ ∃ a items, o = .ref a ∧ AllInt 15 items ∧ (a, listOf items.toArray 0) ∈ nw'') (P2 := fun o x m'' nw'' => x = .int i t ∧ m'' = m ∧ Kp [] nw2 nw'' ∧ ∃ a items, o = .ref a ∧ AllInt 15 items ∧ (a, listOf items.toArray 0) ∈ nw'') (ex_callK0 M (ex_global M rfl rfl rfl kg_law_rest) kk_law_rest (run_call t_rest M (by omega) fun v nw' ⟨a, items, e, h1, h2, k⟩ => ⟨rfl, k, a, items, e, h1, h2⟩)) ?_ ?_
      · rintro o m'' nw'' ⟨e1, k, a, items, e2, h1, h2⟩
        rw [e1]
        exact Run.mono (ex_local2 (k.get hC) hN rfl rfl rfl hm) fun x m3 nw3 ⟨e, e', e''⟩ => ⟨e, e', by rw [e'']; exact k, a, items, e2, h1, by rw [e'']; exact h2⟩
      · rintro o x m'' nw'' ⟨e0, e1, k, a, items, e2, h1, h2⟩
        subst e0; subst e2; rw [e1]
        obtain ⟨xv, xt, ex⟩ := h1.all _ (List.getElem_mem (show i < items.length by rw [h1.len]; exact hi))
        exact run_item_list (items := items) h2 (by omega) (by omega) (by rw [Int.toNat_natCast, List.getElem?_eq_getElem (show i < items.length by rw [h1.len]; exact hi), ex]) ⟨⟨xv, xt, rfl⟩, rfl, k⟩
  intro na nums nw1 hnums k1 hna
  have nmn : upd m "numbers" (.ref na) "numbers" = some (.ref na) := rfl
  generalize upd m "numbers" (.ref na) = m1 at *
  have hT1 := (hT.keep0 k1).keep0 (Kp.cons (p := (na, LCg.lst nums)))
  have hna1 : (na, LCg.lst nums) ∈ (na, LCg.lst nums) :: nw1 := .head _
  clear hT k1 hna hcell
  generalize ((na, LCg.lst nums) :: nw1) = nw2 at *
  refine sx_assign rfl rfl rfl (P := Kt m1 nw2 fun v nw' => ∃ a vs, v = .ref a ∧ RowsAt nw' vs rows ∧ (a, listOf vs.toArray 0) ∈ nw') (ex_callK0 M (ex_global M rfl rfl rfl kg_law_table) kk_law_table (run_call t_table M (by omega) fun v nw' ⟨a, vs, e, h1, h2, k⟩ => ⟨rfl, k, a, vs, e, h1, h2⟩)) ?_
  rintro v m2 nw3 ⟨rfl, k3, ta, tvs, rfl, hrows, hta⟩
  have nmn2 : upd m2 "table" (.ref ta) "numbers" = some (.ref na) := nmn
  have nmt2 : upd m2 "table" (.ref ta) "table" = some (.ref ta) := rfl
  generalize upd m2 "table" (.ref ta) = m3 at *
  have hT3 := hT1.keep0 k3
  have hna3 := k3.get hna1
  refine Run.nodup fun hn => ?_
  have hnt : na ≠ ta := fun e => by
    rw [← e] at hta
    have h := mem_uniq hn hna3 hta
    have h2 : (LCg.lst nums).data = (listOf tvs.toArray 0).data := congrArg Obj.data h
    injection h2 with h3 h4
    have := hnums.len
    omega
  refine sx_forL tvs (n := 0) (P := fun v m' nw' => v = .ref ta ∧ (m' "numbers" = some (.ref na) ∧ m' "table" = some (.ref ta)) ∧ nw' = nw3) (fun a i m' nw' => a = ta ∧ (m' "numbers" = some (.ref na) ∧ m' "table" = some (.ref ta)) ∧ Kp [] nw3 nw') (fun _ _ => False) M rfl rfl rfl (Run.mono (ex_local (v := .ref ta) rfl rfl rfl nmt2) fun v m' nw' ⟨e1, e2, e3⟩ => ⟨e1, by rw [e2]; exact ⟨nmn2, nmt2⟩, e3⟩) ?_ ?_ ?_ (fun _ _ h => h.elim) ?_
  · rintro v m' nw' ⟨rfl, W, rfl⟩
    exact ⟨ta, rfl, hta, rfl, W, Kp.refl⟩
  · rintro a i m' nw' ⟨rfl, _, k⟩
    exact k.get hta
  · rintro a i u m4 nw4 hu ⟨rfl, W, k4⟩
    obtain ⟨x, hx, hra⟩ := hrows.get hu
    have hra4 := hra.keep0 k4
    obtain ⟨b, nb, cv, rv, rfl, hb, _⟩ := id hra
    have W5 : upd m4 "row" (.ref b) "numbers" = some (.ref na) ∧ upd m4 "row" (.ref b) "table" = some (.ref a) := W
    have r5 : upd m4 "row" (.ref b) "row" = some (.ref b) := rfl
    generalize upd m4 "row" (.ref b) = m5 at *
    refine sv_if (B := (· = false)) (tv_not (tv_is (x := true) (ex_callK M (ex_global M rfl rfl rfl kg_law_flags) kk_law_flags (arg1 (V := (· = .ref b)) (ex_local rfl rfl rfl r5)) fun vs m' nw' ⟨v, e1, e2, e3, e4⟩ => by
        subst e1; subst e2; rw [e3, e4]
        exact run_fp M (t_flags (List.mem_of_getElem? hx) hra4) (by omega))) fun b hb => by subst hb; rfl) (fun h => absurd h (by decide)) (fun _ => sx_nil (sx_nil ⟨rfl, W5, k4⟩))
  · rintro a m4 nw4 ⟨rfl, W, k4⟩
    exact law3 w _ _ _ _ _ _ _ _ _ _ _ _ _ _ _ ho prog mg mb _ A h₀ L fa cd m4 nw4 HP hr M HT ⟨na, a, nums, tvs, W.1, W.2, hnums, ⟨k4.get hna3, k4.get hta, hrows.keep0 k4, hT3.keep0 k4⟩, hnt⟩
end Mine

-- LB
open PySem PySem.W PySem.Calls PyProof.Rows
set_option maxRecDepth 100000
set_option linter.unusedVariables false
namespace Mine
theorem kn_tabs {P : Params} : noTabs (KH P) = true := by kernel_rfl
theorem oldK_of {h h' : Heap} {L : Addr} {m : Loc} {ps : Array Value} (hT : TabsAt [(257, 253)] h) (F : Fr (ghostOf h [(257, 253)]) L h' m) (hP : h'.get? 253 = some (tabObj ps)) : OldK h h' := by
  have t := hT _ (.head _)
  have ne : ∀ b, b ≠ 253 → b ∉ ([(257, 253)] : List (Addr × Addr)).map (·.2) := fun b hb hm => by simp at hm; exact hb hm
  refine ⟨fun b o e => ?_, fun b o e => ?_⟩
  · by_cases hb : b = 253
    · subst hb
      have e2 := t.2
      rw [e] at e2
      cases e2
      exact .inr (.inl ⟨(t.1.tab t.2).isCodeTable, rfl, #[], ps, rfl, by rw [Array.empty_append]; exact hP⟩)
    · exact .inl (F.keep b o (ghost_ne e (ne b hb)))
  · by_cases hb : b = 253
    · subst hb; exact ⟨_, hP⟩
    · exact ⟨o, F.keep b o (ghost_ne e (ne b hb))⟩
theorem glue {prog p : Program} {loose : List Str} {mean mean' : ExcName → Option Value} {mg mb : Loc} {w : World} {s₁ : Shared} {h₁ : Heap} {tk : Nat} {m : Loc} {oC : Obj} {sl fa : Addr} {svs : List Value} {ns : List Int} {c : ClaimW} {cl : Str → Option Addr} {args : List WData} {E : Value → Shared → Prop}
    {oc : Value} {od : Option Addr} {osl : Array (Option Value)} {name qual : Str} {params : Arguments} {body : List Stmt} {scope : Scope} {dV kV doc pm cdv ct cd : Value} {an : Option Addr}
    (HP : PG prog) (KX : (KH w.params).In s₁.heap) (TB : ∀ P ∈ [253], s₁.heap.get? P = some (tabObj #[])) (T : Top p loose mean' mg mb s₁.heap)
    (hl : (KH w.params).lookup 469 = some ⟨oc, od, .func (fnOf name qual params body scope dV kV doc pm an cdv ct), osl⟩) (hk : scope.kind = .function)
    (F : Fr s₁.heap s₁.heap.objs.size h₁ m) (N : News s₁.heap s₁.heap.objs.size h₁ [(s₁.heap.objs.size + 1, oC)]) (hoC : oC.data = .cell (some (.ref sl))) (hL : s₁.heap.IsList sl svs.toArray) (hI : IntsAre svs ns) (hz : ¬ 63 < ns.length)
    (hg : s₁.gens = #[]) (hr : ∀ cls, c.raises args cls = false) (hp : c.post args (.bool true) args = true) :
    wpAny (model prog w) (callerA.deeper (envOfC qual scope s₁.heap.objs.size fa cd)) (execs body (envOfC qual scope s₁.heap.objs.size fa cd))
      (fun f s' => GoodWG c cl mean args s₁ (.ok (.ret (match f with | .ret v => v | _ => .none))) s') E { s₁ with heap := h₁, toks := tk } := by
  have hT : TabsAt [(257, 253)] s₁.heap := fun q hq => by
    rw [List.mem_singleton.mp hq]
    exact ⟨codeHd_of_K KX kc_holds, TB _ (.head _)⟩
  have X' := ghost_K hT KX kn_tabs
  have T' := ghost_top hT T
  have N' := ghost_news hT F N
  have F' := ghost_fr hT F
  have G : Gr (KH w.params) mg mb (ghostOf s₁.heap [(257, 253)]) := ⟨X', T'.g, T'.b, T'.builtins, T'.nolimit, bmod_of_top T'⟩
  have B := ghost_below hT
  have M : Fm (KH w.params) mg mb 200 (callerA.deeper (envOfC qual scope s₁.heap.objs.size fa cd)) (ghostOf s₁.heap [(257, 253)]) s₁.heap.objs.size :=
    ⟨⟨_, _, _, _, B, rfl, rfl, hk⟩, rfl, G, by show 1 + claimMargin + 1 + 200 < recursionLimit; decide, by show 4 + 3 + 30 * 200 < cLine; decide⟩
  have HT : TopF (callerA.deeper (envOfC qual scope s₁.heap.objs.size fa cd)) (ghostOf s₁.heap [(257, 253)]) s₁.heap.objs.size := ⟨_, _, _, B, rfl, rfl, hk⟩
  have lt253 : 253 < s₁.heap.objs.size := Heap.lt_size (TB _ (.head _))
  have hst : St (ghostOf s₁.heap [(257, 253)]) s₁.heap.objs.size s₁.os m [(s₁.heap.objs.size + 1, oC), (253, tabObj #[])] [] { s₁ with heap := h₁, toks := tk } := by
    refine ⟨F', N', ?_, rfl, .of_eq hg⟩
    show ([s₁.heap.objs.size + 1, 253] : List Nat).Nodup
    have hne : s₁.heap.objs.size + 1 ≠ 253 := fun e => Nat.lt_irrefl _ (Nat.lt_trans lt253 (Nat.lt_of_succ_le (Nat.le_of_eq e)))
    exact List.nodup_cons.mpr ⟨fun hm => hne (List.mem_singleton.mp hm), List.nodup_cons.mpr ⟨List.not_mem_nil, List.nodup_nil⟩⟩
  refine wpAny_mono (law0 w _ _ _ _ _ _ _ _ _ _ _ _ _ _ _ hl prog mg mb 200 _ _ _ fa cd m _ HP (by decide) M HT ⟨oC, sl, svs, ns, .head _, hoC, ghost_list hT hL, hI, by omega, tabObj #[], #[], .tail _ (.head _), rfl, trivial, rfl⟩ s₁.os [] _ hst) (fun f s' ⟨m', nw', hs', hf, op, ps, h1, _, _, h2⟩ => ?_) fun _ _ h => h.elim
  subst hf; subst h2
  exact ⟨.inl ⟨_, _, [], rfl, hr, ReadsW.bool true, hp, fun _ => ⟨List.nodup_nil, fun _ hm => (nomatch hm)⟩⟩, oldK_of hT hs'.F (hs'.get h1), hs'.os, hs'.bare⟩
end Mine

set_option maxRecDepth 100000 in
set_option maxHeartbeats 8000000 in
theorem PySem.Challenge.cw_bc6001_01_holds : PySem.Challenge.rw_bc6001_01.Holds :=
  Mine.hd (by
  k_fill
  intro w s₀ s₁ mg mb G Y fa o pm cd doc dV kV ho hd hcd hD hmg hg args vals as hpre hlay hrd hwl hlo
  have KX := km_in_of Y
  have TB8 := km_tabs_of Y
  clear Y
  refine Ground.open G ?_
  intro T B D TE TW
  clear hmg G B D TE TW
  wrow_args hpre hlay hrd hwl hlo
  refine enter_call ?_
  w_call any ho hd hcd hD T F
  rename News _ _ _ _ => N9
  rename Heap.IsList _ _ _ => L9
  rename IntsAre _ _ => I9
  rename _ = Data.cell _ => C9
  rename ¬ _ < _ => Z9
  refine Mine.glue Mine.pg_ KX TB8 T (by with_unfolding_all exact rfl) rfl F N9 C9 L9 I9 ?_ hg (fun _ => rfl) ?_
  · omega
  · first | wrow_post | exact postW_of (by wrow_shape) (by wtm_val) (by w_fin))
