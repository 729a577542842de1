import PyProof.Rows.All
import Wide.All
import OpenK.AllK
import Wide.FinOn
import Lean
import PySem.Challenge.RW_bz6005_01
open PySem PySem.W PySem.W.X PySem.Calls PyProof.Rows
set_option Elab.async false
set_option linter.unusedVariables false
namespace Mine
-- Top1
set_option maxRecDepth 100000
set_option maxHeartbeats 8000000
open_top hd for PySem.Challenge.rw_bz6005_01
-- L1
/-- what the heap holds at least -/
def Over (B : Addr → Option Obj) (h : Heap) : Prop := ∀ b o, B b = some o → h.get? b = some o
abbrev Rest := Array GenState × Drawn × OsState
def restOf (s : Shared) : Rest := (s.gens, s.drawn, s.os)
abbrev Led := List (Addr × (Obj → Prop))

structure St (B : Addr → Option Obj) (r : Rest) (l : Led) (s : Shared) : Prop where
  rest : restOf s = r
  over : Over B s.heap
  led : ∀ p ∈ l, ∃ o, s.heap.get? p.1 = some o ∧ p.2 o
  off : ∀ p ∈ l, B p.1 = none
  lo : ∀ p ∈ l, mainGlobals < p.1
  nodup : (l.map (·.1)).Nodup

structure Ext (s s' : Shared) : Prop where
  rest : restOf s' = restOf s
  keep : ∀ b o, s.heap.get? b = some o → s'.heap.get? b = some o

structure Fresh (s s' : Shared) (a : Addr) (P : Obj → Prop) : Prop where
  new : s.heap.get? a = none
  lo : mainGlobals < a
  is : ∃ o, s'.heap.get? a = some o ∧ P o

theorem Ext.refl (s : Shared) : Ext s s := ⟨rfl, fun _ _ e => e⟩
theorem Ext.trans {s s' s'' : Shared} (x : Ext s s') (y : Ext s' s'') : Ext s s'' := ⟨y.rest.trans x.rest, fun b o e => y.keep b o (x.keep b o e)⟩
theorem Ext.tok (s : Shared) (t : Nat) : Ext s { s with toks := t } := ⟨rfl, fun _ _ e => e⟩

namespace St
variable {B : Addr → Option Obj} {r : Rest} {l l' : Led} {s s' : Shared} {a : Addr} {P P' : Obj → Prop}

theorem tok (S : St B r l s) (t : Nat) : St B r l { s with toks := t } := ⟨S.rest, S.over, S.led, S.off, S.lo, S.nodup⟩
theorem ext (S : St B r l s) (x : Ext s s') : St B r l s' :=
  ⟨x.rest.trans S.rest, fun b o e => x.keep b o (S.over b o e), fun p hp => let ⟨o, ho, h⟩ := S.led p hp; ⟨o, x.keep _ _ ho, h⟩, S.off, S.lo, S.nodup⟩
theorem get (S : St B r l s) (hm : (a, P) ∈ l) : ∃ o, s.heap.get? a = some o ∧ P o := S.led _ hm
theorem new (S : St B r l s) (x : Ext s s') (f : Fresh s s' a P) : St B r ((a, P) :: l) s' := by
  have S' := S.ext x
  refine ⟨S'.rest, S'.over, fun p hp => ?_, fun p hp => ?_, fun p hp => ?_, ?_⟩
  · rcases List.mem_cons.mp hp with rfl | hp
    · exact f.is
    · exact S'.led p hp
  · rcases List.mem_cons.mp hp with rfl | hp
    · cases e : B a with
      | none => rfl
      | some o => have := S.over _ _ e; rw [f.new] at this; cases this
    · exact S'.off p hp
  · rcases List.mem_cons.mp hp with rfl | hp
    · exact f.lo
    · exact S'.lo p hp
  · rw [List.map_cons, List.nodup_cons]
    refine ⟨fun hm => ?_, S'.nodup⟩
    obtain ⟨q, hq, e⟩ := List.mem_map.mp hm
    obtain ⟨o, ho, _⟩ := S.led q hq
    have e' : q.1 = a := e
    rw [e', f.new] at ho; cases ho
theorem sub (S : St B r l s) (h : l'.Sublist l) : St B r l' s :=
  ⟨S.rest, S.over, fun p hp => S.led p (h.subset hp), fun p hp => S.off p (h.subset hp), fun p hp => S.lo p (h.subset hp), S.nodup.sublist (h.map _)⟩
theorem perm (S : St B r l s) (h : l'.Perm l) : St B r l' s :=
  ⟨S.rest, S.over, fun p hp => S.led p (h.subset hp), fun p hp => S.off p (h.subset hp), fun p hp => S.lo p (h.subset hp), (h.map _).nodup_iff.mpr S.nodup⟩
end St

inductive Put (a : Addr) (P P' : Obj → Prop) : Led → Led → Prop
  | head {r : Led} : Put a P P' ((a, P) :: r) ((a, P') :: r)
  | tail {p : Addr × (Obj → Prop)} {r r' : Led} : Put a P P' r r' → Put a P P' (p :: r) (p :: r')
theorem Put.addrs {a : Addr} {P P' : Obj → Prop} {l l' : Led} (h : Put a P P' l l') : l'.map (·.1) = l.map (·.1) := by
  induction h with
  | head => rfl
  | tail _ ih => rw [List.map_cons, List.map_cons, ih]
theorem Put.mem {a : Addr} {P P' : Obj → Prop} {l l' : Led} (h : Put a P P' l l') : (a, P) ∈ l := by
  induction h with
  | head => exact .head _
  | tail _ ih => exact .tail _ ih
theorem Put.split {a : Addr} {P P' : Obj → Prop} {l l' : Led} (h : Put a P P' l l') : ∀ p ∈ l', p = (a, P') ∨ p ∈ l := by
  induction h with
  | head => intro p hp; rcases List.mem_cons.mp hp with rfl | hp; exact .inl rfl; exact .inr (.tail _ hp)
  | tail _ ih =>
    intro p hp
    rcases List.mem_cons.mp hp with rfl | hp
    · exact .inr (.head _)
    · exact (ih p hp).imp id (.tail _)
theorem Put.only {a : Addr} {P P' : Obj → Prop} {l l' : Led} (h : Put a P P' l l') (hn : (l.map (·.1)).Nodup) : ∀ p ∈ l', p = (a, P') ∨ (p ∈ l ∧ p.1 ≠ a) := by
  induction h with
  | head =>
    rename_i rr
    intro p hp
    rw [List.map_cons, List.nodup_cons] at hn
    rcases List.mem_cons.mp hp with rfl | hp
    · exact .inl rfl
    · exact .inr ⟨.tail _ hp, fun e => hn.1 (List.mem_map.mpr ⟨p, hp, e⟩)⟩
  | tail h' ih =>
    intro p hp
    rw [List.map_cons, List.nodup_cons] at hn
    rcases List.mem_cons.mp hp with rfl | hp
    · exact .inr ⟨.head _, fun e => hn.1 (List.mem_map.mpr ⟨_, h'.mem, e.symm⟩)⟩
    · exact (ih hn.2 p hp).imp id fun ⟨a, b⟩ => ⟨.tail _ a, b⟩

/-- one known object turns; all else stays -/
theorem St.upd {B : Addr → Option Obj} {r : Rest} {l l' : Led} {s s' : Shared} {a : Addr} {P P' : Obj → Prop} {o' : Obj} (S : St B r l s) (hp : Put a P P' l l')
    (hr : restOf s' = restOf s) (hk : ∀ b o, b ≠ a → s.heap.get? b = some o → s'.heap.get? b = some o) (ho : s'.heap.get? a = some o') (h' : P' o') : St B r l' s' := by
  refine ⟨hr.trans S.rest, fun b o e => hk b o (fun q => ?_) (S.over b o e), fun p hm => ?_, fun p hm => ?_, fun p hm => ?_, hp.addrs ▸ S.nodup⟩
  · have := S.off _ hp.mem
    rw [← q, e] at this; cases this
  · rcases hp.only S.nodup p hm with rfl | ⟨hm, hne⟩
    · exact ⟨o', ho, h'⟩
    · obtain ⟨o, ho, h⟩ := S.led p hm
      exact ⟨o, hk _ _ hne ho, h⟩
  · rcases hp.only S.nodup p hm with rfl | ⟨hm, _⟩
    · exact (S.off (a, P) hp.mem : B a = none)
    · exact S.off p hm
  · rcases hp.only S.nodup p hm with rfl | ⟨hm, _⟩
    · exact (S.lo (a, P) hp.mem : mainGlobals < a)
    · exact S.lo p hm
theorem St.weaken {B : Addr → Option Obj} {r : Rest} {l l' : Led} {s : Shared} {a : Addr} {P P' : Obj → Prop} (S : St B r l s) (hp : Put a P P' l l') (h : ∀ o, P o → P' o) : St B r l' s := by
  obtain ⟨o, ho, h₀⟩ := S.get hp.mem
  exact S.upd hp rfl (fun _ _ _ e => e) ho (h o h₀)

/-- a known object is laid among those that stay -/
def setB (B : Addr → Option Obj) (a : Addr) (o : Obj) : Addr → Option Obj := fun b => if b = a then some o else B b
def LeB (B B' : Addr → Option Obj) : Prop := ∀ a o, B a = some o → B' a = some o
theorem LeB.refl (B : Addr → Option Obj) : LeB B B := fun _ _ e => e
theorem LeB.trans {B B' B'' : Addr → Option Obj} (x : LeB B B') (y : LeB B' B'') : LeB B B'' := fun a o e => y a o (x a o e)
theorem setB_self (B : Addr → Option Obj) (a : Addr) (o : Obj) : setB B a o a = some o := if_pos rfl
theorem setB_le {B : Addr → Option Obj} {a : Addr} {o : Obj} (h : B a = none) : LeB B (setB B a o) := fun b x e => by
  unfold setB
  by_cases hb : b = a
  · subst hb; rw [h] at e; cases e
  · rw [if_neg hb]; exact e
theorem St.freeze {B : Addr → Option Obj} {r : Rest} {l : Led} {s : Shared} {a : Addr} {P : Obj → Prop} (S : St B r ((a, P) :: l) s) :
    ∃ o, P o ∧ LeB B (setB B a o) ∧ St (setB B a o) r l s := by
  obtain ⟨o, ho, h⟩ := S.get (.head _)
  have hn := S.nodup
  rw [List.map_cons, List.nodup_cons] at hn
  refine ⟨o, h, setB_le (S.off _ (.head _)), S.rest, fun b x e => ?_, fun p hp => S.led p (.tail _ hp), fun p hp => ?_, fun p hp => S.lo p (.tail _ hp), hn.2⟩
  · unfold setB at e
    by_cases hb : b = a
    · rw [if_pos hb] at e; cases e; rw [hb]; exact ho
    · rw [if_neg hb] at e; exact S.over b x e
  · unfold setB
    have : p.1 ≠ a := fun e => hn.1 (List.mem_map.mpr ⟨p, hp, e⟩)
    rw [if_neg this]; exact S.off p (.tail _ hp)

/-- the greatest stay: all of the heap but the known turning ones -/
def mostB (l : Led) (h : Heap) : Addr → Option Obj := fun b => if b ∈ l.map (·.1) then none else h.get? b
theorem St.most {B : Addr → Option Obj} {r : Rest} {l : Led} {s : Shared} (S : St B r l s) : LeB B (mostB l s.heap) ∧ St (mostB l s.heap) r l s := by
  refine ⟨fun a o e => ?_, S.rest, fun b o e => ?_, S.led, fun p hp => if_pos (List.mem_map.mpr ⟨p, hp, rfl⟩), S.lo, S.nodup⟩
  · unfold mostB
    rw [if_neg]
    · exact S.over a o e
    · intro hm
      obtain ⟨p, hp, e'⟩ := List.mem_map.mp hm
      have := S.off p hp
      have e'' : p.1 = a := e'
      rw [e'', e] at this; cases this
  · unfold mostB at e
    split at e
    · cases e
    · exact e

/-- the world's facts that the stay holds: the written part and the names -/
structure Wd (K : Frag) (B : Addr → Option Obj) : Prop where
  k : ∀ a o, K.lookup a = some o → B a = some o
  top : ∃ p loose mg mb, ∀ h, Over B h → TopRead p loose mg mb h
theorem Wd.le {K : Frag} {B B' : Addr → Option Obj} (W : Wd K B) (x : LeB B B') : Wd K B' :=
  ⟨fun a o e => x a o (W.k a o e), let ⟨p, loose, mg, mb, h⟩ := W.top; ⟨p, loose, mg, mb, fun hp ho => h hp fun b o e => ho b o (x b o e)⟩⟩
theorem Wd.nolimit {K : Frag} {B : Addr → Option Obj} (W : Wd K B) {h : Heap} (o : Over B h) : h.NoLimit := let ⟨_, _, _, _, t⟩ := W.top; (t h o).nolimit
theorem Wd.in {K : Frag} {B : Addr → Option Obj} (W : Wd K B) {h : Heap} (o : Over B h) : K.In h := fun a x e => o a x (W.k a x e)
theorem Wd.glo {K : Frag} {B : Addr → Option Obj} (W : Wd K B) {h : Heap} (o : Over B h) : mainGlobals < h.objs.size := by
  obtain ⟨_, _, _, _, t⟩ := W.top
  exact (t h o).g.lt
theorem overGet (s : Shared) : Over s.heap.get? s.heap := fun _ _ e => e

/-- room -/
structure Rm (A : Around) (n : Nat) : Prop where
  handled : A.handled = none
  depth : A.depth + n < 900
  units : A.units + 10 * n < 9000
theorem Rm.le {A : Around} {n m : Nat} (h : Rm A n) (hm : m ≤ n) : Rm A m := ⟨h.handled, by have := h.depth; omega, by have := h.units; omega⟩
theorem Rm.deeper {A : Around} {n : Nat} (h : Rm A (n + 1)) (env : Env) : Rm (A.deeper env) n := ⟨h.handled, by have := h.depth; show A.depth + 1 + n < 900; omega, by have := h.units; show A.units + 3 + 10 * n < 9000; omega⟩
theorem Rm.in1 {A : Around} {n : Nat} (h : Rm A (n + 1)) : Rm A.in1 n := ⟨h.handled, by have := h.depth; show A.depth + n < 900; omega, by have := h.units; show A.units + 1 + 10 * n < 9000; omega⟩
theorem Rm.room {A : Around} {n : Nat} (h : Rm A n) : A.depth < recursionLimit := by have := h.depth; show A.depth < 1000; omega
theorem Rm.unit {A : Around} {n : Nat} (h : Rm A n) (k : Nat) (hk : k ≤ 900) : A.units + k < cLine := by have := h.units; show A.units + k < 9900; omega
-- L2
set_option maxRecDepth 10000

/-- a frame's (or a comprehension's) names: what is known of them -/
@[irreducible] def FrO (mp : List (Str × Value)) : Obj → Prop := fun o => ∃ (m : Str → Option Value) (es : Array DictEntry) (ep : Nat), o.data = .dict es ep ∧ StrKeys es ∧ (∀ name, nsFind es name = m name) ∧ ∀ x v, mp.lookup x = some v → m x = some v
@[irreducible] def CellO (v : Option Value) : Obj → Prop := fun o => o.data = .cell v

theorem FrO.of_ns {h : Heap} {L : Addr} {m : Str → Option Value} {mp : List (Str × Value)} (hn : h.Ns L m) (hm : ∀ x v, mp.lookup x = some v → m x = some v) : ∃ o, h.get? L = some o ∧ FrO mp o := by
  obtain ⟨o, es, ep, ho, hd, hk, hf⟩ := hn
  refine ⟨o, ho, ?_⟩
  unfold FrO
  exact ⟨m, es, ep, hd, hk, hf, hm⟩
theorem FrO.ns {h : Heap} {L : Addr} {o : Obj} {mp : List (Str × Value)} (ho : h.get? L = some o) (hf : FrO mp o) : ∃ m, h.Ns L m ∧ ∀ x v, mp.lookup x = some v → m x = some v := by
  unfold FrO at hf
  obtain ⟨m, es, ep, hd, hk, hn, hm⟩ := hf
  exact ⟨m, ⟨o, es, ep, ho, hd, hk, hn⟩, hm⟩

def SubM : List (Str × Value) → List (Str × Value) → Prop
  | [], _ => True
  | p :: r, mp => mp.lookup p.1 = some p.2 ∧ SubM r mp
theorem SubM.look : ∀ {mp' mp : List (Str × Value)}, SubM mp' mp → ∀ x v, mp'.lookup x = some v → mp.lookup x = some v
  | [], _, _, _, _, e => by cases e
  | (k, u) :: r, mp, h, x, v, e => by
    rw [List.lookup_cons] at e
    by_cases hx : (x == k) = true
    · rw [hx] at e
      cases e
      rw [beq_iff_eq.mp hx]
      exact h.1
    · have : (x == k) = false := by simpa using hx
      rw [this] at e
      exact SubM.look h.2 x v e
theorem FrO.less {mp mp' : List (Str × Value)} (h : SubM mp' mp) (o : Obj) (hf : FrO mp o) : FrO mp' o := by
  unfold FrO at hf ⊢
  obtain ⟨m, es, ep, hd, hk, hn, hm⟩ := hf
  exact ⟨m, es, ep, hd, hk, hn, fun x v e => hm x v (h.look x v e)⟩

structure EnvOk (env : Env) (L : Addr) (sc : Scope) (cs : List (Str × Addr)) : Prop where
  loc : env.locals = L
  glob : env.globals = mainGlobals
  bi : env.builtins = builtinsNs
  scope : env.scope = sc
  cells : env.cells = cs
  fn : sc.kind = .function

section
variable {B : Addr → Option Obj} {r : Rest} {l l' : Led} {K : Frag} {M : Model} {A : Around} {E : Value → Shared → Prop} {s : Shared} {env : Env} {L : Addr} {sc : Scope} {cs : List (Str × Addr)} {mp : List (Str × Value)} {x : Str} {pos : Pos} {v : Value}

theorem ldL {Q : Value → Shared → Prop} (e : EnvOk env L sc cs) (S : St B r l s) (hm : (L, FrO mp) ∈ l) (hl : sc.names.lookup x = some .local) (hv : mp.lookup x = some v) (h : Q v s) :
    wpAny M A (loadName env x) Q E s := by
  obtain ⟨o, ho, hf⟩ := S.get hm
  obtain ⟨m, hn, hm'⟩ := FrO.ns ho hf
  exact wpAny_loadName_local (e.scope ▸ e.fn) (by show env.scope.names.lookup x = _; rw [e.scope]; exact hl) (e.loc ▸ hn) (hm' _ _ hv) h
theorem ldC {Q : Value → Shared → Prop} {c : Addr} (e : EnvOk env L sc cs) (S : St B r l s) (hl : sc.names.lookup x = some .cell) (hc : cs.lookup x = some c) (hm : (c, CellO (some v)) ∈ l) (h : Q v s) :
    wpAny M A (loadName env x) Q E s := by
  obtain ⟨o, ho, hf⟩ := S.get hm
  unfold CellO at hf
  exact wpAny_loadName_cell (e.scope ▸ e.fn) (by show env.scope.names.lookup x = _; rw [e.scope]; exact hl) (by rw [e.cells]; exact hc) ⟨o, ho, hf⟩ h
theorem nmL {Q : Value → Shared → Prop} (e : EnvOk env L sc cs) (S : St B r l s) (hm : (L, FrO mp) ∈ l) (hl : sc.names.lookup x = some .local) (hv : mp.lookup x = some v) (h : Q v s)
    (hd : (x == ("__debug__" : Str)) = false := by decide) : wpAny M A (eval (.Name x pos) env) Q E s := wpAny_Name (ldL e S hm hl hv h) hd
theorem nmC {Q : Value → Shared → Prop} {c : Addr} (e : EnvOk env L sc cs) (S : St B r l s) (hl : sc.names.lookup x = some .cell) (hc : cs.lookup x = some c) (hm : (c, CellO (some v)) ∈ l) (h : Q v s)
    (hd : (x == ("__debug__" : Str)) = false := by decide) : wpAny M A (eval (.Name x pos) env) Q E s := wpAny_Name (ldC e S hl hc hm h) hd
theorem nmG {Q : Value → Shared → Prop} (e : EnvOk env L sc cs) (S : St B r l s) (W : Wd K B) (hl : sc.names.lookup x = some .globalImplicit) (hv : nsIn K mainGlobals x = some (some v)) (h : Q v s)
    (hd : (x == ("__debug__" : Str)) = false := by decide) : wpAny M A (eval (.Name x pos) env) Q E s := by
  obtain ⟨p, loose, mg, mb, T⟩ := W.top
  exact Name_function_global (e.scope ▸ e.fn) (by show env.scope.names.lookup x = _; rw [e.scope]; exact hl) (loadGlobal_global (e.glob ▸ (T _ S.over).g) (mg_of (W.in S.over) (T _ S.over).g hv) h) hd
theorem nmB {Q : Value → Shared → Prop} (e : EnvOk env L sc cs) (S : St B r l s) (W : Wd K B) (hl : sc.names.lookup x = some .globalImplicit) (hv : nsIn K mainGlobals x = some none) (hb : bootBuiltins x = some v) (hn : x ≠ "__name__") (h : Q v s)
    (hd : (x == ("__debug__" : Str)) = false := by decide) : wpAny M A (eval (.Name x pos) env) Q E s := by
  obtain ⟨p, loose, mg, mb, T⟩ := W.top
  exact Name_function_global (e.scope ▸ e.fn) (by show env.scope.names.lookup x = _; rw [e.scope]; exact hl)
    (loadGlobal_builtin (e.glob ▸ (T _ S.over).g) (mg_none_of (W.in S.over) (T _ S.over).g hv) (e.bi ▸ (T _ S.over).b) (((T _ S.over).builtins x hn).trans hb) h) hd

theorem lookup_put (x : Str) (v : Value) (mp : List (Str × Value)) (m : Str → Option Value) (hm : ∀ y u, mp.lookup y = some u → m y = some u) :
    ∀ y u, ((x, v) :: mp).lookup y = some u → (fun y => if y = x then some v else m y) y = some u := fun y u e => by
  rw [List.lookup_cons] at e
  by_cases hy : (y == x) = true
  · rw [hy] at e; cases e
    exact if_pos (beq_iff_eq.mp hy)
  · have : (y == x) = false := by simpa using hy
    rw [this] at e
    show (if y = x then some v else m y) = _
    rw [if_neg (by simpa using hy)]; exact hm y u e

theorem stL {Q : Unit → Shared → Prop} (e : EnvOk env L sc cs) (S : St B r l s) (hp : Put L (FrO mp) (FrO ((x, v) :: mp)) l l') (hl : sc.names.lookup x = some .local)
    (h : ∀ s', St B r l' s' → Q () s') : wpAny M A (storeName env x v) Q E s := by
  obtain ⟨o, ho, hf⟩ := S.get hp.mem
  obtain ⟨m, hn, hm'⟩ := FrO.ns ho hf
  have hl' := e.loc
  subst hl'
  refine wpAny_storeName_local (by show env.scope.names.lookup x = _; rw [e.scope]; exact hl) hn (fun h' hn' hs' => h _ ?_)
    (by have := e.scope ▸ e.fn; show (env.scope.kind == .class || (env.scope.kind == .module && env.locals != env.globals)) = false; rw [e.scope, e.fn]; rfl)
  obtain ⟨o', ho', hf'⟩ := FrO.of_ns (mp := (x, v) :: mp) hn' (lookup_put x v mp m hm')
  exact S.upd hp rfl (fun b ob hb eb => (hs'.2 b hb).trans eb) ho' hf'
theorem stC {Q : Unit → Shared → Prop} {c : Addr} {v₀ : Option Value} (e : EnvOk env L sc cs) (S : St B r l s) (hl : sc.names.lookup x = some .cell) (hc : cs.lookup x = some c) (hp : Put c (CellO v₀) (CellO (some v)) l l')
    (h : ∀ s', St B r l' s' → Q () s') : wpAny M A (storeName env x v) Q E s := by
  obtain ⟨o, ho, hf⟩ := S.get hp.mem
  unfold CellO at hf
  refine wpAny_storeName_cell (e.scope ▸ e.fn) (by show env.scope.names.lookup x = _; rw [e.scope]; exact hl) (by rw [e.cells]; exact hc) ⟨o, ho, hf⟩ fun h' hc' hs' => h _ ?_
  obtain ⟨o', ho', hf'⟩ := hc'
  exact S.upd hp rfl (fun b ob hb eb => (hs'.2 b hb).trans eb) ho' (by unfold CellO; exact hf')
end

theorem bindL_look (kd : Str → Option NameKind) : ∀ (binds : List (Str × Value)) (m : Str → Option Value) (mp : List (Str × Value)), (∀ x v, mp.lookup x = some v → m x = some v) →
    ∀ x v, ((binds.reverse.filter fun p => decide (kd p.1 = some .local)) ++ mp).lookup x = some v → bindL kd binds m x = some v
  | [], m, mp, hm, x, v, e => hm x v (by simpa using e)
  | (n, u) :: rest, m, mp, hm, x, v, e => by
    unfold bindL
    rw [List.reverse_cons, List.filter_append, List.append_assoc] at e
    by_cases hk : kd n = some .local
    · rw [if_pos hk]
      refine bindL_look kd rest _ ((n, u) :: mp) (lookup_put n u mp m hm) x v ?_
      have : List.filter (fun p : Str × Value => decide (kd p.1 = some .local)) [(n, u)] = [(n, u)] := by simp [hk]
      rw [this] at e
      exact e
    · rw [if_neg hk]
      refine bindL_look kd rest _ mp hm x v ?_
      have : List.filter (fun p : Str × Value => decide (kd p.1 = some .local)) [(n, u)] = [] := by simp [hk]
      rw [this, List.nil_append] at e
      exact e

def cellLed (kd : Str → Option NameKind) (binds : List (Str × Value)) (cs : List (Str × Addr)) : Led := cs.map fun x => (x.2, CellO (bindC kd binds (fun _ => none) x.1))
def locMp (kd : Str → Option NameKind) (binds : List (Str × Value)) : List (Str × Value) := binds.reverse.filter fun p => decide (kd p.1 = some .local)

theorem lookup_of_mem {cs : List (Str × Addr)} (hn : (cs.map (·.1)).Nodup) {p : Str × Addr} (hp : p ∈ cs) : cs.lookup p.1 = some p.2 := by
  induction cs with
  | nil => cases hp
  | cons q t ih =>
    rw [List.map_cons, List.nodup_cons] at hn
    rw [List.lookup_cons]
    rcases List.mem_cons.mp hp with rfl | hp
    · simp
    · have : (p.1 == q.1) = false := by
        apply beq_eq_false_iff_ne.mpr
        intro e
        exact hn.1 (List.mem_map.mpr ⟨p, hp, e⟩)
      rw [this]
      exact ih hn.2 hp

theorem st_of_call {s₀ s : Shared} {L : Addr} {kd : Str → Option NameKind} {binds : List (Str × Value)} {cs : List (Str × Addr)} (x : InCallC s₀ L (bindL kd binds fun _ => none) cs (bindC kd binds fun _ => none) s)
    (hn : (cs.map (·.1)).Nodup) (hlo : mainGlobals < s₀.heap.objs.size) : St s₀.heap.get? (restOf s₀) ((L, FrO (locMp kd binds)) :: cellLed kd binds cs) s := by
  have hrest : restOf s = restOf s₀ := by obtain ⟨h, tk, rfl⟩ := x.toInCall.same; rfl
  have hL : s₀.heap.objs.size ≤ L := x.toInCall.fresh
  have none_of : ∀ a, s₀.heap.objs.size ≤ a → s₀.heap.get? a = none := fun a ha => by
    cases e : s₀.heap.get? a with
    | none => rfl
    | some o => exact absurd (Heap.lt_size e) (Nat.not_lt.mpr ha)
  refine ⟨hrest, x.toInCall.keep, fun p hp => ?_, fun p hp => ?_, fun p hp => ?_, ?_⟩
  · rcases List.mem_cons.mp hp with rfl | hp
    · refine FrO.of_ns x.toInCall.ns fun y v e => bindL_look kd binds _ [] (fun _ _ e => by cases e) y v ?_
      rw [List.append_nil]; exact e
    · obtain ⟨q, hq, rfl⟩ := List.mem_map.mp hp
      obtain ⟨o, ho, hd⟩ := x.cell q.1 q.2 (lookup_of_mem hn hq)
      exact ⟨o, ho, by unfold CellO; exact hd⟩
  · rcases List.mem_cons.mp hp with rfl | hp
    · exact none_of L hL
    · obtain ⟨q, hq, rfl⟩ := List.mem_map.mp hp
      exact none_of q.2 (Nat.le_trans hL (Nat.le_of_lt (x.above q.1 q.2 hq)))
  · rcases List.mem_cons.mp hp with rfl | hp
    · exact Nat.lt_of_lt_of_le hlo hL
    · obtain ⟨q, hq, rfl⟩ := List.mem_map.mp hp
      exact Nat.lt_trans (Nat.lt_of_lt_of_le hlo hL) (x.above q.1 q.2 hq)
  · rw [List.map_cons, List.nodup_cons]
    refine ⟨fun hm => ?_, ?_⟩
    · obtain ⟨p, hp, e⟩ := List.mem_map.mp hm
      obtain ⟨q, hq, rfl⟩ := List.mem_map.mp hp
      exact Nat.ne_of_gt (x.above q.1 q.2 hq) e
    · unfold cellLed
      rw [List.map_map]
      refine List.pairwise_map.mpr (x.apart.imp ?_)
      exact fun {a b} h => h

section
variable {prog : Program} {w : World} {A : Around} {E : Value → Shared → Prop} {s : Shared} {K : Frag}

/-- a def of the text is entered: its body from a frame of its own -/
theorem enterF {f : Addr} {oc : Value} {od : Option Addr} {osl : Array (Option Value)} {fd : FuncData} {body : List Stmt} {vals : List Value} {binds : List (Str × Value)} {n : Nat} {Q : Value → Shared → Prop}
    (W : Wd K s.heap.get?) (R : Rm A (n + 1)) (ho : K.lookup f = some ⟨oc, od, .func fd, osl⟩) (hcd : codeIn K fd.code fd.qualname = true) (hbody : fd.body = .stmts body) (hbind : bindArgs fd ⟨vals, []⟩ = pure binds)
    (hclo : fd.closure = []) (hg : fd.globals = mainGlobals) (hb : fd.builtins = builtinsNs) (hco : fd.scope.isCoroutine = false) (hgen : fd.scope.isGenerator = false) (hk : fd.scope.kind = .function)
    (hkind : (binds.all fun y => fd.scope.names.lookup y.1 == some .local || fd.scope.names.lookup y.1 == some .cell) = true) (hnd : ((cellsFrom 0 fd.scope.names []).map (·.1)).Nodup)
    (h : ∀ env s₁ L, EnvOk env L fd.scope (cellsFrom (L + 1) fd.scope.names []) →
      St s.heap.get? (restOf s) ((L, FrO (locMp (fun x => fd.scope.names.lookup x) binds)) :: cellLed (fun x => fd.scope.names.lookup x) binds (cellsFrom (L + 1) fd.scope.names [])) s₁ → Rm (A.deeper env) n →
      wpAny (model prog w) (A.deeper env) (execs body env) (fun f s' => Q (match f with | .ret v => v | _ => .none) s') (fun _ _ => False) s₁) :
    wpAny (model prog w) A (call (.ref f) vals) Q E s := by
  have O := overGet s
  have ho' := W.in O _ _ ho
  refine wpAny_call (codeAny_call_cells R.room ho' rfl (W.nolimit O) (codeRec_of (W.in O) hcd) hbody hbind hclo (kindsX hkind _) (fun s₁ x => ?_) hco hgen hk)
  have x' : InCallC s s.heap.objs.size (bindL (fun x => fd.scope.names.lookup x) binds fun _ => none) (cellsFrom (s.heap.objs.size + 1) fd.scope.names []) (bindC (fun x => fd.scope.names.lookup x) binds fun _ => none) s₁ := x
  have names : ∀ (names : List (Str × NameKind)) (n m : Nat) (acc acc' : List (Str × Addr)), acc.map (·.1) = acc'.map (·.1) → (cellsFrom n names acc).map (·.1) = (cellsFrom m names acc').map (·.1) := by
    intro names
    induction names with
    | nil => intro n m acc acc' e; exact e
    | cons q t ih =>
      intro n m acc acc' e
      obtain ⟨y, k⟩ := q
      unfold cellsFrom
      split
      · exact ih _ _ _ _ (by rw [List.map_cons, List.map_cons, e])
      · exact ih _ _ _ _ e
  have S := st_of_call x' (by rw [names _ _ 0 [] [] rfl]; exact hnd) (W.glo O)
  refine wpAny_mono (h (callEnvC fd s.heap.objs.size f) s₁ _ ⟨rfl, hg, hb, rfl, rfl, hk⟩ S (R.deeper _)) (fun _ _ q => q) fun _ _ q => q.elim
end
-- L3
set_option maxRecDepth 10000

theorem St.rid {B : Addr → Option Obj} {r : Rest} {l : Led} {s s' : Shared} {a : Addr} {P : Obj → Prop} (S : St B r ((a, P) :: l) s) (hr : restOf s' = restOf s) (hk : ∀ b o, b ≠ a → s.heap.get? b = some o → s'.heap.get? b = some o) : St B r l s' := by
  have hn := S.nodup
  rw [List.map_cons, List.nodup_cons] at hn
  refine ⟨hr.trans S.rest, fun b o e => hk b o (fun q => ?_) (S.over b o e), fun p hp => ?_, fun p hp => S.off p (.tail _ hp), fun p hp => S.lo p (.tail _ hp), hn.2⟩
  · have := S.off _ (List.Mem.head _)
    have this' : B a = none := this
    rw [← q, e] at this'; cases this'
  · obtain ⟨o, ho, h⟩ := S.led p (.tail _ hp)
    exact ⟨o, hk _ _ (fun e => hn.1 (List.mem_map.mpr ⟨p, hp, e⟩)) ho, h⟩

/-- a known object: it turns, or it stays -/
def Has (B : Addr → Option Obj) (l : Led) (a : Addr) (P : Obj → Prop) : Prop := (∃ P', (a, P') ∈ l ∧ ∀ o, P' o → P o) ∨ ∃ o, B a = some o ∧ P o
theorem Has.mem {B : Addr → Option Obj} {l : Led} {a : Addr} {P : Obj → Prop} (h : (a, P) ∈ l) : Has B l a P := .inl ⟨P, h, fun _ h => h⟩
theorem Has.memW {B : Addr → Option Obj} {l : Led} {a : Addr} {P P' : Obj → Prop} (h : (a, P') ∈ l) (x : ∀ o, P' o → P o) : Has B l a P := .inl ⟨P', h, x⟩
theorem Has.stay {B : Addr → Option Obj} {l : Led} {a : Addr} {P : Obj → Prop} {o : Obj} (h : B a = some o) (hp : P o) : Has B l a P := .inr ⟨o, h, hp⟩
theorem Has.get {B : Addr → Option Obj} {r : Rest} {l : Led} {s : Shared} {a : Addr} {P : Obj → Prop} (h : Has B l a P) (S : St B r l s) : ∃ o, s.heap.get? a = some o ∧ P o := by
  rcases h with ⟨P', hm, hp⟩ | ⟨o, hb, hp⟩
  · obtain ⟨o, ho, h⟩ := S.get hm; exact ⟨o, ho, hp o h⟩
  · exact ⟨o, S.over _ _ hb, hp⟩
theorem Has.cons {B : Addr → Option Obj} {l : Led} {a : Addr} {P : Obj → Prop} {p : Addr × (Obj → Prop)} (h : Has B l a P) : Has B (p :: l) a P :=
  h.imp (fun ⟨P', hm, hp⟩ => ⟨P', .tail _ hm, hp⟩) id
theorem Has.le {B B' : Addr → Option Obj} {l : Led} {a : Addr} {P : Obj → Prop} (h : Has B l a P) (x : LeB B B') : Has B' l a P := h.imp id fun ⟨o, hb, hp⟩ => ⟨o, x _ _ hb, hp⟩
theorem Has.imp {B : Addr → Option Obj} {l : Led} {a : Addr} {P P' : Obj → Prop} (h : Has B l a P) (x : ∀ o, P o → P' o) : Has B l a P' :=
  Or.imp (fun ⟨P'', hm, hp⟩ => ⟨P'', hm, fun o h => x o (hp o h)⟩) (fun ⟨o, hb, hp⟩ => ⟨o, hb, x o hp⟩) h
theorem Has.ne {B : Addr → Option Obj} {r : Rest} {l : Led} {s : Shared} {a b : Addr} {P P' : Obj → Prop} (h : Has B l a P) (S : St B r ((b, P') :: l) s) : a ≠ b := by
  have hn := S.nodup
  rw [List.map_cons, List.nodup_cons] at hn
  rcases h with ⟨P'', hm, _⟩ | ⟨o, hb, _⟩
  · exact fun e => hn.1 (List.mem_map.mpr ⟨_, hm, e⟩)
  · intro e
    have : B b = none := S.off _ (List.Mem.head _)
    rw [← e, hb] at this; cases this
theorem Has.mono {B : Addr → Option Obj} {l l' : Led} {a : Addr} {P : Obj → Prop} (h : Has B l a P) (x : ∀ p ∈ l, p ∈ l') : Has B l' a P := Or.imp (fun ⟨P', hm, hp⟩ => ⟨P', x _ hm, hp⟩) id h

/-- kinds -/
@[irreducible] def LstO (vs : List Value) : Obj → Prop := fun o => ∃ n, o = ({ cls := .type "list", data := .seq vs.toArray n } : Obj)
@[irreducible] def TupO (vs : List Value) : Obj → Prop := fun o => o = ({ cls := .type "tuple", data := .seq vs.toArray } : Obj)
@[irreducible] def LitO (a : Addr) (i : Nat) : Obj → Prop := fun o => o.cls = .type "list_iterator" ∧ o.data = .fields #[.ref a, .int i 0]
@[irreducible] def RngO (a b c : Int) : Obj → Prop := fun o => ∃ t u v, o = { cls := .type "range", dict := none, data := .fields #[.int a t, .int b u, .int c v], slots := #[] }
@[irreducible] def RitO (x left step : Int) : Obj → Prop := fun o => o = { cls := .type "range_iterator", dict := none, data := .fields #[rawInt x, rawInt left, rawInt step], slots := #[] }
def StrsO (ws : List Str) : Obj → Prop := fun o => ∃ vs, LstO vs o ∧ StrsAre vs ws
def IntsO (ns : List Int) : Obj → Prop := fun o => ∃ vs, LstO vs o ∧ IntsAre vs ns
@[irreducible] def LsO (vs : List Value) : Obj → Prop := fun o => o.cls = .type "list" ∧ ∃ n, o.data = .seq vs.toArray n
theorem LstO.ls {vs : List Value} (o : Obj) (h : LstO vs o) : LsO vs o := by
  unfold LstO at h
  unfold LsO
  obtain ⟨n, rfl⟩ := h
  exact ⟨rfl, n, rfl⟩
theorem LsO.isList {h : Heap} {a : Addr} {vs : List Value} {o : Obj} (ho : h.get? a = some o) (hp : LsO vs o) : h.IsList a vs.toArray := by
  unfold LsO at hp
  exact ⟨_, ho, hp.1, hp.2⟩
theorem Has.ls {B : Addr → Option Obj} {l : Led} {a : Addr} {vs : List Value} (h : (a, LstO vs) ∈ l) : Has B l a (LsO vs) := .memW h LstO.ls
theorem LstO.isList {h : Heap} {a : Addr} {vs : List Value} {o : Obj} (ho : h.get? a = some o) (hp : LstO vs o) : h.IsList a vs.toArray := by
  unfold LstO at hp
  obtain ⟨n, rfl⟩ := hp
  exact ⟨_, ho, rfl, n, rfl⟩
theorem LstO.isL {h : Heap} {a : Addr} {vs : List Value} {o : Obj} (ho : h.get? a = some o) (hp : LstO vs o) : ∃ n, IsL h a vs.toArray n := by
  unfold LstO at hp
  obtain ⟨n, rfl⟩ := hp
  exact ⟨n, ho⟩
theorem LitO.is {h : Heap} {a l : Addr} {i : Nat} {o : Obj} (ho : h.get? a = some o) (hp : LitO l i o) : h.IsListIter a l i := by
  unfold LitO at hp
  exact ⟨o, ho, hp.1, hp.2⟩
theorem LitO.of {h : Heap} {a l : Addr} {i : Nat} (x : h.IsListIter a l i) : ∃ o, h.get? a = some o ∧ LitO l i o := by
  unfold LitO
  obtain ⟨o, ho, a, b⟩ := x
  exact ⟨o, ho, a, b⟩

theorem St.remake {B : Addr → Option Obj} {r : Rest} {F F' l : Led} {s s' : Shared} (S : St B r (F ++ l) s) (hr : restOf s' = restOf s) (hk : ∀ c o, c ∉ F.map (·.1) → s.heap.get? c = some o → s'.heap.get? c = some o)
    (hF : ∀ p ∈ F', (p.1 ∈ F.map (·.1) ∨ (s.heap.get? p.1 = none ∧ mainGlobals < p.1)) ∧ ∃ o, s'.heap.get? p.1 = some o ∧ p.2 o) (hn : (F'.map (·.1)).Nodup) : St B r (F' ++ l) s' := by
  have hnd := S.nodup
  rw [List.map_append, List.nodup_append] at hnd
  obtain ⟨n1, n2, n3⟩ := hnd
  refine ⟨hr.trans S.rest, fun b o e => hk b o (fun hm => ?_) (S.over b o e), fun p hp => ?_, fun p hp => ?_, fun p hp => ?_, ?_⟩
  · obtain ⟨q, hq, e'⟩ := List.mem_map.mp hm
    have := S.off q (List.mem_append_left _ hq)
    have e'' : q.1 = b := e'
    rw [e'', e] at this; cases this
  · rcases List.mem_append.mp hp with hp | hp
    · exact (hF p hp).2
    · obtain ⟨o, ho, h⟩ := S.led p (List.mem_append_right _ hp)
      exact ⟨o, hk _ _ (fun hm => n3 _ hm _ (List.mem_map.mpr ⟨p, hp, rfl⟩) rfl) ho, h⟩
  · rcases List.mem_append.mp hp with hp | hp
    · rcases (hF p hp).1 with hm | ⟨hm, _⟩
      · obtain ⟨q, hq, e'⟩ := List.mem_map.mp hm
        have := S.off q (List.mem_append_left _ hq)
        have e'' : q.1 = p.1 := e'
        rw [← e'']; exact this
      · cases e : B p.1 with
        | none => rfl
        | some o => have := S.over _ _ e; rw [hm] at this; cases this
    · exact S.off p (List.mem_append_right _ hp)
  · rcases List.mem_append.mp hp with hp | hp
    · rcases (hF p hp).1 with hm | ⟨_, hm⟩
      · obtain ⟨q, hq, e'⟩ := List.mem_map.mp hm
        have := S.lo q (List.mem_append_left _ hq)
        have e'' : q.1 = p.1 := e'
        rw [← e'']; exact this
      · exact hm
    · exact S.lo p (List.mem_append_right _ hp)
  · rw [List.map_append, List.nodup_append]
    refine ⟨hn, n2, fun a ha b hb e => ?_⟩
    subst e
    obtain ⟨p, hp, e'⟩ := List.mem_map.mp ha
    obtain ⟨q, hq, e2⟩ := List.mem_map.mp hb
    rcases (hF p hp).1 with hm | ⟨hm, _⟩
    · exact n3 _ hm _ hb (e' : p.1 = a)
    · obtain ⟨o, ho, _⟩ := S.led q (List.mem_append_right _ hq)
      have e3 : q.1 = a := e2
      have e4 : p.1 = a := e'
      rw [e3, ← e4, hm] at ho; cases ho

structure Iter (prog : Program) (w : World) (I : Addr) (n : Nat) (item : Nat → Value → Prop) (F : Nat → Led) (M G : Nat → Value → Led) (tgt : PySem.Expr → Prop) (need : (Addr → Option Obj) → Led → Prop) : Prop where
  next : ∀ {A : Around} {E : Value → Shared → Prop} {B : Addr → Option Obj} {r : Rest} {l : Led} {s : Shared} {i : Nat} {Q : Option Value → Shared → Prop}, A.handled = none → i < n → St B r (F i ++ l) s → mainGlobals < s.heap.objs.size → need B l →
    (∀ v s', item i v → St B r (M i v ++ l) s' → Q (some v) s') → wpAny (model prog w) A (pyNext (.ref I)) Q E s
  done : ∀ {A : Around} {E : Value → Shared → Prop} {B : Addr → Option Obj} {r : Rest} {l : Led} {s : Shared} {Q : Option Value → Shared → Prop}, A.handled = none → St B r (F n ++ l) s → need B l →
    (∀ s', St B r l s' → Q none s') → wpAny (model prog w) A (pyNext (.ref I)) Q E s
  own : ∀ {A : Around} {E : Value → Shared → Prop} {B : Addr → Option Obj} {r : Rest} {l : Led} {s : Shared} {i : Nat} {v : Value} {target : PySem.Expr} {Q : Unit → Shared → Prop}, tgt target → item i v → St B r (M i v ++ l) s → (∀ s', St B r (G i v ++ l) s' → Q () s') →
    wpAny (model prog w) A (letOwnedTupleGo target (.ref I) v) Q E s
  self : ∀ {A : Around} {E : Value → Shared → Prop} {B : Addr → Option Obj} {r : Rest} {l : Led} {s : Shared} {i : Nat} {Q : Value → Shared → Prop}, St B r (F i ++ l) s → Q (.ref I) s →
    wpAny (model prog w) A (pyIter (.ref I)) Q E s

section
variable {prog : Program} {w : World} {A : Around} {E : Value → Shared → Prop} {s : Shared}

theorem letOwned_other {M : Model} {I : Addr} {o : Obj} {n : String} {v : Value} {target : PySem.Expr} {Q : Unit → Shared → Prop} (ho : s.heap.get? I = some o) (hc : o.cls = .type n)
    (hn : (["enumerate", "zip", "dict_itemiterator", "dict_reverseitemiterator", "odict_iterator", "itertools.zip_longest", "itertools.pairwise"] : List String).contains n = false) (h : Q () s) :
    wpAny M A (letOwnedTupleGo target (.ref I) v) Q E s := by
  have key : ∀ a, wpAny M A (do
      let o ← load I
      match o.cls, o.data with
      | .type n, .fields vs =>
        if ["enumerate", "zip", "dict_itemiterator", "dict_reverseitemiterator", "odict_iterator", "itertools.zip_longest", "itertools.pairwise"].contains n && vs[0]? == some (rawInt a) then
          rule "for.unpacks-the-owned-tuple"
          updateField I 0 .none
      | _, _ => pure () : Sem Unit) Q E s := fun a => by
    refine wpAny_bind (wpAny_load ho ?_)
    rw [hc]
    cases o.data <;> first | exact wpAny_pure h | (dsimp only; rw [hn]; exact wpAny_pure h)
  unfold letOwnedTupleGo
  cases v <;> cases target <;> first | exact wpAny_pure h | exact key _

theorem iterList (I a : Addr) (vs : List Value) (hl : vs.length ≤ sizeLine) : Iter prog w I vs.length (fun i v => vs[i]? = some v) (fun i => [(I, LitO a i)]) (fun i _ => [(I, LitO a (i + 1))]) (fun i _ => [(I, LitO a (i + 1))]) (fun _ => True) (fun B l => Has B l a (LsO vs)) where
  next := fun {A E B r l s i Q} hh hi S _ hn hQ => by
    obtain ⟨o, ho, hf⟩ := S.get (.head _)
    obtain ⟨oa, hoa, hfa⟩ := Has.get (hn.cons (p := (I, LitO a i))) S
    have hx : vs[i]? = some (vs[i]'hi) := List.getElem?_eq_getElem hi
    refine wpAny_pyNext_list_item (LitO.is ho hf) (LsO.isList hoa hfa) (x := vs[i]'hi) (by simp) fun h' hit hs => hQ _ _ hx ?_
    obtain ⟨o', ho', hf'⟩ := LitO.of hit
    exact S.upd .head rfl (fun b ob hb e => (hs.2 b hb).trans e) ho' hf'
  done := fun {A E B r l s Q} hh S hn hQ => by
    obtain ⟨o, ho, hf⟩ := S.get (.head _)
    obtain ⟨oa, hoa, hfa⟩ := Has.get (hn.cons (p := (I, LitO a vs.length))) S
    exact wpAny_pyNext_list_end hh (LitO.is ho hf) (LsO.isList hoa hfa) (by simp) fun h' hs => hQ _ (S.rid rfl fun b ob hb e => hs b ob hb e)
  own := fun {A E B r l s i v target Q} _ _ S hq => by
    obtain ⟨o, ho, hf⟩ := S.get (.head _)
    obtain ⟨o, ho, hc, _⟩ := LitO.is ho hf
    exact letOwned_other ho hc (by decide) (hq _ S)
  self := fun {A E B r l s i Q} S hq => by
    obtain ⟨o, ho, hf⟩ := S.get (.head _)
    exact wpAny_pyIter_listiter (LitO.is ho hf) hq

theorem iterRange (I : Addr) (a : Int) (n : Nat) : Iter prog w I n (fun i v => ∃ t, v = .int (a + i) t) (fun i => [(I, RitO (a + i) (n - i) 1)]) (fun i _ => [(I, RitO (a + ((i + 1 : Nat) : Int)) (n - ((i + 1 : Nat) : Int)) 1)]) (fun i _ => [(I, RitO (a + ((i + 1 : Nat) : Int)) (n - ((i + 1 : Nat) : Int)) 1)]) (fun _ => True) (fun _ _ => True) where
  next := fun {A E B r l s i Q} hh hi S _ hn hQ => by
    obtain ⟨o, ho, hf⟩ := S.get (.head _)
    unfold RitO at hf
    subst hf
    refine wpAny_pyNext_range_item ho (by omega) fun h' hit hs => hQ _ _ ⟨_, rfl⟩ ?_
    refine S.upd .head rfl (fun b ob hb e => (hs.2 b hb).trans e) hit ?_
    unfold RitO
    rw [show a + ((i + 1 : Nat) : Int) = a + (i : Int) + 1 by omega, show (n : Int) - ((i + 1 : Nat) : Int) = (n : Int) - (i : Int) - 1 by omega]
  done := fun {A E B r l s Q} hh S hn hQ => by
    obtain ⟨o, ho, hf⟩ := S.get (.head _)
    unfold RitO at hf
    subst hf
    exact wpAny_pyNext_range_end hh ho (by omega) fun h' hs => hQ _ (S.rid rfl fun b ob hb e => hs b ob hb e)
  own := fun {A E B r l s i v target Q} _ _ S hq => by
    obtain ⟨o, ho, hf⟩ := S.get (.head _)
    unfold RitO at hf
    subst hf
    exact letOwned_other ho rfl (by decide) (hq _ S)
  self := fun {A E B r l s i Q} S hq => by
    obtain ⟨o, ho, hf⟩ := S.get (.head _)
    unfold RitO at hf
    subst hf
    have hT : s.TypeIs (.ref I) "range_iterator" := ⟨_, ho, rfl⟩
    refine wpAny_pyIter_slot hT F.slot_range_iterator_iter (wpAny_call_entry F.slot_range_iterator_iter hT F.entry_range_iterator_iter ?_ (F.args_range_iterator_iter_1 _))
    show wpAny _ _ (ret (.ref I)) _ _ s
    exact wpAny_pure ⟨_, rfl, "range_iterator", _, hT, F.slot_range_iterator_next.lookup, hq⟩
end
-- L4
set_option maxRecDepth 10000

def relab (scope sc : Scope) : Scope := { scope with names := scope.names.map fun x => if (x.2 == .free && sc.kind == .function && sc.names.lookup x.1 == some .cell) then (x.1, .cell) else (x.1, x.2) }
def closL (cs : List (Str × Addr)) : List (Str × NameKind) → List (Str × Addr) → List (Str × Addr)
  | [], acc => acc
  | x :: r, acc => if x.2 == .free then closL cs r ((x.1, (cs.lookup x.1).getD 0) :: acc) else closL cs r acc

theorem closureFor_is {scope sc : Scope} {env : Env} {L : Addr} {cs : List (Str × Addr)} (e : EnvOk env L sc cs) (hall : (scope.names.all fun x => !(x.2 == .free) || (cs.lookup x.1).isSome) = true) :
    closureFor scope env = pure (closL cs scope.names []) := by
  have key : ∀ (names : List (Str × NameKind)) (acc : List (Str × Addr)), (names.all fun x => !(x.2 == .free) || (cs.lookup x.1).isSome) = true →
      (forIn names acc fun x (c : List (Str × Addr)) => if x.2 == .free then do let a ← cellOf env x.1; pure (ForInStep.yield ((x.1, a) :: c)) else pure (ForInStep.yield c) : Sem (List (Str × Addr))) = pure (closL cs names acc) := by
    intro names
    induction names with
    | nil => intro acc _; rfl
    | cons x r ih =>
      intro acc h
      rw [List.all_cons, Bool.and_eq_true] at h
      rw [List.forIn_cons]
      unfold closL
      by_cases hk : (x.2 == NameKind.free) = true
      · rw [if_pos hk, if_pos hk]
        have hs : (cs.lookup x.1).isSome = true := by have := h.1; rw [hk] at this; simpa using this
        obtain ⟨a, ha⟩ := Option.isSome_iff_exists.mp hs
        have : cellOf env x.1 = pure a := by unfold cellOf; rw [e.cells, ha]
        rw [this, ha]
        exact ih _ h.2
      · rw [if_neg hk, if_neg hk]
        exact ih _ h.2
  have := key scope.names [] hall
  rw [← this]
  unfold closureFor
  show (forIn scope.names [] _ >>= fun cs => pure cs) = _
  rw [bind_pure]

section
variable {prog : Program} {w : World} {A : Around} {E : Value → Shared → Prop} {s : Shared}

abbrev testsOf (ifs : List PySem.Expr) (env : Env) : Sem Bool := forIn ifs true fun c r => if r = true then do let ok ← isTrue c env (eval c env); pure (ForInStep.yield ok) else pure (ForInStep.yield r)

theorem list_append {B : Addr → Option Obj} {r : Rest} {l l' : Led} {D : Addr} {ys : List Value} {y : Value} {Q : Value → Shared → Prop} (S : St B r l s) (hp : Put D (LstO ys) (LstO (ys ++ [y])) l l') (hz : ys.length ≤ sizeLine)
    (h : ∀ s', St B r l' s' → Q .none s') : wpAny (model prog w) A (call (.builtin "list.append") [.ref D, y]) Q E s := by
  obtain ⟨o, ho, hf⟩ := S.get hp.mem
  obtain ⟨n, hL⟩ := LstO.isL ho hf
  have ho' := ho
  unfold LstO at hf
  obtain ⟨n', rfl⟩ := hf
  obtain ⟨k, hd'⟩ := Obj.data_mapSeq (o := ({ cls := .type "list", data := .seq ys.toArray n' } : Obj)) rfl (·.push y)
  refine wpAny_call_entry slot_list_append (⟨_, ho, rfl⟩ : s.TypeIs (.ref D) "list") entry_list_append ?_ (args_list_append _ _)
  show wpAny _ _ (updateSeq D (·.push y) >>= fun _ => ret .none) _ _ s
  refine wpAny_bind ?_
  refine wpAny_updateSeq ho rfl (wpAny_pure ⟨.none, rfl, h _ ?_⟩) (by simpa using hz)
  refine S.upd hp rfl (fun b ob hb e => (Heap.get?_update_other _ _ (Ne.symm hb)).trans e) (Heap.get?_update_self _ ho rfl) ?_
  unfold LstO
  refine ⟨(if (ys.toArray.push y).size == ys.toArray.size then n' else n' + 1), ?_⟩
  simp [Obj.mapSeq]

def Never : Value → Shared → Prop := fun _ _ => False

/-- what a comprehension's loop asks -/
structure CompAt (prog : Program) (w : World) (A : Around) (elt target : PySem.Expr) (ifs : List PySem.Expr) (scope sc : Scope) (cl : List (Str × Addr)) (it : Value) (s : Shared)
    (I : Addr) (n : Nat) (item : Nat → Value → Prop) (F : Nat → Led) (M G : Nat → Value → Led) (tgt : PySem.Expr → Prop) (need : (Addr → Option Obj) → Led → Prop) (B : Addr → Option Obj) (r : Rest) (l : Led)
    (J : Nat → List Value → (Addr → Option Obj) → Prop) : Prop where
  is : it = .ref I
  iter : Iter prog w I n item F M G tgt need
  okTarget : tgt target
  small : n ≤ sizeLine
  handled : A.handled = none
  glo : mainGlobals < s.heap.objs.size
  gl : ∀ {B' : Addr → Option Obj} {l' : Led} {s'}, St B' r l' s' → LeB B B' → mainGlobals < s'.heap.objs.size
  st : St B r (F 0 ++ l) s
  start : J 0 [] B
  len : ∀ i ys B', J i ys B' → ys.length ≤ i
  needs : ∀ B' l', LeB B B' → (∀ p ∈ l, p ∈ l') → need B' l'
  turn : ∀ i v ys B' C cenv D s, i < n → item i v → J i ys B' → LeB B B' → EnvOk cenv C (relab scope sc) cl → St B' r ((C, FrO []) :: (D, LstO ys) :: (G i v ++ l)) s →
    wpAny (model prog w) A (assign target cenv v) (fun _ s => wpAny (model prog w) A (testsOf ifs cenv) (fun ok s =>
      if ok = true then wpAny (model prog w) A (eval elt cenv) (fun y s' => ∃ B'' mp, LeB B' B'' ∧ J (i + 1) (ys ++ [y]) B'' ∧ St B'' r ((C, FrO mp) :: (D, LstO ys) :: (F (i + 1) ++ l)) s') Never s
      else ∃ B'' mp, LeB B' B'' ∧ J (i + 1) ys B'' ∧ St B'' r ((C, FrO mp) :: (D, LstO ys) :: (F (i + 1) ++ l)) s) Never s) Never s
theorem compTurn_own (elt target iter : PySem.Expr) (ifs : List PySem.Expr) (scope : Scope) (pos : Pos) (it acc : Value) (env : Env) {Q : PySem.Fin → Shared → Prop}
    (h : wpAny (model prog w) A (pyNext it) (fun r s₁ => match r with
      | none => Q (.done .next) s₁
      | some v => wpAny (model prog w) A (letOwnedTupleGo target it v) (fun _ s₁ => wpAny (model prog w) A (assign target env v) (fun _ s₂ => wpAny (model prog w) A (testsOf ifs env) (fun ok s₃ =>
          if ok = true then wpAny (model prog w) A (eval elt env) (fun x s₄ => wpAny (model prog w) A (call (.builtin "list.append") [acc, x]) (fun _ s₅ => Q (.again (.compLoop (.ListComp elt [⟨target, iter, ifs, 0⟩] scope pos) 0 it acc env)) s₅) E s₄) E s₃
          else Q (.again (.compLoop (.ListComp elt [⟨target, iter, ifs, 0⟩] scope pos) 0 it acc env)) s₃) E s₂) E s₁) E s₁) E s) :
    wpAny (model prog w) A (compTurn (.ListComp elt [⟨target, iter, ifs, 0⟩] scope pos) 0 it acc env) Q E s := by
  rw [compTurn_list]
  refine wpAny_bind (wpAny_standAt (wpAny_bind (wpAny_mono h (fun r s₁ h₁ => ?_) fun _ _ h' => h')))
  cases r with
  | none => exact wpAny_pure h₁
  | some v =>
    refine wpAny_bind (wpAny_mono h₁ (fun _ s₁ h₁ => ?_) fun _ _ h' => h')
    refine wpAny_bind (wpAny_mono h₁ (fun _ s₂ h₂ => wpAny_bind (wpAny_mono h₂ (fun ok s₃ h₃ => ?_) fun _ _ h' => h')) fun _ _ h' => h')
    cases ok with
    | false => exact wpAny_pure h₃
    | true => exact wpAny_bind (wpAny_bind (wpAny_mono h₃ (fun x s₄ h₄ => wpAny_bind (wpAny_mono h₄ (fun _ s₅ h₅ => wpAny_pure (wpAny_pure h₅)) fun _ _ h' => h')) fun _ _ h' => h'))


theorem perm2 {α : Type} {F l : List α} {c d : α} : (F ++ (c :: d :: l)).Perm (c :: d :: (F ++ l)) := (List.perm_middle).trans (List.Perm.cons _ List.perm_middle)
theorem wpAny_never {α : Type} {M : Model} {t : Sem α} {Q : α → Shared → Prop} (h : wpAny M A t Q Never s) : wpAny M A t Q E s := wpAny_mono h (fun _ _ q => q) fun _ _ q => q.elim

theorem St.frames {B : Addr → Option Obj} {r : Rest} {l : Led} {C : Addr} {mp : List (Str × Value)} (S : St B r ((C, FrO mp) :: l) s) : St B r ((C, FrO []) :: l) s :=
  S.weaken .head (FrO.less trivial)

theorem compCore {elt target iter : PySem.Expr} {ifs : List PySem.Expr} {scope sc : Scope} {pos : Pos} {cl : List (Str × Addr)} {R : Result → Shared → Prop} {it : Value} {s₀ : Shared} {C D : Addr} {cenv : Env}
    {I : Addr} {n : Nat} {item : Nat → Value → Prop} {F : Nat → Led} {M G : Nat → Value → Led} {tgt : PySem.Expr → Prop} {need : (Addr → Option Obj) → Led → Prop} {B : Addr → Option Obj} {r : Rest} {l : Led} {J : Nat → List Value → (Addr → Option Obj) → Prop}
    (H : CompAt prog w A elt target ifs scope sc cl it s₀ I n item F M G tgt need B r l J) (e : EnvOk cenv C (relab scope sc) cl)
    (S : St B r ((C, FrO []) :: (D, LstO []) :: (F 0 ++ l)) s)
    (done : ∀ f ys B' s', J n ys B' → LeB B B' → St B' r ((C, FrO []) :: (D, LstO ys) :: l) s' → R (.ok f) s') :
    codeAny (model prog w) A (.compStart (.ListComp elt [⟨target, iter, ifs, 0⟩] scope pos) 0 it (.ref D) cenv) R s := by
  have hit := H.is
  subst hit
  have loop : ∀ (k : Nat) (i : Nat) (ys : List Value) B' s', k = n - i → i ≤ n → J i ys B' → LeB B B' → St B' r ((C, FrO []) :: (D, LstO ys) :: (F i ++ l)) s' →
      codeAny (model prog w) A (.compLoop (.ListComp elt [⟨target, iter, ifs, 0⟩] scope pos) 0 (.ref I) (.ref D) cenv) R s' := by
    intro k
    induction k with
    | zero =>
      intro i ys B' s' hk hi hJ hle S
      have : i = n := by omega
      subst this
      refine codeAny_of_tree ?_
      show wpAny _ A ((compTurn (.ListComp elt [⟨target, iter, ifs, 0⟩] scope pos) 0 (.ref I) (.ref D) _).onRaise (fun x => do noteFrame x _; theTreesLotGoes x)) _ _ s'
      refine wpAny_noted (compTurn_own _ _ _ _ _ _ _ _ _ (wpAny_never ?_))
      have S' : St B' r (F i ++ ((C, FrO []) :: (D, LstO ys) :: l)) s' := S.perm perm2
      exact H.iter.done H.handled S' (H.needs _ _ hle fun p hp => .tail _ (.tail _ hp)) fun s'' S'' => done _ _ _ _ hJ hle S''
    | succ k ih =>
      intro i ys B' s' hk hi hJ hle S
      refine codeAny_of_tree ?_
      show wpAny _ A ((compTurn (.ListComp elt [⟨target, iter, ifs, 0⟩] scope pos) 0 (.ref I) (.ref D) _).onRaise (fun x => do noteFrame x _; theTreesLotGoes x)) _ _ s'
      refine wpAny_noted (compTurn_own _ _ _ _ _ _ _ _ _ (wpAny_never ?_))
      have S' : St B' r (F i ++ ((C, FrO []) :: (D, LstO ys) :: l)) s' := S.perm perm2
      refine H.iter.next H.handled (by omega) S' (H.gl S' hle) (H.needs _ _ hle fun p hp => .tail _ (.tail _ hp)) fun v s'' hv S'' => ?_
      refine H.iter.own H.okTarget hv S'' fun s'' S'' => ?_
      have S3 : St B' r ((C, FrO []) :: (D, LstO ys) :: (G i v ++ l)) s'' := S''.perm perm2.symm
      refine wpAny_never (wpAny_mono (H.turn i v ys B' C _ D s'' (by omega) hv hJ hle e S3) (fun _ s₂ h₂ => wpAny_never (wpAny_mono h₂ (fun ok s₃ h₃ => ?_) fun _ _ q => q.elim)) fun _ _ q => q.elim)
      cases ok with
      | true =>
        rw [if_pos rfl] at h₃ ⊢
        refine wpAny_mono h₃ (fun y s₄ ⟨B'', mp, hle', hJ', S₄⟩ => ?_) fun _ _ q => q.elim
        refine list_append S₄ (.tail .head) (Nat.le_trans (H.len _ _ _ hJ) (Nat.le_trans hi H.small)) fun s₅ S₅ => ?_
        exact ⟨rfl, ih (i + 1) _ B'' s₅ (by omega) (by omega) hJ' (hle.trans hle') S₅.frames⟩
      | false =>
        rw [if_neg (by decide)] at h₃ ⊢
        obtain ⟨B'', mp, hle', hJ', S₄⟩ := h₃
        exact ⟨rfl, ih (i + 1) _ B'' s₃ (by omega) (by omega) hJ' (hle.trans hle') S₄.frames⟩
  have fin := loop n 0 [] B s (by omega) (Nat.zero_le _) H.start (LeB.refl _) S
  exact codeAny_compStart_list fin (H.iter.self (S.perm perm2) fin)

theorem compEnter {elt target iter : PySem.Expr} {ifs : List PySem.Expr} {scope sc : Scope} {pos : Pos} {env : Env} {L : Addr} {cs : List (Str × Addr)} {use : Option (Value → Sem Unit)} {Q' : Value → Shared → Prop}
    (e : EnvOk env L sc cs) (hall : (scope.names.all fun x => !(x.2 == .free) || (cs.lookup x.1).isSome) = true) (hcell : ∀ y ∈ scope.names, y.2 ≠ .cell) (hkind : scope.kind = .function)
    (hnames : ∀ y ∈ scope.names, y.2 = .local → scope.names.lookup y.1 = some .local)
    (hs : ∀ x, foldedSetIterable iter env x = pure x)
    (h : wpAny (model prog w) A (eval iter env) (fun xv s₁ => wpAny (model prog w) A (pyIter xv) (fun it s₂ =>
      ∃ I n item F M G tgt need B r l J, CompAt prog w A elt target ifs scope sc (closL cs scope.names []) it s₂ I n item F M G tgt need B r l J ∧
       ∀ ys B' C D s', J n ys B' → LeB B B' → St B' r ((C, FrO []) :: (D, LstO ys) :: l) s' → ∀ f, compPost (model prog w) A E use Q' (.ref D) C (.ok f) s') E s₁) E s)
     :
    wpAny (model prog w) A (comprehension (.ListComp elt [⟨target, iter, ifs, 0⟩] scope pos) scope env (firstIterPos [⟨target, iter, ifs, 0⟩] pos) (newList []) false (eval iter env) use) Q' E s := by
  have hrel : relabel scope env = relab scope sc := by
    unfold relabel relab
    congr 1
    refine List.map_congr_left fun x _ => ?_
    obtain ⟨n, k⟩ := x
    have : env.kindOf n = sc.names.lookup n := by show env.scope.names.lookup n = _; rw [e.scope]
    simp only [this, e.scope]
  refine wpAny_comprehension_free (use := use) rfl hs (closureFor_is e hall) hkind hnames (wpAny_mono h (fun xv s₁ h₁ => wpAny_mono h₁ (fun it s₂ h₂ => ?_) fun _ _ e => e) fun _ _ e => e)
  obtain ⟨I, n, item, F, M, G, tgt, need, B, r, l, J, H, hdone⟩ := h₂
  refine wpAny_newObj_type (wpAny_newFunctionEnv hcell (by intro y hy; simp at hy) (fun h₁ hns₁ hsb₁ => ?_) hkind)
  dsimp only at hns₁ hsb₁ ⊢
  generalize hH2 : s₂.heap.push { cls := .type "list", dict := none, data := .seq ([] : List Value).toArray } = H2 at hns₁ hsb₁ ⊢
  have none_at : ∀ h : Heap, h.get? h.objs.size = none := fun h => by
    cases q : h.get? h.objs.size with
    | none => rfl
    | some o => exact absurd (Heap.lt_size q) (Nat.lt_irrefl _)
  have S₂ : St B r ((s₂.heap.objs.size, LstO []) :: (F 0 ++ l)) { s₂ with heap := H2 } := by
    refine H.st.new ⟨rfl, fun b o q => hH2 ▸ Heap.get?_push_of_some _ q⟩ ⟨none_at _, H.glo, ⟨_, hH2 ▸ Heap.get?_push_size _ rfl, ?_⟩⟩
    unfold LstO
    exact ⟨0, rfl⟩
  have hglo2 : mainGlobals < H2.objs.size := by rw [← hH2, Heap.size_push]; exact Nat.lt_succ_of_lt H.glo
  have keep₁ : ∀ b o, H2.get? b = some o → h₁.get? b = some o := fun b o q => hsb₁.extBut b o (Nat.ne_of_lt (Heap.lt_size q)) (Heap.get?_push_of_some _ q)
  have S₃ : St B r ((H2.objs.size, FrO []) :: (s₂.heap.objs.size, LstO []) :: (F 0 ++ l)) { s₂ with heap := h₁, toks := s₂.toks + ([] : List (Str × Value)).length } :=
    S₂.new ⟨rfl, keep₁⟩ ⟨none_at _, hglo2, FrO.of_ns hns₁ (fun _ _ q => by cases q)⟩
  refine compCore H ⟨rfl, e.glob, e.bi, hrel, rfl, hkind⟩ S₃ fun f ys B' s' hJ hle S => hdone _ _ _ _ _ hJ hle S f

/-- a list comprehension, read -/
theorem listComp {elt target iter : PySem.Expr} {ifs : List PySem.Expr} {scope sc : Scope} {pos : Pos} {env : Env} {L : Addr} {cs : List (Str × Addr)} {Q : Value → Shared → Prop}
    (e : EnvOk env L sc cs) (hall : (scope.names.all fun x => !(x.2 == .free) || (cs.lookup x.1).isSome) = true) (hcell : ∀ y ∈ scope.names, y.2 ≠ .cell) (hkind : scope.kind = .function)
    (hnames : ∀ y ∈ scope.names, y.2 = .local → scope.names.lookup y.1 = some .local)
    (hs : ∀ x, foldedSetIterable iter env x = pure x)
    (h : wpAny (model prog w) A (eval iter env) (fun xv s₁ => wpAny (model prog w) A (pyIter xv) (fun it s₂ =>
      ∃ I n item F M G tgt need B r l J, CompAt prog w A elt target ifs scope sc (closL cs scope.names []) it s₂ I n item F M G tgt need B r l J ∧
        ∀ ys B' D s', J n ys B' → LeB B B' → St B' r ((D, LstO ys) :: l) s' → Q (.ref D) s') E s₁) E s) :
    wpAny (model prog w) A (eval (.ListComp elt [⟨target, iter, ifs, 0⟩] scope pos) env) Q E s := by
  rw [eval_ListComp]
  refine compEnter (Q' := Q) (use := none) e hall hcell hkind hnames hs (wpAny_mono h (fun xv s₁ h₁ => wpAny_mono h₁ (fun it s₂ h₂ => ?_) fun _ _ e => e) fun _ _ e => e)
  obtain ⟨I, n, item, F, M, G, tgt, need, B, r, l, J, H, done⟩ := h₂
  refine ⟨I, n, item, F, M, G, tgt, need, B, r, l, J, H, fun ys B' C D s' hJ hle S f => ?_⟩
  obtain ⟨o, ho, hf⟩ := S.get (.head _)
  obtain ⟨m, hn, _⟩ := FrO.ns ho hf
  exact ⟨m, hn, fun h' hsb => done _ _ _ _ hJ hle (S.rid (s' := { s' with heap := h' }) rfl fun b ob hb q => (hsb.2 b hb).trans q)⟩

theorem exec_Assign_used (value pos) (env : Env) (x : Str) (pos' : Pos) (hs : swapsWith value (some (.Name x pos')) pos.line env = pure true) :
    exec (.Assign [.Name x pos'] value pos) env = (do standAt pos; evalThenUse value env (assign (.Name x pos') env); pure .next) := by
  have e : exec (.Assign [.Name x pos'] value pos) env = (do
      standAt pos
      if ← swapsWith value (some (.Name x pos')) pos.line env then
        evalThenUse value env (assign (.Name x pos') env)
        return .next
      let v ← eval value env
      standAt pos'
      bindName env x v
      pure .next) := rfl
  rw [e, hs]; rfl

theorem swaps_of {elt : PySem.Expr} {gens : List Comprehension} {scope sc : Scope} {pos pos' : Pos} {line : Nat} {x : Str} {env : Env} {L : Addr} {cs : List (Str × Addr)} (e : EnvOk env L sc cs) (hl : sc.names.lookup x = some .local)
    (h : (pos'.line == pos.line && !(scope.names.any fun p => p.1 == x && (p.2 == .local || p.2 == .cell))) = true) :
    swapsWith (.ListComp elt gens scope pos) (some (.Name x pos')) line env = pure true := by
  have h1 : env.kindOf x = some .local := by show env.scope.names.lookup x = _; rw [e.scope]; exact hl
  have h2 : env.blockKind = .function := by
    unfold Env.blockKind
    rw [e.scope, e.fn]
    first | rfl | simp
  have h3 : swapsWith (.ListComp elt gens scope pos) (some (.Name x pos')) line env = pure (env.blockKind == .function && env.kindOf x == some .local && pos'.line == pos.line
      && !(scope.names.any fun p => p.1 == x && (p.2 == .local || p.2 == .cell))) := rfl
  rw [h3, h1, h2]
  rw [Bool.and_eq_true] at h
  rw [h.1, h.2]
  rfl
/-- `x = [.. for ..]` where the compiler lays the store within -/
theorem listCompStore {elt target iter : PySem.Expr} {ifs : List PySem.Expr} {scope sc : Scope} {pos pos' spos : Pos} {x : Str} {env : Env} {L : Addr} {cs : List (Str × Addr)} {Q : Flow → Shared → Prop}
    (hsw : (pos'.line == pos.line && !(scope.names.any fun p => p.1 == x && (p.2 == .local || p.2 == .cell))) = true)
    (e : EnvOk env L sc cs) (hall : (scope.names.all fun x => !(x.2 == .free) || (cs.lookup x.1).isSome) = true) (hcell : ∀ y ∈ scope.names, y.2 ≠ .cell) (hkind : scope.kind = .function)
    (hnames : ∀ y ∈ scope.names, y.2 = .local → scope.names.lookup y.1 = some .local)
    (hs : ∀ x, foldedSetIterable iter env x = pure x) (hl : sc.names.lookup x = some .local)
    (h : wpAny (model prog w) A (eval iter env) (fun xv s₁ => wpAny (model prog w) A (pyIter xv) (fun it s₂ =>
      ∃ I n item F M G tgt need B r l J, CompAt prog w A elt target ifs scope sc (closL cs scope.names []) it s₂ I n item F M G tgt need B r l J ∧
       ∃ mp, ∃ l' : Addr → Led, (∀ D, Put L (FrO mp) (FrO ((x, .ref D) :: mp)) l (l' D)) ∧ ∀ ys B' D s', J n ys B' → LeB B B' → St B' r ((D, LstO ys) :: l' D) s' → Q .next s') E s₁) E s) :
    wpAny (model prog w) A (exec (.Assign [.Name x pos'] (.ListComp elt [⟨target, iter, ifs, 0⟩] scope pos) spos) env) Q E s := by
  rw [exec_Assign_used _ _ _ _ _ (swaps_of e hl hsw)]
  refine wpAny_bind (wpAny_standAt (wpAny_bind ?_))
  show wpAny _ _ (comprehension (.ListComp elt [⟨target, iter, ifs, 0⟩] scope pos) scope env _ (newList []) false _ (some (assign (.Name x pos') env)) >>= _) _ _ _
  refine wpAny_bind (compEnter (Q' := fun _ s => wpAny (model prog w) A (pure ()) (fun _ s => wpAny (model prog w) A (pure Flow.next) Q E s) E s) (use := some (assign (.Name x pos') env)) e hall hcell hkind hnames hs
    (wpAny_mono h (fun xv s₁ h₁ => wpAny_mono h₁ (fun it s₂ h₂ => ?_) fun _ _ e => e) fun _ _ e => e))
  obtain ⟨I, n, item, F, M, G, tgt, need, B, r, l, J, H, mp, l', hput, done⟩ := h₂
  refine ⟨I, n, item, F, M, G, tgt, need, B, r, l, J, H, fun ys B' C D s' hJ hle S f => ?_⟩
  show wpAny _ A (assign (.Name x pos') env (.ref D)) _ _ _
  refine wpAny_assign_Name (stL e S (.tail (.tail (hput D))) hl fun s'' S'' => ?_)
  obtain ⟨o, ho, hf⟩ := S''.get (.head _)
  obtain ⟨m, hn, _⟩ := FrO.ns ho hf
  exact ⟨m, hn, fun h' hsb => wpAny_pure (wpAny_pure (done _ _ _ _ hJ hle (S''.rid (s' := { s'' with heap := h' }) rfl fun b ob hb q => (hsb.2 b hb).trans q)))⟩
end
-- L5
set_option maxRecDepth 10000

local macro_rules | `(tactic| kcj_m) => `(tactic| ((repeat (first | exact List.Mem.head _ | apply List.Mem.tail)); done))
local macro_rules | `(tactic| kcf_m) => `(tactic| ((repeat (first | exact Put.head | apply Put.tail)); done))

section
variable {prog : Program} {w : World} {A : Around} {E : Value → Shared → Prop} {s : Shared} {B : Addr → Option Obj} {r : Rest} {l l' : Led} {K : Frag} {env : Env} {L : Addr} {sc : Scope} {cs : List (Str × Addr)} {Q : Value → Shared → Prop}

theorem heap_none (h : Heap) : h.get? h.objs.size = none := by
  cases q : h.get? h.objs.size with
  | none => rfl
  | some o => exact absurd (Heap.lt_size q) (Nat.lt_irrefl _)

theorem St.push {o : Obj} {P : Obj → Prop} (S : St B r l s) (W : Wd K B) (hf : o.isFreed = false) (hp : P o) (tk : Nat) : St B r ((s.heap.objs.size, P) :: l) { s with heap := s.heap.push o, toks := tk } :=
  S.new ⟨rfl, fun b ob e => Heap.get?_push_of_some _ e⟩ ⟨heap_none _, W.glo S.over, ⟨o, Heap.get?_push_size _ hf, hp⟩⟩
theorem St.pushOnly {o : Obj} (S : St B r l s) (tk : Nat) : St B r l { s with heap := s.heap.push o, toks := tk } :=
  S.ext ⟨rfl, fun b ob e => Heap.get?_push_of_some _ e⟩

theorem cInt {i k pos} (S : St B r l s) (h : ∀ t s', St B r l s' → Q (.int i t) s') : wpAny (model prog w) A (eval (.Constant (.int i) k pos) env) Q E s := wpAny_Constant_int (h _ _ (S.tok _))
theorem cStr {x : Str} {k pos} (S : St B r l s) (h : ∀ t s', St B r l s' → Q (.str x t) s') : wpAny (model prog w) A (eval (.Constant (.str x) k pos) env) Q E s := wpAny_Constant_str (h _ _ (S.tok _))

theorem addI {a b : Int} {t u : Tok} (S : St B r l s) (h : ∀ t s', St B r l s' → Q (.int (a + b) t) s') : wpAny (model prog w) A (binaryOp .Add (.int a t) (.int b u)) Q E s := wpAny_add_int (h _ _ (S.tok _))
theorem iaddI {a b : Int} {t u : Tok} (S : St B r l s) (h : ∀ t s', St B r l s' → Q (.int (a + b) t) s') : wpAny (model prog w) A (inplaceOp .Add (.int a t) (.int b u)) Q E s := wpAny_iadd_int (h _ _ (S.tok _))
theorem subI {a b : Int} {t u : Tok} (S : St B r l s) (h : ∀ t s', St B r l s' → Q (.int (a - b) t) s') : wpAny (model prog w) A (binaryOp .Sub (.int a t) (.int b u)) Q E s := PyProof.Rows.sub_int (h _ _ (S.tok _))
theorem mulI {a b : Int} {t u : Tok} (S : St B r l s) (hm : IntMulOk a b) (h : ∀ t s', St B r l s' → Q (.int (a * b) t) s') : wpAny (model prog w) A (binaryOp .Mult (.int a t) (.int b u)) Q E s := PyProof.Rows.mul_int (h _ _ (S.tok _)) hm
theorem modI {a b : Int} {t u : Tok} (S : St B r l s) (hb : b ≠ 0) (h : ∀ t s', St B r l s' → Q (.int (a.fmod b) t) s') : wpAny (model prog w) A (binaryOp .Mod (.int a t) (.int b u)) Q E s := PyProof.Rows.mod_int hb (h _ _ (S.tok _))
theorem fdivI {a b : Int} {t u : Tok} (S : St B r l s) (hb : b ≠ 0) (hs : b.natAbs < 1073741824) (h : ∀ t s', St B r l s' → Q (.int (a.fdiv b) t) s') : wpAny (model prog w) A (binaryOp .FloorDiv (.int a t) (.int b u)) Q E s := PyProof.Rows.floordiv_int hb (h _ _ (S.tok _)) (.inl (PyProof.noPylong_small hs))
theorem absI {a : Int} {t : Tok} (S : St B r l s) (h : ∀ t s', St B r l s' → Q (.int (if a < 0 then -a else a) t) s') : wpAny (model prog w) A (call (.builtin "abs") [.int a t]) Q E s := PyProof.Rows.call_abs_int fun _ tk => h _ _ (S.tok tk)
theorem addS {x y : Str} {t u : Tok} (S : St B r l s) (hx : (x ++ y).length ≤ sizeLine) (h : ∀ t s', St B r l s' → Q (.str (x ++ y) t) s') : wpAny (model prog w) A (binaryOp .Add (.str x t) (.str y u)) Q E s := by
  refine P.add_str ?_
  by_cases h1 : (x.length == 0) = true
  · rw [if_pos h1]
    have : x ++ y = y := by
      have hc : x.cps = #[] := Array.size_eq_zero_iff.mp (by have := beq_iff_eq.mp h1; exact this)
      show (⟨x.cps ++ y.cps⟩ : Str) = y
      rw [hc]; simp
    have hh := h u s S
    rw [this] at hh
    exact hh
  · rw [if_neg h1]
    by_cases h2 : (y.length == 0) = true
    · rw [if_pos h2]
      have : x ++ y = x := by
        have hc : y.cps = #[] := Array.size_eq_zero_iff.mp (by have := beq_iff_eq.mp h2; exact this)
        show (⟨x.cps ++ y.cps⟩ : Str) = x
        rw [hc]; simp
      have hh := h t s S
      rw [this] at hh
      exact hh
    · rw [if_neg h2]
      exact ⟨hx, h _ _ (S.tok _)⟩
theorem lenS {x : Str} {t : Tok} (S : St B r l s) (hfit : x.length ≤ sizeLine) (h : ∀ t s', St B r l s' → Q (.int x.length t) s') : wpAny (model prog w) A (call (.builtin "len") [.str x t]) Q E s :=
  P.len_str (by have := sizeLine_eq; omega) (h _ _ (S.tok _))
theorem lenL {a : Addr} {vs : List Value} (S : St B r l s) (hm : Has B l a (LsO vs)) (hfit : vs.length ≤ 1000) (h : ∀ t s', St B r l s' → Q (.int vs.length t) s') : wpAny (model prog w) A (call (.builtin "len") [.ref a]) Q E s := by
  obtain ⟨o, ho, hf⟩ := hm.get S
  refine call_len_list (LsO.isList ho hf) (by have := sizeLine_eq; simp; omega) ?_
  have := h (s.toks + 1) _ (S.tok (s.toks + 1 + 1))
  simpa using this

def TupAt (Q : Value → Shared → Prop) (vs : List Value) (s : Shared) : Prop := vs.length ≤ sizeLine ∧ Q (.ref s.heap.objs.size) { s with heap := s.heap.push { cls := .type "tuple", data := .seq vs.toArray } }
def LstAt (Q : Value → Shared → Prop) (vs : List Value) (s : Shared) : Prop := vs.length ≤ sizeLine ∧ Q (.ref s.heap.objs.size) { s with heap := s.heap.push { cls := .type "list", data := .seq vs.toArray } }
theorem tupE {elts : List PySem.Expr} {x1} {pos : Pos} (h : wpAny (model prog w) A (spliced (backTo pos (starEach elts env))) (TupAt Q) E s) : wpAny (model prog w) A (eval (.Tuple elts x1 pos) env) Q E s := wpAny_Tuple_spliced h
theorem lstE {elts : List PySem.Expr} {pos : Pos} (h : wpAny (model prog w) A (spliced (backTo pos (starEach elts env))) (LstAt Q) E s) : wpAny (model prog w) A (eval (.List elts pos) env) Q E s := wpAny_List_spliced h
theorem tupK {vs : List Value} (S : St B r l s) (W : Wd K B) (hl : vs.length ≤ sizeLine) (h : ∀ a s', St B r ((a, TupO vs) :: l) s' → Q (.ref a) s') : TupAt Q vs s :=
  ⟨hl, h _ _ (S.push W rfl (by unfold TupO; rfl) s.toks)⟩
theorem lstK {vs : List Value} (S : St B r l s) (W : Wd K B) (hl : vs.length ≤ sizeLine) (h : ∀ a s', St B r ((a, LstO vs) :: l) s' → Q (.ref a) s') : LstAt Q vs s :=
  ⟨hl, h _ _ (S.push W rfl (by unfold LstO; exact ⟨0, rfl⟩) s.toks)⟩
theorem iterL {a : Addr} {vs : List Value} (S : St B r l s) (W : Wd K B) (hm : Has B l a (LsO vs)) (h : ∀ I s', St B r ((I, LitO a 0) :: l) s' → Q (.ref I) s') : wpAny (model prog w) A (pyIter (.ref a)) Q E s := by
  obtain ⟨o, ho, hf⟩ := hm.get S
  exact wpAny_pyIter_list (LsO.isList ho hf) (h _ _ (S.push W rfl (by unfold LitO; exact ⟨rfl, rfl⟩) s.toks))
theorem rng1 {n : Int} {t : Tok} (S : St B r l s) (W : Wd K B) (h : ∀ a s', St B r ((a, RngO 0 n 1) :: l) s' → Q (.ref a) s') : wpAny (model prog w) A (call (.type "range") [.int n t]) Q E s :=
  call_range_1 (h _ _ (S.push W rfl (by unfold RngO; exact ⟨_, _, _, rfl⟩) _))
theorem rng2 {m n : Int} {t u : Tok} (S : St B r l s) (W : Wd K B) (h : ∀ a s', St B r ((a, RngO m n 1) :: l) s' → Q (.ref a) s') : wpAny (model prog w) A (call (.type "range") [.int m t, .int n u]) Q E s :=
  call_range_2 (h _ _ (S.push W rfl (by unfold RngO; exact ⟨_, _, _, rfl⟩) _))
theorem rangeSize_nat (m n : Int) : Builtin.Range.rangeSize m n 1 = ((n - m).toNat : Int) := by
  rw [rangeSize_one]; split <;> omega
theorem iterR {a : Addr} {m n : Int} (S : St B r ((a, RngO m n 1) :: l) s) (W : Wd K B) (hm : -(2 ^ 62) ≤ m) (hm' : m < 2 ^ 62) (hn : -(2 ^ 62) ≤ n) (hn' : n < 2 ^ 62)
    (h : ∀ I s', St B r ((I, RitO (m + ((0 : Nat) : Int)) (((n - m).toNat : Int) - ((0 : Nat) : Int)) 1) :: l) s' → Q (.ref I) s') : wpAny (model prog w) A (pyIter (.ref a)) Q E s := by
  obtain ⟨o, ho, hf⟩ := S.get (.head _)
  unfold RngO at hf
  obtain ⟨t, u, v, rfl⟩ := hf
  refine wpAny_pyIter_range ho (small_one hm hm' hn hn') ?_
  have S' : St B r l s := S.sub (List.sublist_cons_self _ _)
  refine h _ _ (S'.push W rfl ?_ s.toks)
  unfold RitO
  rw [rangeSize_nat, show m + ((0 : Nat) : Int) = m by simp, show ((n - m).toNat : Int) - ((0 : Nat) : Int) = ((n - m).toNat : Int) by simp]

theorem itemL {value slice : PySem.Expr} {a : Addr} {vs : List Value} {k : Int} {u : Tok} {x : Value} (S : St B r l s) (hm : Has B l a (LsO vs)) (h0 : 0 ≤ k) (hk : k < 2 ^ 62) (hx : vs[k.toNat]? = some x) (h : Q x s)
    (hs : subscripted slice false (.ref a) (.int k u) = operate [.ref a, .int k u] (getItem (.ref a) (.int k u)) := by with_unfolding_all rfl) (hg : ∀ r, letTemporaryGo value (.ref a) r = pure () := by intro _; with_unfolding_all rfl) :
    wpAny (model prog w) A (subscriptTail value slice (.ref a) (.int k u)) Q E s := by
  obtain ⟨o, ho, hf⟩ := hm.get S
  exact PyProof.Rows.item_list (LsO.isList ho hf) h0 (by omega) (by simpa using hx) h hs hg
theorem asgTup {elts : List PySem.Expr} {x1} {pos : Pos} {a : Addr} {vs : List Value} {Q : Unit → Shared → Prop} (hh : A.handled = none) (S : St B r l s) (hm : Has B l a (TupO vs)) (hn : (assignEach elts env).length = vs.length)
    (hstar : (assignEach elts env).findIdx? (·.1) = none) (h : ∀ s', St B r l s' → wpAny (model prog w) A (assignInOrder ((assignEach elts env).map (·.2)) vs) Q E s') :
    wpAny (model prog w) A (assign (.Tuple elts x1 pos) env (.ref a)) Q E s := by
  obtain ⟨o, ho, hf⟩ := hm.get S
  unfold TupO at hf
  subst hf
  refine wpAny_assign_Tuple hh ⟨_, ho, rfl, _, rfl⟩ (by simpa using hn) hstar fun h' hx => ?_
  exact h _ (S.ext ⟨rfl, fun b ob e => hx b ob (Nat.ne_of_lt (Heap.lt_size e)) e⟩)

theorem asgTup2 {n1 n2 : Str} {p1 p2 : Pos} {x1} {pos : Pos} {a : Addr} {v1 v2 : Value} {Q : Unit → Shared → Prop} (hh : A.handled = none) (S : St B r l s) (hm : Has B l a (TupO [v1, v2]))
    (h : ∀ s', St B r l s' → wpAny (model prog w) A (storeName env n1 v1) (fun _ s => wpAny (model prog w) A (storeName env n2 v2) Q E s) E s') :
    wpAny (model prog w) A (assign (.Tuple [.Name n1 p1, .Name n2 p2] x1 pos) env (.ref a)) Q E s :=
  asgTup hh S hm rfl rfl fun s' S' => PyProof.Rows.assignInOrder_cons (wpAny_assign_Name (wpAny_mono (h s' S') (fun _ s₂ h₂ => PyProof.Rows.assignInOrder_cons (wpAny_assign_Name (wpAny_mono h₂ (fun _ s₃ h₃ => PyProof.Rows.assignInOrder_nil h₃) fun _ _ e => e))) fun _ _ e => e))
theorem asgTup3 {n1 n2 n3 : Str} {p1 p2 p3 : Pos} {x1} {pos : Pos} {a : Addr} {v1 v2 v3 : Value} {Q : Unit → Shared → Prop} (hh : A.handled = none) (S : St B r l s) (hm : Has B l a (TupO [v1, v2, v3]))
    (h : ∀ s', St B r l s' → wpAny (model prog w) A (storeName env n1 v1) (fun _ s => wpAny (model prog w) A (storeName env n2 v2) (fun _ s => wpAny (model prog w) A (storeName env n3 v3) Q E s) E s) E s') :
    wpAny (model prog w) A (assign (.Tuple [.Name n1 p1, .Name n2 p2, .Name n3 p3] x1 pos) env (.ref a)) Q E s :=
  asgTup hh S hm rfl rfl fun s' S' => PyProof.Rows.assignInOrder_cons (wpAny_assign_Name (wpAny_mono (h s' S') (fun _ s₂ h₂ => PyProof.Rows.assignInOrder_cons (wpAny_assign_Name (wpAny_mono h₂ (fun _ s₃ h₃ =>
    PyProof.Rows.assignInOrder_cons (wpAny_assign_Name (wpAny_mono h₃ (fun _ s₄ h₄ => PyProof.Rows.assignInOrder_nil h₄) fun _ _ e => e))) fun _ _ e => e))) fun _ _ e => e))

theorem callFn {f : Addr} {oc : Value} {od : Option Addr} {osl : Array (Option Value)} {fd : FuncData} {e : PySem.Expr} {rest : List PySem.Expr} {pos : Pos} (W : Wd K B) (ho : K.lookup f = some ⟨oc, od, .func fd, osl⟩)
    (h : wpAny (model prog w) A (spliced (backTo pos (starEach (e :: rest) env))) (fun vs s₁ => K.In s₁.heap ∧ wpAny (model prog w) A (call (.ref f) vs) Q E s₁) E s)
    (he : starEach (e :: rest) env = (false, eval e env) :: starEach rest env := by rfl) :
    wpAny (model prog w) A (callWith pos (.ref f) [] (backTo pos (starEach (e :: rest) env)) []) Q E s := by
  rw [he] at h ⊢
  exact callWith_function (o := ⟨oc, od, .func fd, osl⟩) (fd := fd) (evalArgs_plain (wpAny_mono h (fun vs s₁ h₁ => ⟨⟨h₁.1 _ _ ho, rfl⟩, h₁.2⟩) fun _ _ x => x))

theorem isT {e : PySem.Expr} {whole : Sem Value} {Q : Bool → Shared → Prop} (h : wpAny (model prog w) A whole (fun v s₁ => wpAny (model prog w) A (truthy v) Q E s₁) E s) (hb : isTrue e env whole = (do let v ← whole; holding [v] (truthy v)) := by rfl) :
    wpAny (model prog w) A (isTrue e env whole) Q E s := by
  rw [hb]
  exact wpAny_bind (wpAny_mono h (fun v s₁ h₁ => wpAny_holding h₁) fun _ _ x => x)

theorem testsNil {Q : Bool → Shared → Prop} (h : Q true s) : wpAny (model prog w) A (testsOf [] env) Q E s := wpAny_pure h
theorem testsOne {c : PySem.Expr} {Q : Bool → Shared → Prop} (h : wpAny (model prog w) A (isTrue c env (eval c env)) Q E s) : wpAny (model prog w) A (testsOf [c] env) Q E s := by
  unfold testsOf
  rw [List.forIn_cons]
  refine wpAny_bind ?_
  rw [if_pos rfl]
  exact wpAny_bind (wpAny_mono h (fun ok s₁ h₁ => wpAny_pure (wpAny_pure h₁)) fun _ _ x => x)

/-- a for loop over an iterator -/
theorem forIter {target iter : PySem.Expr} {body : List Stmt} {pos : Pos} {Q : Flow → Shared → Prop} (hh : A.handled = none)
    (h : wpAny (model prog w) A (eval iter env) (fun xv s₁ => wpAny (model prog w) A (pyIter xv) (fun it s₂ =>
      ∃ (I : Addr) (n : Nat) (item : Nat → Value → Prop) (F : Nat → Led) (M G : Nat → Value → Led) (tgt : PySem.Expr → Prop) (need : (Addr → Option Obj) → Led → Prop) (r : Rest) (J : Nat → (Addr → Option Obj) → Led → Prop),
        it = .ref I ∧ Iter prog w I n item F M G tgt need ∧ tgt target ∧ (∀ {B' : Addr → Option Obj} {l' : Led} {s'} i, J i B' l' → St B' r (F i ++ l') s' → mainGlobals < s'.heap.objs.size) ∧ (∀ i B' l', J i B' l' → need B' l') ∧ (∃ B l, J 0 B l ∧ St B r (F 0 ++ l) s₂) ∧
        (∀ i v B' l' s, i < n → item i v → J i B' l' → St B' r (G i v ++ l') s → wpAny (model prog w) A (assign target env v) (fun _ s => wpAny (model prog w) A (execs body env) (fun f s => match f with
          | .next | .cont => ∃ B'' l'', J (i + 1) B'' l'' ∧ St B'' r (F (i + 1) ++ l'') s
          | .brk => Q .next s
          | .ret v => Q (.ret v) s) Never s) Never s) ∧
        (∀ B' l' s, J n B' l' → St B' r l' s → Q .next s)) E s₁) E s)
    (hs : ∀ x, foldedSetIterable iter env x = pure x := by intro _; rfl) :
    wpAny (model prog w) A (exec (.For target iter body [] pos) env) Q E s := by
  refine wpAny_For (wpAny_mono h (fun xv s₁ h₁ => wpAny_mono h₁ (fun it s₂ h₂ => ?_) fun _ _ e => e) fun _ _ e => e) hs
  obtain ⟨I, n, item, F, M, G, tgt, need, r, J, rfl, H, htgt, hglo, hneed, ⟨B, l, hJ, S⟩, turn, done⟩ := h₂
  refine codeAny_forLoop_any (fun k s => ∃ i B' l', k = n - i ∧ i ≤ n ∧ J i B' l' ∧ St B' r (F i ++ l') s) ?_ n ⟨0, B, l, by omega, Nat.zero_le _, hJ, S⟩
  rintro k s ⟨i, B', l', rfl, hi, hJ, S⟩
  refine wpAny_never ?_
  by_cases hlt : i < n
  · refine H.next hh hlt S (hglo i hJ S) (hneed _ _ _ hJ) fun v s' hv S' => ?_
    refine H.own htgt hv S' fun s' S' => ?_
    refine wpAny_never (wpAny_mono (turn i v B' l' s' hlt hv hJ S') (fun _ s₂ h₂ => wpAny_never (wpAny_mono h₂ (fun f s₃ h₃ => ?_) fun _ _ q => q.elim)) fun _ _ q => q.elim)
    cases f with
    | next => obtain ⟨B'', l'', hJ', S''⟩ := h₃; exact ⟨n - (i + 1), by omega, i + 1, B'', l'', rfl, hlt, hJ', S''⟩
    | cont => obtain ⟨B'', l'', hJ', S''⟩ := h₃; exact ⟨n - (i + 1), by omega, i + 1, B'', l'', rfl, hlt, hJ', S''⟩
    | brk => exact h₃
    | ret v => exact h₃
  · have : i = n := by omega
    subst this
    exact H.done hh S (hneed _ _ _ hJ) fun s' S' => wpAny_execs_nil (done _ _ _ hJ S')
end
-- L6
set_option maxRecDepth 10000

section
variable {prog : Program} {w : World} {A : Around} {E : Value → Shared → Prop} {s : Shared} {B : Addr → Option Obj} {r : Rest} {l l' : Led} {K : Frag} {env : Env} {L : Addr} {sc : Scope} {cs : List (Str × Addr)} {Q : Value → Shared → Prop}

theorem stKept (B : Addr → Option Obj) (r : Rest) (l : Led) : KeptByPush (St B r l) := fun s ob k S => S.pushOnly k

/-- words as lists of codes -/
abbrev W := List Nat
def toS (x : W) : Str := ⟨x.toArray⟩
theorem toS_length (x : W) : (toS x).length = x.length := by simp [toS, Str.length]
theorem toS_inj {x y : W} (h : toS x = toS y) : x = y := by simpa [toS] using h
theorem toS_append (x y : W) : toS x ++ toS y = toS (x ++ y) := by show (⟨x.toArray ++ y.toArray⟩ : Str) = _; simp [toS]

theorem small_le {n : Nat} (h : n ≤ 1000) : n ≤ sizeLine := by have := sizeLine_eq; omega
theorem slS_to {x : W} {t : Tok} {j : Int} {uj : Tok} (S : St B r l s) (hsz : x.length ≤ 1000) (h0 : 0 ≤ j) (hj : j ≤ x.length) (h : ∀ t s', St B r l s' → Q (.str (toS (x.take j.toNat)) t) s') :
    ItemOn (model prog w) A E (.str (toS x) t) (.ref s.heap.objs.size) Q { s with heap := s.heap.push { cls := .type "slice", data := .fields #[.none, .int j uj, .none] } } := by
  refine SBG.sliceItem_ns (stKept B r l) S (fun s' t' S' => ?_) (by rw [toS_length]; exact small_le hsz)
  have := h t' s' S'
  have e : Txt.slice (toS x) none (some j) = toS (x.take j.toNat) := by
    have := beq_iff_eq.mp (slice_closes_toL (x := toS x) (j := j) (by omega) (by rw [toS_length]; omega))
    rw [this]; simp [toS]
  rw [e]; exact this
theorem slS_from {x : W} {t : Tok} {i : Int} {ui : Tok} (S : St B r l s) (hsz : x.length ≤ 1000) (h0 : 0 ≤ i) (hi : i ≤ x.length) (h : ∀ t s', St B r l s' → Q (.str (toS (x.drop i.toNat)) t) s') :
    ItemOn (model prog w) A E (.str (toS x) t) (.ref s.heap.objs.size) Q { s with heap := s.heap.push { cls := .type "slice", data := .fields #[.int i ui, .none, .none] } } := by
  refine SBG.sliceItem_sn (stKept B r l) S (fun s' t' S' => ?_) (by rw [toS_length]; exact small_le hsz)
  have := h t' s' S'
  have e : Txt.slice (toS x) (some i) none = toS (x.drop i.toNat) := by
    have := beq_iff_eq.mp (slice_closes_fromL (x := toS x) (i := i) (b := x.length) (by omega) (by rw [toS_length]; omega) (by rw [toS_length]))
    rw [this]
    simp only [toS, Str.mk.injEq]
    rw [List.take_of_length_le (by simp; omega)]
  rw [e]; exact this
theorem itemS {value slice : PySem.Expr} {x : W} {t u : Tok} {k : Int} (S : St B r l s) (hsz : x.length ≤ 1000) (h0 : 0 ≤ k) (hk : k.toNat < x.length) (h : ∀ t s', St B r l s' → Q (.str (toS [x.getD k.toNat 0]) t) s')
    (hs : subscripted slice false (.str (toS x) t) (.int k u) = operate [.str (toS x) t, .int k u] (getItem (.str (toS x) t) (.int k u)) := by with_unfolding_all rfl) (hg : ∀ r, letTemporaryGo value (.str (toS x) t) r = pure () := by intro _; with_unfolding_all rfl) :
    wpAny (model prog w) A (subscriptTail value slice (.str (toS x) t) (.int k u)) Q E s := by
  refine subscriptTail_builtin (typeIs_str s _ _) F.slot_str_getitem.lookup (P.getItem_str (c := x.getD k.toNat 0) ?_ ?_ (h _ _ (S.tok _))) hs hg
  · rw [decide_eq_false (by omega), decide_eq_false (by omega)]; rfl
  · rw [toS_length]
    unfold seqIndex?
    have : (if k < 0 then k + (x.length : Int) else k) = k := if_neg (by omega)
    simp only [this]
    rw [if_pos (by simp; omega)]
    simp [toS, hk]
theorem mulS {x : W} {n : Nat} {t u : Tok} (S : St B r l s) (hx : x.length = 1) (hn : n ≤ 100) (h : ∀ t s', St B r l s' → Q (.str (toS (List.replicate n x).flatten) t) s') :
    wpAny (model prog w) A (binaryOp .Mult (.str (toS x) t) (.int n u)) Q E s := by
  have hlen : (toS x).length = 1 := by rw [toS_length, hx]
  have key : ∀ m : Nat, ((List.replicate m x.toArray).foldl (· ++ ·) #[] : Array Nat) = ((List.replicate m x).flatten).toArray := by
    have gen : ∀ (m : Nat) (a : List Nat), ((List.replicate m x.toArray).foldl (· ++ ·) a.toArray : Array Nat) = (a ++ (List.replicate m x).flatten).toArray := by
      intro m
      induction m with
      | zero => intro a; simp
      | succ m ih =>
        intro a
        rw [List.replicate_succ, List.foldl_cons, List.replicate_succ, List.flatten_cons]
        have := ih (a ++ x)
        simpa using this
    intro m
    simpa using gen m []
  refine P.mul_str ?_ ?_ ?_ ?_
  · rw [decide_eq_false (by omega), decide_eq_false (by omega)]; rfl
  · intro h1 h2 h3
    rw [hlen] at h3
    have h4 : (2 ^ 63 - 1 : Int) / n ≥ 1 := by
      apply Int.le_ediv_of_mul_le
      · omega
      · omega
    omega
  · intro h1 h2
    unfold Builtin.Str.tooLong
    rw [hlen]
    have := sizeLine_eq
    simp
    omega
  · by_cases h1 : (n : Int) < 1
    · rw [if_pos h1]
      have : n = 0 := by omega
      subst this
      exact ⟨by decide, h _ _ (S.tok _)⟩
    · rw [if_neg h1]
      by_cases h2 : ((n : Int) == 1 || (toS x).length == 0) = true
      · rw [if_pos h2]
        have : n = 1 := by rw [hlen] at h2; simp at h2; omega
        subst this
        have := h t s S
        have e : (List.replicate 1 x).flatten = x := by simp
        rw [e] at this
        exact this
      · rw [if_neg h2]
        refine ⟨?_, ?_⟩
        · show ((List.replicate (n : Int).toNat x.toArray).foldl (· ++ ·) #[] : Array Nat).size ≤ _
          rw [key]
          have : (List.replicate (n : Int).toNat x).flatten.length = n := by simp [hx]
          rw [List.size_toArray, this]
          have := sizeLine_eq
          omega
        · have := h s.toks _ (S.tok (s.toks + 1))
          have e : (⟨(List.replicate (n : Int).toNat (toS x).cps).foldl (· ++ ·) #[]⟩ : Str) = toS (List.replicate n x).flatten := by
            show (⟨(List.replicate (n : Int).toNat x.toArray).foldl (· ++ ·) #[]⟩ : Str) = _
            rw [key]; simp [toS]
          rw [e]; exact this
theorem neS {x y : W} {t u : Tok} (h : Q (.bool (decide (x ≠ y))) s) : wpAny (model prog w) A (compareOp .NotEq (.str (toS x) t) (.str (toS y) u)) Q E s := by
  refine P.ne_str ?_
  have e : ((toS x).cps.toList != (toS y).cps.toList) = decide (x ≠ y) := by simp [toS, bne]; by_cases h : x = y <;> simp [h]
  rw [e]; exact h
theorem eqS {x y : W} {t u : Tok} (h : Q (.bool (decide (x = y))) s) : wpAny (model prog w) A (compareOp .Eq (.str (toS x) t) (.str (toS y) u)) Q E s := by
  refine P.eq_str ?_
  have e : ((toS x).cps.toList == (toS y).cps.toList) = decide (x = y) := by simp [toS]; by_cases h : x = y <;> simp [h]
  rw [e]; exact h
theorem addW {x y : W} {t u : Tok} (S : St B r l s) (hx : (x ++ y).length ≤ 1000) (h : ∀ t s', St B r l s' → Q (.str (toS (x ++ y)) t) s') : wpAny (model prog w) A (binaryOp .Add (.str (toS x) t) (.str (toS y) u)) Q E s := by
  refine addS S (by rw [toS_append, toS_length]; exact small_le hx) fun t s' S' => ?_
  rw [toS_append]; exact h t s' S'
theorem lenW {x : W} {t : Tok} (S : St B r l s) (hfit : x.length ≤ 1000) (h : ∀ t s', St B r l s' → Q (.int x.length t) s') : wpAny (model prog w) A (call (.builtin "len") [.str (toS x) t]) Q E s :=
  lenS S (by rw [toS_length]; exact small_le hfit) fun t s' S' => by have := h t s' S'; rw [toS_length]; exact this
end


/- MACRO_BEGIN -/
section
variable {prog : Program} {w : World} {M : Model} {A : Around} {E : Value → Shared → Prop} {s : Shared} {env : Env} {Q : Value → Shared → Prop} {QU : Unit → Shared → Prop}
theorem ofA : Str.ofString "a" = toS [97] := by decide +kernel
theorem ofB : Str.ofString "b" = toS [98] := by decide +kernel
theorem ofE : Str.ofString "" = toS [] := by decide +kernel
theorem cA {B : Addr → Option Obj} {r : Rest} {l : Led} {k pos} (S : St B r l s) (h : ∀ t s', St B r l s' → Q (.str (toS [97]) t) s') : wpAny (model prog w) A (eval (.Constant (.str (Str.ofString "a")) k pos) env) Q E s := cStr S (by rw [ofA]; exact h)
theorem cB {B : Addr → Option Obj} {r : Rest} {l : Led} {k pos} (S : St B r l s) (h : ∀ t s', St B r l s' → Q (.str (toS [98]) t) s') : wpAny (model prog w) A (eval (.Constant (.str (Str.ofString "b")) k pos) env) Q E s := cStr S (by rw [ofB]; exact h)
theorem cE {B : Addr → Option Obj} {r : Rest} {l : Led} {k pos} (S : St B r l s) (h : ∀ t s', St B r l s' → Q (.str (toS []) t) s') : wpAny (model prog w) A (eval (.Constant (.str (Str.ofString "")) k pos) env) Q E s := cStr S (by rw [ofE]; exact h)
theorem atName {x pos} (h : wpAny M A (eval (.Name x pos) env) Q E s) : wpAny M A (eval (.Name x pos) env) Q E s := h
theorem atLoad {x} (h : wpAny M A (loadName env x) Q E s) : wpAny M A (loadName env x) Q E s := h
theorem atStore {x v} (h : wpAny M A (storeName env x v) QU E s) : wpAny M A (storeName env x v) QU E s := h
theorem atWithB {pos f a b c} (h : wpAny M A (callWith pos (.builtin f) a b c) Q E s) : wpAny M A (callWith pos (.builtin f) a b c) Q E s := h
theorem atWithT {pos f a b c} (h : wpAny M A (callWith pos (.type f) a b c) Q E s) : wpAny M A (callWith pos (.type f) a b c) Q E s := h
theorem atWithF {pos f a b c} (h : wpAny M A (callWith pos (.ref f) a b c) Q E s) : wpAny M A (callWith pos (.ref f) a b c) Q E s := h
theorem atAssign {ts v pos} {QF : Flow → Shared → Prop} (h : wpAny M A (exec (.Assign ts v pos) env) QF E s) : wpAny M A (exec (.Assign ts v pos) env) QF E s := h
theorem atCompare {a b c pos} (h : wpAny M A (eval (.Compare a b c pos) env) Q E s) : wpAny M A (eval (.Compare a b c pos) env) Q E s := h
theorem atIsTC {a b c pos wh} {QB : Bool → Shared → Prop} (h : wpAny M A (isTrue (.Compare a b c pos) env wh) QB E s) : wpAny M A (isTrue (.Compare a b c pos) env wh) QB E s := h
theorem atCallN {a p b c pos} (h : wpAny M A (eval (.Call (.Name a p) b c pos) env) Q E s) : wpAny M A (eval (.Call (.Name a p) b c pos) env) Q E s := h
theorem atSubS {a b c d p pos} (h : wpAny M A (eval (.Subscript a (.Slice b c d p) pos) env) Q E s) : wpAny M A (eval (.Subscript a (.Slice b c d p) pos) env) Q E s := h
theorem atTailS {a b x t d} (h : wpAny M A (subscriptTail a b (.str x t) d) Q E s) : wpAny M A (subscriptTail a b (.str x t) d) Q E s := h
theorem atSplC {pos a b} {QL : List Value → Shared → Prop} (h : wpAny M A (spliced (backTo pos (starEach (a :: b) env))) QL E s) : wpAny M A (spliced (backTo pos (starEach (a :: b) env))) QL E s := h
theorem inK {K : Frag} {P : Prop} {h : Heap} (a : K.In h) (b : P) : K.In h ∧ P := ⟨a, b⟩
end

local macro_rules | `(tactic| kcf_all) => `(tactic| first | exact Has.ls (by kcj_m) | exact Has.mem (by kcj_m) | assumption | exact ‹∀ l : Led, Has _ l _ (LsO _)› _ | exact ‹∀ l : Led, Has _ l _ (LstO _)› _ | exact ‹∀ l : Led, Has _ l _ (TupO _)› _)
local macro_rules | `(tactic| kba_ints) => `(tactic| first | omega | (simp only [List.length_append, List.length_take, List.length_drop, List.length_cons, List.length_nil]; omega) | (simp; omega))
/-- one step of an expression or a statement -/
local macro_rules | `(tactic| kxs_still) => `(tactic| first
  | ((with_reducible refine atName ?_); first | refine nmL ‹EnvOk _ _ _ _› ‹St _ _ _ _› (by kcj_m) (by exact rfl) (by exact rfl) ?_ | refine nmC ‹EnvOk _ _ _ _› ‹St _ _ _ _› (by exact rfl) (by exact rfl) (by kcj_m) ?_ | refine nmB ‹EnvOk _ _ _ _› ‹St _ _ _ _› ‹Wd _ _› (by exact rfl) (by k_is) (by boot_by_name) (by decide) ?_ | refine nmG ‹EnvOk _ _ _ _› ‹St _ _ _ _› ‹Wd _ _› (by exact rfl) (by k_is) ?_)
  | ((with_reducible refine' cInt ?kS ?_); (case kS => assumption); intro _ _ _)
  | ((with_reducible refine' cA ?kS ?_); (case kS => assumption); intro _ _ _)
  | ((with_reducible refine' cB ?kS ?_); (case kS => assumption); intro _ _ _)
  | ((with_reducible refine' cE ?kS ?_); (case kS => assumption); intro _ _ _)
  | ((with_reducible refine' cStr ?kS ?_); (case kS => assumption); intro _ _ _)
  | with_reducible refine wpAny_Constant_none ?_
  | with_reducible refine wpAny_Constant_bool ?_
  | ((with_reducible refine' addI ?kS ?_); (case kS => assumption); intro _ _ _)
  | ((with_reducible refine' iaddI ?kS ?_); (case kS => assumption); intro _ _ _)
  | ((with_reducible refine' subI ?kS ?_); (case kS => assumption); intro _ _ _)
  | ((with_reducible refine' mulI ?kS ?kM ?_); (case kS => assumption); (case kM => mul_fits); intro _ _ _)
  | ((with_reducible refine' modI ?kS ?kN ?_); (case kS => assumption); (case kN => (first | decide | omega)); intro _ _ _)
  | ((with_reducible refine' fdivI ?kS ?kN ?kM ?_); (case kS => assumption); (case kN => (first | decide | omega)); (case kM => (first | decide | omega)); intro _ _ _)
  | ((with_reducible refine' addW ?kS ?kN ?_); (case kS => assumption); (case kN => kba_ints); intro _ _ _)
  | with_reducible refine PyProof.Rows.lt_int ?_
  | with_reducible refine PyProof.Rows.gt_int ?_
  | with_reducible refine PyProof.Rows.le_int ?_
  | with_reducible refine PyProof.Rows.eq_int ?_
  | with_reducible refine PyProof.Rows.ne_int ?_
  | with_reducible refine neS ?_
  | with_reducible refine eqS ?_
  | with_reducible refine PySem.is_none ?_
  | ((with_reducible refine atWithB ?_); refine PyProof.Rows.callWith_builtin1 ?_)
  | ((with_reducible refine atWithT ?_); refine PyProof.Rows.callWith_type1 ?_)
  | ((with_reducible refine atWithF ?_); refine' callFn ‹Wd _ _› ?kO ?_; (case kO => k_is))
  | ((with_reducible refine inK ?kA ?_); (case kA => exact Wd.in ‹Wd _ _› (St.over ‹St _ _ _ _›)))
  | ((with_reducible refine' absI ?kS ?_); (case kS => assumption); intro _ _ _)
  | ((with_reducible refine' rng1 ?kS ?kW ?_); (case kS => assumption); (case kW => assumption); intro _ _ _)
  | ((with_reducible refine' rng2 ?kS ?kW ?_); (case kS => assumption); (case kW => assumption); intro _ _ _)
  | ((with_reducible refine' lenW ?kS ?kN ?_); (case kS => assumption); (case kN => kba_ints); intro _ _ _)
  | ((with_reducible refine atStore ?_); first | refine stL ‹EnvOk _ _ _ _› ‹St _ _ _ _› (by kcf_m) (by exact rfl) fun _ _ => ?_ | refine stC ‹EnvOk _ _ _ _› ‹St _ _ _ _› (by exact rfl) (by exact rfl) (by kcf_m) fun _ _ => ?_)
  | ((with_reducible refine atLoad ?_); first | refine ldL ‹EnvOk _ _ _ _› ‹St _ _ _ _› (by kcj_m) (by exact rfl) (by exact rfl) ?_ | refine ldC ‹EnvOk _ _ _ _› ‹St _ _ _ _› (by exact rfl) (by exact rfl) (by kcj_m) ?_)
  | with_reducible refine wpAny_execs_nil ?_
  | with_reducible refine wpAny_execs_cons ?_
  | with_reducible refine wpAny_If ?_
  | with_reducible refine wpAny_Return_some ?_
  | with_reducible refine wpAny_Return_none ?_
  | ((with_reducible refine atAssign ?_); refine wpAny_Assign_Name ?_)
  | with_reducible refine wpAny_AugAssign_Name ?_
  | with_reducible refine wpAny_BinOp ?_
  | ((with_reducible refine atCompare ?_); refine wpAny_Compare1 ?_)
  | ((with_reducible refine atIsTC ?_); refine wpAny_isTrue_Compare1 ?_)
  | with_reducible refine PyProof.Rows.isTrue_and ?_
  | with_reducible refine PyProof.Rows.isTrue_and_nil ?_
  | with_reducible refine PyProof.Rows.isTrue_or ?_
  | with_reducible refine PyProof.Rows.isTrue_or_nil ?_
  | with_reducible refine PyProof.Rows.isTrue_not ?_
  | with_reducible refine wpAny_truthy_bool ?_
  | ((with_reducible refine atCallN ?_); refine wpAny_Call_NameR ?_)
  | ((with_reducible refine atSubS ?_); refine Subscript_Slice ?_)
  | with_reducible refine PyProof.Rows.Subscript_ ?_
  | with_reducible refine evalPart_none_step ?_
  | with_reducible refine evalPart_some_step ?_
  | with_reducible refine wpAny_Slice ?_
  | with_reducible refine wpAny_assign_Name ?_
  | with_reducible refine PyProof.Rows.assignInOrder_cons ?_
  | with_reducible refine PyProof.Rows.assignInOrder_nil ?_
  | ((with_reducible refine atSplC ?_); refine PyProof.Rows.args_cons ?_)
  | with_reducible refine PyProof.Rows.args_nil ?_
  | with_reducible refine tupE ?_
  | with_reducible refine lstE ?_
  | ((with_reducible refine atTailS ?_); refine itemS ‹St _ _ _ _› (by kba_ints) (by kba_ints) (by kba_ints) fun _ _ _ => ?_)
  | ((with_reducible refine' slS_to ?kS ?kA ?kB ?kC ?_); (case kS => assumption); (case kA => kba_ints); (case kB => kba_ints); (case kC => kba_ints); intro _ _ _)
  | ((with_reducible refine' slS_from ?kS ?kA ?kB ?kC ?_); (case kS => assumption); (case kA => kba_ints); (case kB => kba_ints); (case kC => kba_ints); intro _ _ _)
  | ((with_reducible refine' asgTup2 ?kH ?kS ?kM ?_); (case kH => exact Rm.handled ‹Rm _ _›); (case kS => assumption); (case kM => kcf_all); intro _ _)
  | ((with_reducible refine' asgTup3 ?kH ?kS ?kM ?_); (case kH => exact Rm.handled ‹Rm _ _›); (case kS => assumption); (case kM => kcf_all); intro _ _)
  | ((with_reducible refine' lenL ?kS ?kM ?kN ?_); (case kS => assumption); (case kM => kcf_all); (case kN => kba_ints); intro _ _ _)
  | ((with_reducible refine' iterR ?kS ?kW ?kA ?kB ?kC ?kD ?_); (case kS => assumption); (case kW => assumption); (case kA => kba_ints); (case kB => kba_ints); (case kC => kba_ints); (case kD => kba_ints); intro _ _ _)
  | ((with_reducible refine' iterL ?kS ?kW ?kM ?_); (case kS => assumption); (case kW => assumption); (case kM => kcf_all); intro _ _ _)
  | ((with_reducible refine' tupK ?kS ?kW ?kN ?_); (case kS => assumption); (case kW => assumption); (case kN => exact small_le (by simp)); intro _ _ _)
  | ((with_reducible refine' lstK ?kS ?kW ?kN ?_); (case kS => assumption); (case kW => assumption); (case kN => exact small_le (by simp)); intro _ _ _)
  | with_reducible refine testsNil ?_
  | with_reducible refine testsOne ?_)
-- L7
set_option maxRecDepth 10000
theorem St.out {B : Addr → Option Obj} {l : Led} {s s' : Shared} {D : Addr} {P : Obj → Prop} (S : St B (restOf s) ((D, P) :: l) s') (hle : LeB s.heap.get? B) : Ext s s' ∧ Fresh s s' D P := by
  refine ⟨⟨S.rest, fun b o e => S.over _ _ (hle _ _ e)⟩, ?_, S.lo _ (.head _), S.get (.head _)⟩
  cases q : s.heap.get? D with
  | none => rfl
  | some o =>
    have := S.off _ (.head _)
    rw [show B (D, P).1 = some o from hle _ _ q] at this
    cases this
theorem St.ext1 {B : Addr → Option Obj} {l : Led} {s s' : Shared} (S : St B (restOf s) l s') (hle : LeB s.heap.get? B) : Ext s s' := ⟨S.rest, fun b o e => S.over _ _ (hle _ _ e)⟩
theorem St.le {B : Addr → Option Obj} {r : Rest} {l : Led} {s : Shared} (S : St B r l s) : LeB B s.heap.get? := S.over
theorem Wd.at {K : Frag} {B : Addr → Option Obj} {r : Rest} {l : Led} {s : Shared} (W : Wd K B) (S : St B r l s) : Wd K s.heap.get? := W.le S.over
theorem StrsAre.one (y : Str) (t : Tok) : StrsAre [.str y t] [y] := .cons y t .nil
theorem IntsAre.one (y : Int) (t : Tok) : IntsAre [.int y t] [y] := .cons y t .nil
-- L8
set_option maxRecDepth 10000

local macro_rules | `(tactic| kd_addB) => `(tactic| (refine' enterF ‹Wd _ _› ‹Rm _ _› ?ho ?hcd ?h1 ?h2 ?h3 ?h4 ?h5 ?h6 ?h7 ?h8 ?h9 ?h10 ?_; (case ho => k_is); (case hcd => k_is); (case h1 => exact rfl); (case h2 => exact rfl); (case h3 => exact rfl); (case h4 => exact rfl); (case h5 => exact rfl); (case h6 => exact rfl); (case h7 => exact rfl); (case h8 => exact rfl); (case h9 => exact rfl); (case h10 => decide +kernel)))
local macro_rules | `(tactic| kd_addW) => `(tactic| (refine' listComp ‹EnvOk _ _ _ _› ?h1 ?h2 ?h3 ?h4 ?h5 ?_; (case h1 => exact rfl); (case h2 => decide +kernel); (case h3 => exact rfl); (case h4 => decide +kernel); (case h5 => intro _; exact rfl)))

@[irreducible] def ZipO (TI TO : Addr) (f0 : Value) : Obj → Prop := fun o => o = { cls := .type "zip", dict := none, data := .fields #[f0, .bool false, .bool false, .ref TI, .ref TO], slots := #[] }
@[irreducible] def PairO (a b : Value) : Obj → Prop := fun o => o = { cls := .type "tuple", data := .seq #[a, b] }
@[irreducible] def AnyPairO : Obj → Prop := fun o => ∃ a b : Value, o = { cls := .type "tuple", data := .seq #[a, b] }
theorem PairO.tup {a b : Value} (o : Obj) (h : PairO a b o) : TupO [a, b] o := by unfold PairO at h; unfold TupO; exact h

section
variable {prog : Program} {w : World} {A : Around} {E : Value → Shared → Prop} {s : Shared} {B : Addr → Option Obj} {r : Rest} {l l' : Led} {K : Frag} {env : Env} {L : Addr} {sc : Scope} {cs : List (Str × Addr)} {Q : Value → Shared → Prop}

def zipF (z TI TO i1 i2 l1 l2 : Addr) (f0 : Value) (i : Nat) : Led := [(z, ZipO TI TO f0), (TI, PairO (.ref i1) (.ref i2)), (TO, AnyPairO), (i1, LitO l1 i), (i2, LitO l2 i)]
def zipM (z TI TO i1 i2 l1 l2 : Addr) (xs ys : List Value) (own : Bool) (i : Nat) (v : Value) : Led := match v with
  | .ref T => zipF z TI TO i1 i2 l1 l2 (if own then rawInt T else .none) (i + 1) ++ [(T, TupO [xs.getD i .none, ys.getD i .none])]
  | _ => []

theorem mem_of_zip {α : Type} {l : List α} {x : α} (h : x ∈ l) : x ∈ l := h

theorem iterZip (z TI TO i1 i2 l1 l2 : Addr) (xs ys : List Value) (hlen : xs.length = ys.length) : Iter prog w z xs.length (fun i v => ∃ T, v = .ref T) (fun i => zipF z TI TO i1 i2 l1 l2 .none i)
    (zipM z TI TO i1 i2 l1 l2 xs ys true) (zipM z TI TO i1 i2 l1 l2 xs ys false) (fun t => ∃ a b c, t = .Tuple a b c) (fun B l => Has B l l1 (LstO xs) ∧ Has B l l2 (LstO ys)) := by
  have apart : ∀ {B : Addr → Option Obj} {r : Rest} {l : Led} {s : Shared} {i : Nat} {f0 : Value}, St B r (zipF z TI TO i1 i2 l1 l2 f0 i ++ l) s → Has B l l1 (LstO xs) ∧ Has B l l2 (LstO ys) → ZipApart z TI TO i1 i2 l1 l2 := by
    intro B r l s i f0 S hn
    have hnd := S.nodup
    rw [List.map_append, List.nodup_append] at hnd
    have h1 := hnd.1
    simp only [zipF, List.map_cons, List.map_nil, List.nodup_cons, List.mem_cons, List.not_mem_nil, or_false, not_or, not_false_eq_true, List.nodup_nil, and_true] at h1
    obtain ⟨⟨a1, a2, a3, a4⟩, ⟨b1, b2, b3⟩, ⟨c1, c2⟩, d1⟩ := h1
    have ne : ∀ {a : Addr} {P : Obj → Prop}, Has B l a P → ∀ b ∈ (zipF z TI TO i1 i2 l1 l2 f0 i).map (·.1), a ≠ b := by
      intro a P h b hb e
      subst e
      obtain ⟨p, hp, e⟩ := List.mem_map.mp hb
      rcases h with ⟨P', hm, _⟩ | ⟨o, ho, _⟩
      · exact hnd.2.2 _ hb _ (List.mem_map.mpr ⟨_, hm, rfl⟩) rfl
      · have := S.off p (List.mem_append_left _ hp)
        have e' : p.1 = a := e
        rw [e', ho] at this; cases this
    refine ⟨Ne.symm a1, Ne.symm a2, Ne.symm a3, Ne.symm a4, b1, b2, b3, c1, c2, d1, ?_, ?_, ?_, ?_, ?_, ?_, ?_, ?_⟩
    · exact ne hn.1 _ (by simp [zipF])
    · exact ne hn.1 _ (by simp [zipF])
    · exact ne hn.1 _ (by simp [zipF])
    · exact ne hn.1 _ (by simp [zipF])
    · exact ne hn.2 _ (by simp [zipF])
    · exact ne hn.2 _ (by simp [zipF])
    · exact ne hn.2 _ (by simp [zipF])
    · exact ne hn.2 _ (by simp [zipF])
  have parts : ∀ {B : Addr → Option Obj} {r : Rest} {l : Led} {s : Shared} {i : Nat} {f0 : Value}, St B r (zipF z TI TO i1 i2 l1 l2 f0 i ++ l) s → IsZip s.heap z TI TO f0 ∧ IsPair s.heap TI (.ref i1) (.ref i2) ∧ (∃ a b, IsPair s.heap TO a b) ∧ s.heap.IsListIter i1 l1 i ∧ s.heap.IsListIter i2 l2 i := by
    intro B r l s i f0 S
    have g : ∀ p ∈ zipF z TI TO i1 i2 l1 l2 f0 i, ∃ o, s.heap.get? p.1 = some o ∧ p.2 o := fun p hp => S.led p (List.mem_append_left _ hp)
    obtain ⟨o1, h1, p1⟩ := g (z, ZipO TI TO f0) (by simp [zipF])
    obtain ⟨o2, h2, p2⟩ := g (TI, PairO (.ref i1) (.ref i2)) (by simp [zipF])
    obtain ⟨o3, h3, p3⟩ := g (TO, AnyPairO) (by simp [zipF])
    obtain ⟨o4, h4, p4⟩ := g (i1, LitO l1 i) (by simp [zipF])
    obtain ⟨o5, h5, p5⟩ := g (i2, LitO l2 i) (by simp [zipF])
    simp only [ZipO, PairO, AnyPairO] at p1 p2 p3
    obtain ⟨a, b, p3⟩ := p3
    subst p1 p2 p3
    exact ⟨h1, h2, ⟨a, b, h3⟩, LitO.is h4 p4, LitO.is h5 p5⟩
  have back : ∀ {h : Heap} {f0 : Value} {i : Nat} {a b : Value}, IsZip h z TI TO f0 → IsPair h TI (.ref i1) (.ref i2) → IsPair h TO a b → h.IsListIter i1 l1 i → h.IsListIter i2 l2 i →
      ∀ p ∈ zipF z TI TO i1 i2 l1 l2 f0 i, ∃ o, h.get? p.1 = some o ∧ p.2 o := by
    intro h f0 i a b z1 z2 z3 z4 z5 p hp
    simp only [zipF, List.mem_cons, List.not_mem_nil, or_false] at hp
    rcases hp with rfl | rfl | rfl | rfl | rfl
    · exact ⟨_, z1, by unfold ZipO; rfl⟩
    · exact ⟨_, z2, by unfold PairO; rfl⟩
    · exact ⟨_, z3, by unfold AnyPairO; exact ⟨_, _, rfl⟩⟩
    · exact LitO.of z4
    · exact LitO.of z5
  have addrs : ∀ (f0 : Value) (i : Nat), (zipF z TI TO i1 i2 l1 l2 f0 i).map (·.1) = [z, TI, TO, i1, i2] := fun _ _ => rfl
  refine ⟨?_, ?_, ?_, ?_⟩
  · intro A E B r l s i Q hh hi S hg hn hQ
    have D := apart S hn
    obtain ⟨z1, z2, ⟨a, b, z3⟩, z4, z5⟩ := parts S
    obtain ⟨o1, ho1, hf1⟩ := (hn.1.mono (l' := zipF z TI TO i1 i2 l1 l2 .none i ++ l) fun p hp => List.mem_append_right _ hp).get S
    obtain ⟨o2, ho2, hf2⟩ := (hn.2.mono (l' := zipF z TI TO i1 i2 l1 l2 .none i ++ l) fun p hp => List.mem_append_right _ hp).get S
    have hx : xs.toArray[i]? = some (xs.getD i .none) := by simp [List.getD, List.getElem?_eq_getElem hi]
    have hy : ys.toArray[i]? = some (ys.getD i .none) := by simp [List.getD, List.getElem?_eq_getElem (hlen ▸ hi)]
    refine wpAny_pyNext_zip_item D z1 z2 z3 z4 z5 (LstO.isList ho1 hf1) (LstO.isList ho2 hf2) hx hy fun h' a1 a2 a3 a4 a5 a6 a7 => hQ _ _ ⟨_, rfl⟩ ?_
    have hnd := S.nodup
    rw [List.map_append, List.nodup_append, addrs] at hnd
    have lt : ∀ c ∈ [z, TI, TO, i1, i2], s.heap.objs.size ≠ c := by
      intro c hc e
      subst e
      rw [← addrs .none i] at hc
      obtain ⟨p, hp, e'⟩ := List.mem_map.mp hc
      obtain ⟨o, ho, _⟩ := S.led p (List.mem_append_left _ hp)
      have e'' : p.1 = s.heap.objs.size := e'
      rw [e'', heap_none] at ho; cases ho
    refine S.remake (F' := zipM z TI TO i1 i2 l1 l2 xs ys true i (.ref s.heap.objs.size)) rfl (fun c o hc e => ?_) (fun p hp => ?_) ?_
    · rw [addrs] at hc
      simp only [List.mem_cons, List.not_mem_nil, or_false, not_or] at hc
      exact a7 c o hc.1 hc.2.2.1 hc.2.2.2.1 hc.2.2.2.2 e
    · rcases List.mem_append.mp hp with hp | hp
      · exact ⟨.inl (by rw [addrs]; exact (addrs _ (i + 1)) ▸ List.mem_map.mpr ⟨p, hp, rfl⟩), back a1 (a7 TI _ D.TIz D.TITO D.TIi1 D.TIi2 z2) a2 a3 a4 p hp⟩
      · simp only [List.mem_cons, List.not_mem_nil, or_false] at hp
        subst hp
        exact ⟨.inr ⟨heap_none _, hg⟩, _, a5, by unfold TupO; rfl⟩
    · show ((zipF z TI TO i1 i2 l1 l2 (rawInt s.heap.objs.size) (i + 1) ++ [((s.heap.objs.size : Addr), TupO [xs.getD i .none, ys.getD i .none])]).map (fun p : Addr × (Obj → Prop) => p.1)).Nodup
      rw [List.map_append, addrs, List.nodup_append]
      refine ⟨hnd.1, by simp, fun c hc d hd e => ?_⟩
      simp only [List.map_cons, List.map_nil, List.mem_cons, List.not_mem_nil, or_false] at hd
      exact lt c hc (by rw [e, hd])
  · intro A E B r l s Q hh S hn hQ
    have D := apart S hn
    obtain ⟨z1, z2, ⟨a, b, z3⟩, z4, z5⟩ := parts S
    obtain ⟨o1, ho1, hf1⟩ := (hn.1.mono (l' := zipF z TI TO i1 i2 l1 l2 .none xs.length ++ l) fun p hp => List.mem_append_right _ hp).get S
    obtain ⟨o2, ho2, hf2⟩ := (hn.2.mono (l' := zipF z TI TO i1 i2 l1 l2 .none xs.length ++ l) fun p hp => List.mem_append_right _ hp).get S
    refine wpAny_pyNext_zip_end hh D z1 z2 z3 z4 z5 (LstO.isList ho1 hf1) (LstO.isList ho2 hf2) (.inl (by simp)) fun h' a7 => hQ _ ?_
    have := S.remake (F' := []) (s' := { s with heap := h' }) rfl (fun c o hc e => ?_) (fun p hp => nomatch hp) (by simp)
    · exact this
    · rw [addrs] at hc
      simp only [List.mem_cons, List.not_mem_nil, or_false, not_or] at hc
      exact a7 c o hc.1 hc.2.2.1 hc.2.2.2.1 hc.2.2.2.2 e
  · rintro A E B r l s i v target Q ⟨a, b, c, rfl⟩ ⟨T, rfl⟩ S hQ
    have S' : St B r (zipF z TI TO i1 i2 l1 l2 (rawInt T) (i + 1) ++ ([(T, TupO [xs.getD i .none, ys.getD i .none])] ++ l)) s := by
      have := S
      simp only [zipM, if_true, List.append_assoc] at this
      exact this
    obtain ⟨z1, z2, ⟨a', b', z3⟩, z4, z5⟩ := parts S'
    have hnd := S'.nodup
    rw [List.map_append, List.nodup_append, addrs] at hnd
    have h1 := hnd.1
    simp only [List.nodup_cons, List.mem_cons, List.not_mem_nil, or_false, not_or, not_false_eq_true, List.nodup_nil, and_true] at h1
    obtain ⟨⟨x1, x2, x3, x4⟩, _⟩ := h1
    refine wpAny_letOwnedTupleGo_zip z1 fun h' hz' hs' => hQ _ ?_
    have := S'.remake (F' := zipF z TI TO i1 i2 l1 l2 .none (i + 1)) (s' := { s with heap := h' }) rfl (fun c o hc e => hs'.extBut c o (fun x => hc (by rw [addrs, x]; simp)) e)
      (fun p hp => ⟨.inl (by rw [addrs]; exact (addrs _ (i + 1)) ▸ List.mem_map.mpr ⟨p, hp, rfl⟩), back hz' (hs'.extBut _ _ (Ne.symm x1) z2) (hs'.extBut _ _ (Ne.symm x2) z3) (z4.extBut hs'.extBut (Ne.symm x3)) (z5.extBut hs'.extBut (Ne.symm x4)) p hp⟩) (by rw [addrs]; exact hnd.1)
    simp only [zipM, List.append_assoc]
    exact this
  · intro A E B r l s i Q S hQ
    obtain ⟨z1, _⟩ := parts S
    exact wpAny_pyIter_zip z1 hQ

theorem zipCall {l1 l2 : Addr} {xs ys : List Value} (S : St B r l s) (W : Wd K B) (h1 : Has B l l1 (LstO xs)) (h2 : Has B l l2 (LstO ys))
    (h : ∀ z TI TO i1 i2 s', St B r (zipF z TI TO i1 i2 l1 l2 .none 0 ++ l) s' → Q (.ref z) s') : wpAny (model prog w) A (call (.type "zip") [.ref l1, .ref l2]) Q E s := by
  obtain ⟨o1, ho1, hf1⟩ := h1.get S
  obtain ⟨o2, ho2, hf2⟩ := h2.get S
  refine call_zip_2 (LstO.isList ho1 hf1) (LstO.isList ho2 hf2) fun h' a1 a2 a3 a4 a5 a6 a7 => h _ _ _ _ _ _ (?_ : St B r (zipF (s.heap.objs.size + 4) (s.heap.objs.size + 2) (s.heap.objs.size + 3) s.heap.objs.size (s.heap.objs.size + 1) l1 l2 .none 0 ++ l) _)
  have big : ∀ n, s.heap.get? (s.heap.objs.size + n) = none := fun n => by
    cases q : s.heap.get? (s.heap.objs.size + n) with
    | none => rfl
    | some o => exact absurd (Heap.lt_size q) (Nat.not_lt.mpr (Nat.le_add_right _ _))
  have hg := W.glo S.over
  refine St.remake (F := []) S rfl (fun c o _ e => a7 c o e) (fun p hp => ?_) ?_
  · simp only [zipF, List.mem_cons, List.not_mem_nil, or_false] at hp
    rcases hp with rfl | rfl | rfl | rfl | rfl
    · exact ⟨.inr ⟨big 4, Nat.lt_of_lt_of_le hg (Nat.le_add_right _ _)⟩, _, a1, by unfold ZipO; rfl⟩
    · exact ⟨.inr ⟨big 2, Nat.lt_of_lt_of_le hg (Nat.le_add_right _ _)⟩, _, a2, by unfold PairO; rfl⟩
    · exact ⟨.inr ⟨big 3, Nat.lt_of_lt_of_le hg (Nat.le_add_right _ _)⟩, _, a3, by unfold AnyPairO; exact ⟨_, _, rfl⟩⟩
    · exact ⟨.inr ⟨big 0, hg⟩, LitO.of a4⟩
    · exact ⟨.inr ⟨big 1, Nat.lt_of_lt_of_le hg (Nat.le_add_right _ _)⟩, LitO.of a5⟩
  · simp only [zipF, List.map_cons, List.map_nil, List.nodup_cons, List.mem_cons, List.not_mem_nil, or_false, not_or, not_false_eq_true, List.nodup_nil, and_true]
    have key : ∀ n : Nat, (¬n + 4 = n + 2 ∧ ¬n + 4 = n + 3 ∧ ¬n + 4 = n ∧ ¬n + 4 = n + 1) ∧ (¬n + 2 = n + 3 ∧ ¬n + 2 = n ∧ ¬n + 2 = n + 1) ∧ (¬n + 3 = n ∧ ¬n + 3 = n + 1) ∧ ¬n = n + 1 := by intro n; omega
    exact key _

theorem ints_items : ∀ {vs : List Value} {ns : List Int}, IntsAre vs ns → ∃ ps : List (Int × Tok), vs = ps.map (fun p => .int p.1 p.2) ∧ ns = ps.map (·.1)
  | _, _, .nil => ⟨[], rfl, rfl⟩
  | _, _, .cons n t h => let ⟨ps, e1, e2⟩ := ints_items h; ⟨(n, t) :: ps, by rw [e1]; rfl, by rw [e2]; rfl⟩
theorem sumL {a : Addr} {vs : List Value} {ns : List Int} (hh : A.handled = none) (S : St B r l s) (hm : Has B l a (LstO vs)) (hi : IntsAre vs ns) (hlen : ns.length ≤ 1000) (hb : ∀ n ∈ ns, -1000000 ≤ n ∧ n ≤ 1000000)
    (h : ∀ t s', St B r l s' → Q (.int ns.sum t) s') : wpAny (model prog w) A (call (.builtin "sum") [.ref a]) Q E s := by
  obtain ⟨o, ho, hf⟩ := hm.get S
  obtain ⟨ps, rfl, rfl⟩ := ints_items hi
  have hl : s.heap.IsList a (intItems ps.toArray) := by
    have := LstO.isList ho hf
    simpa [intItems] using this
  have num : ∀ j, j < ps.length → numAt ps.toArray j = (ps.map (·.1)).getD j 0 := by
    intro j hj
    simp [numAt, List.getD]
  have pre : ∀ j, j ≤ ps.length → preSum (numAt ps.toArray) j = ((ps.map (·.1)).take j).sum := by
    intro j
    induction j with
    | zero => intro _; simp [preSum]
    | succ j ih =>
      intro hj
      have e : preSum (numAt ps.toArray) (j + 1) = preSum (numAt ps.toArray) j + numAt ps.toArray j := by simp [preSum]
      rw [e, ih (by omega), num j (by omega)]
      have hj' : j < (ps.map (·.1)).length := by rw [List.length_map]; exact hj
      have hj3 : j < ps.length := hj
      rw [List.take_add_one, List.getElem?_eq_getElem hj']
      simp [List.sum_append, List.getD, List.getElem?_eq_getElem hj3]
  have bound : ∀ (l : List Int), (∀ n ∈ l, -1000000 ≤ n ∧ n ≤ 1000000) → -1000000 * (l.length : Int) ≤ l.sum ∧ l.sum ≤ 1000000 * (l.length : Int) := by
    intro l
    induction l with
    | nil => intro _; simp
    | cons n l ih =>
      intro h
      have h1 := h n (.head _)
      have h2 := ih fun m hm => h m (.tail _ hm)
      simp only [List.sum_cons, List.length_cons]
      omega
  have hlen' : ps.length ≤ 1000 := by simpa using hlen
  refine sum_intList hh hl (fun j hj => ?_) fun h' tk t' hk => ?_
  · have hj' : j < ps.length := by simpa using hj
    rw [num j hj', pre (j + 1) (by omega)]
    have hmem : (ps.map (·.1)).getD j 0 ∈ ps.map (·.1) := by
      have hj2 : j < (ps.map (·.1)).length := by simpa using hj'
      rw [List.getD, List.getElem?_eq_getElem hj2, Option.getD_some]
      exact List.getElem_mem hj2
    have b1 := hb _ hmem
    have b2 := bound ((ps.map (·.1)).take (j + 1)) fun n hn => hb n (List.mem_of_mem_take hn)
    have b3 : ((ps.map (·.1)).take (j + 1)).length ≤ 1000 := by simp; omega
    unfold InLong
    omega
  · have e : preSum (numAt ps.toArray) ps.toArray.size = (ps.map (·.1)).sum := by
      have := pre ps.length (Nat.le_refl _)
      rw [List.take_of_length_le (by simp)] at this
      simpa using this
    rw [e]
    exact h t' _ (S.ext ⟨rfl, fun b o q => hk b o q⟩)
end
-- L9
set_option maxRecDepth 10000
section
variable {prog : Program} {w : World} {A : Around} {E : Value → Shared → Prop} {s : Shared} {B : Addr → Option Obj} {r : Rest} {l l' : Led} {K : Frag} {env : Env} {L : Addr} {sc : Scope} {cs : List (Str × Addr)} {Q : Value → Shared → Prop}

theorem pick_upto (vs : List Value) (b : Nat) : slicePick vs.toArray none (some b) none = (vs.take b).toArray := by
  by_cases h : b ≤ vs.length
  · have := slicePick_upto vs.toArray b (by simpa using h)
    simpa using this
  · have e : slicePick vs.toArray none (some (b : Int)) none = slicePick vs.toArray none (some (vs.length : Int)) none := by
      unfold slicePick sliceBounds
      have h1 : ¬ ((b : Int) < 0) := by omega
      have h2 : ¬ ((vs.length : Int) < 0) := by omega
      simp only [h1, h2, if_false, Option.getD_none, show (1 : Int) > 0 by decide, if_true, List.size_toArray]
      have : max 0 (min (b : Int) vs.length) = max 0 (min (vs.length : Int) vs.length) := by omega
      rw [this]
    rw [e]
    have := slicePick_upto vs.toArray vs.length (by simp)
    rw [List.take_of_length_le (by omega)]
    simpa using this
theorem pick_from (vs : List Value) (b : Nat) (h : b ≤ vs.length) : slicePick vs.toArray (some b) none none = (vs.drop b).toArray := by
  have := slicePick_from vs.toArray b (by simpa using h)
  simpa using this
theorem pick_init (vs : List Value) : slicePick vs.toArray none (some (-1)) none = (vs.take (vs.length - 1)).toArray := by
  have e : slicePick vs.toArray none (some (-1)) none = slicePick vs.toArray none (some ((vs.length - 1 : Nat) : Int)) none := by
    unfold slicePick sliceBounds
    have h1 : ((-1 : Int) < 0) := by omega
    have h2 : ¬ (((vs.length - 1 : Nat) : Int) < 0) := by omega
    simp only [h1, h2, if_false, Option.getD_none, show (1 : Int) > 0 by decide, if_true, List.size_toArray]
    have : max 0 (min (-1 + (vs.length : Int)) vs.length) = max 0 (min ((vs.length - 1 : Nat) : Int) vs.length) := by omega
    rw [this]
  rw [e, pick_upto]

theorem slL {a : Addr} {vs us : List Value} {vl vu : Value} {lo hi : Option Int} (S : St B r l s) (W : Wd K B) (hm : Has B l a (LsO vs)) (hsz : vs.length ≤ 1000) (pl : IsPart vl lo) (pu : IsPart vu hi) (hp : slicePick vs.toArray lo hi none = us.toArray)
    (h : ∀ D s', St B r ((D, LstO us) :: l) s' → Q (.ref D) s') :
    ItemOn (model prog w) A E (.ref a) (.ref s.heap.objs.size) Q { s with heap := s.heap.push { cls := .type "slice", data := .fields #[vl, vu, .none] } } := by
  obtain ⟨o, ho, hf⟩ := hm.get S
  have hl := LsO.isList ho hf
  refine ⟨"list", _, list_getitem_lookup, (hl.push _).typeIs, wpAny_getItem_list_slice (hl.push _) (Heap.IsSliceOf.new ..) pl pu .none (by simp) ?_ (by simp; exact small_le hsz)⟩
  rw [hp]
  have S' : St B r l { s with heap := s.heap.push { cls := .type "slice", data := .fields #[vl, vu, .none] } } := S.pushOnly s.toks
  exact h _ _ (S'.push W rfl (by unfold LstO; exact ⟨0, rfl⟩) s.toks)
theorem slL_to {a : Addr} {vs : List Value} {j : Int} {t : Tok} (S : St B r l s) (W : Wd K B) (hm : Has B l a (LsO vs)) (hsz : vs.length ≤ 1000) (hj : 0 ≤ j)
    (h : ∀ D s', St B r ((D, LstO (vs.take j.toNat)) :: l) s' → Q (.ref D) s') :
    ItemOn (model prog w) A E (.ref a) (.ref s.heap.objs.size) Q { s with heap := s.heap.push { cls := .type "slice", data := .fields #[.none, .int j t, .none] } } :=
  slL S W hm hsz .none (.int j t) (by have := pick_upto vs j.toNat; rw [Int.toNat_of_nonneg hj] at this; exact this) h
theorem slL_from {a : Addr} {vs : List Value} {j : Int} {t : Tok} (S : St B r l s) (W : Wd K B) (hm : Has B l a (LsO vs)) (hsz : vs.length ≤ 1000) (hj : 0 ≤ j) (hj' : j ≤ vs.length)
    (h : ∀ D s', St B r ((D, LstO (vs.drop j.toNat)) :: l) s' → Q (.ref D) s') :
    ItemOn (model prog w) A E (.ref a) (.ref s.heap.objs.size) Q { s with heap := s.heap.push { cls := .type "slice", data := .fields #[.int j t, .none, .none] } } :=
  slL S W hm hsz (.int j t) .none (by have := pick_from vs j.toNat (by omega); rw [Int.toNat_of_nonneg hj] at this; exact this) h
theorem slL_init {a : Addr} {vs : List Value} {t : Tok} (S : St B r l s) (W : Wd K B) (hm : Has B l a (LsO vs)) (hsz : vs.length ≤ 1000)
    (h : ∀ D s', St B r ((D, LstO (vs.take (vs.length - 1))) :: l) s' → Q (.ref D) s') :
    ItemOn (model prog w) A E (.ref a) (.ref s.heap.objs.size) Q { s with heap := s.heap.push { cls := .type "slice", data := .fields #[.none, .int (-1) t, .none] } } :=
  slL S W hm hsz .none (.int (-1) t) (pick_init vs) h
theorem addL {a b : Addr} {vs us : List Value} (S : St B r l s) (W : Wd K B) (h1 : Has B l a (LstO vs)) (h2 : Has B l b (LstO us)) (hsz : vs.length + us.length ≤ 1000)
    (h : ∀ D s', St B r ((D, LstO (vs ++ us)) :: l) s' → Q (.ref D) s') : wpAny (model prog w) A (binaryOp .Add (.ref a) (.ref b)) Q E s := by
  obtain ⟨o1, ho1, hf1⟩ := h1.get S
  obtain ⟨o2, ho2, hf2⟩ := h2.get S
  obtain ⟨n1, i1⟩ := LstO.isL ho1 hf1
  obtain ⟨n2, i2⟩ := LstO.isL ho2 hf2
  refine P.add_list i1 i2 ?_ (by simp; exact small_le hsz)
  exact h _ _ (S.push W rfl (by unfold LstO; exact ⟨0, by simp⟩) s.toks)

/-- x.append(e) as a statement -/
theorem appendStmt {x : Str} {xp apos pos spos : Pos} {elt : PySem.Expr} {D : Addr} {Q : Flow → Shared → Prop}
    (h : wpAny (model prog w) A (eval (.Name x xp) env) (fun ov s₁ => ov = .ref D ∧ (∃ vs o, s₁.heap.get? D = some o ∧ LstO vs o) ∧
      wpAny (model prog w) A (eval elt env) (fun y s₂ => ∃ B r l l' ys, St B r l s₂ ∧ Put D (LstO ys) (LstO (ys ++ [y])) l l' ∧ ys.length ≤ 1000 ∧ ∀ s', St B r l' s' → Q .next s') E s₁) E s)
    (hi : interactive env = false) (hs : swapsWith (.Call (.Attribute (.Name x xp) "append" apos) [elt] [] pos) none spos.line env = pure false)
    (hbase : attributeBase (.Name x xp) "append" env (eval (.Name x xp) env) = eval (.Name x xp) env)
    (hline : (apos.endLine == pos.line) = true)
    (htrees : backTo pos (starEach [elt] env) = [(false, eval elt env)]) :
    wpAny (model prog w) A (exec (.Expr (.Call (.Attribute (.Name x xp) "append" apos) [elt] [] pos) spos) env) Q E s := by
  refine wpAny_Expr ?_ hi hs
  refine wpAny_Call_append hbase (by rw [htrees]; rfl) hline htrees (wpAny_mono h (fun ov s₁ h₁ => ?_) fun _ _ e => e)
  obtain ⟨rfl, ⟨vs, o, ho, hf⟩, h₁⟩ := h₁
  have hf' := hf
  unfold LstO at hf'
  obtain ⟨n, rfl⟩ := hf'
  refine ⟨D, vs.toArray, rfl, ⟨_, n, ho, rfl, rfl, rfl⟩, wpAny_mono h₁ (fun y s₂ h₂ => ?_) fun _ _ e => e⟩
  obtain ⟨B, r, l, l', ys, S, hp, hz, hq⟩ := h₂
  exact list_append S hp (small_le hz) hq

theorem notInter (e : EnvOk env L sc cs) : interactive env = false := by
  unfold interactive
  rw [e.scope, e.fn]
  rfl
def AppAt (D : Addr) (Q : Flow → Shared → Prop) (y : Value) (s : Shared) : Prop := ∃ B r l l' ys, St B r l s ∧ Put D (LstO ys) (LstO (ys ++ [y])) l l' ∧ ys.length ≤ 1000 ∧ ∀ s', St B r l' s' → Q .next s'
theorem appAt {D : Addr} {Q : Flow → Shared → Prop} {y : Value} {ys : List Value} (S : St B r l s) (hp : Put D (LstO ys) (LstO (ys ++ [y])) l l') (hz : ys.length ≤ 1000) (h : ∀ s', St B r l' s' → Q .next s') : AppAt D Q y s := ⟨_, _, _, _, _, S, hp, hz, h⟩
theorem appendS {x : Str} {xp apos pos spos : Pos} {elt : PySem.Expr} {D : Addr} {ys : List Value} {mp : List (Str × Value)} {Q : Flow → Shared → Prop} (e : EnvOk env L sc cs) (S : St B r l s) (hm : (L, FrO mp) ∈ l) (hl : sc.names.lookup x = some .local) (hv : mp.lookup x = some (.ref D))
    (hD : (D, LstO ys) ∈ l) (hline : (apos.endLine == pos.line) = true) (htrees : backTo pos (starEach [elt] env) = [(false, eval elt env)]) (hd : (x == ("__debug__" : Str)) = false)
    (h : wpAny (model prog w) A (eval elt env) (AppAt D Q) E s) : wpAny (model prog w) A (exec (.Expr (.Call (.Attribute (.Name x xp) "append" apos) [elt] [] pos) spos) env) Q E s := by
  refine appendStmt (D := D) (nmL e S hm hl hv ⟨rfl, ?_, h⟩ hd) (notInter e) rfl rfl hline htrees
  obtain ⟨o, ho, hf⟩ := S.get hD
  exact ⟨_, o, ho, hf⟩
theorem whileAt {test : PySem.Expr} {body : List Stmt} {pos : Pos} {Q : Flow → Shared → Prop} (J : Nat → (Addr → Option Obj) → Led → Prop) (n : Nat) (h0 : J n B l) (S : St B r l s)
    (turn : ∀ k B' l' s, J k B' l' → St B' r l' s → wpAny (model prog w) A (isTrue test env (eval test env)) (fun b s₂ => if b = true then wpAny (model prog w) A (execs body env) (fun f s₃ => match f with
        | .next | .cont => ∃ m B'' l'', m < k ∧ J m B'' l'' ∧ St B'' r l'' s₃
        | .brk => Q .next s₃
        | .ret v => Q (.ret v) s₃) Never s₂ else Q .next s₂) Never s) :
    wpAny (model prog w) A (exec (.While test body [] pos) env) Q E s := by
  refine wpAny_While (codeAny_whileLoop (fun k s => ∃ B' l', J k B' l' ∧ St B' r l' s) (fun k s hI => ?_) n ⟨B, l, h0, S⟩)
  obtain ⟨B', l', hJ, S'⟩ := hI
  refine wpAny_never (wpAny_mono (turn k B' l' s hJ S') (fun b s₂ h₂ => ?_) fun _ _ q => q.elim)
  cases b with
  | true =>
    rw [if_pos rfl] at h₂ ⊢
    refine wpAny_never (wpAny_mono h₂ (fun f s₃ h₃ => ?_) fun _ _ q => q.elim)
    cases f with
    | next => obtain ⟨m, B'', l'', hm, hJ', S''⟩ := h₃; exact ⟨m, hm, B'', l'', hJ', S''⟩
    | cont => obtain ⟨m, B'', l'', hm, hJ', S''⟩ := h₃; exact ⟨m, hm, B'', l'', hJ', S''⟩
    | brk => exact h₃
    | ret v => exact h₃
  | false =>
    rw [if_neg (by decide)] at h₂ ⊢
    exact wpAny_execs_nil h₂
end
local macro_rules | `(tactic| kxs_still) => `(tactic| first
  | ((with_reducible refine' appendS ?kE ?kS ?kM ?kA ?kB ?kC ?kD ?kF ?kG ?_); (case kE => assumption); (case kS => assumption); (case kM => kcj_m); (case kA => exact rfl); (case kB => exact rfl); (case kC => kcj_m); (case kD => exact rfl); (case kF => exact rfl); (case kG => decide))
  | ((with_reducible refine' appAt ?kS ?kP ?kL ?_); (case kS => assumption); (case kP => kcf_m); (case kL => kba_ints); intro _ _)
  | ((with_reducible refine' slL_to ?kS ?kW ?kM ?kN ?kA ?_); (case kS => assumption); (case kW => assumption); (case kM => kcf_all); (case kN => kba_ints); (case kA => kba_ints); intro _ _ _)
  | ((with_reducible refine' slL_from ?kS ?kW ?kM ?kN ?kA ?kB ?_); (case kS => assumption); (case kW => assumption); (case kM => kcf_all); (case kN => kba_ints); (case kA => kba_ints); (case kB => kba_ints); intro _ _ _)
  | ((with_reducible refine' addL ?kS ?kW ?kM ?kN ?kA ?_); (case kS => assumption); (case kW => assumption); (case kM => kcf_all); (case kN => kcf_all); (case kA => kba_ints); intro _ _ _))
local macro_rules | `(tactic| kd_addW) => `(tactic| (refine' listCompStore ?h0 ‹EnvOk _ _ _ _› ?h1 ?h2 ?h3 ?h4 ?h5 ?h6 ?_; (case h0 => exact rfl); (case h1 => exact rfl); (case h2 => decide +kernel); (case h3 => exact rfl); (case h4 => decide +kernel); (case h5 => intro _; exact rfl); (case h6 => exact rfl)))
-- F1
set_option maxRecDepth 100000
theorem fill : (fun (_ : Params → Frag) (_ : OpenLaw) => True) Mine.hd.heap_39 PySem.Challenge.rw_bz6005_01 := by k_fill; trivial

def swapAt (x : W) (k : Nat) : Option W := if x.getD k 0 ≠ x.getD (k + 1) 0 then some (x.take k ++ [x.getD (k + 1) 0] ++ [x.getD k 0] ++ x.drop (k + 2)) else none
def changedTo (x : W) (i : Nat) : List W := (List.range i).filterMap (swapAt x)
def changed (x : W) : List W := changedTo x (x.length - 1)
theorem changedTo_le (x : W) (i : Nat) : (changedTo x i).length ≤ i := by
  refine Nat.le_trans (List.length_filterMap_le _ _) ?_
  simp
theorem changedTo_succ (x : W) (i : Nat) : changedTo x (i + 1) = changedTo x i ++ (swapAt x i).toList := by
  unfold changedTo
  rw [List.range_succ, List.filterMap_append]
  congr 1
set_option maxHeartbeats 400000 in
theorem t_changed {prog : Program} {w : World} {A : Around} {E : Value → Shared → Prop} {s : Shared} {x : W} {t : Tok} {Q : Value → Shared → Prop}
    (W : Wd (Mine.hd.heap_39 w.params) s.heap.get?) (R : Rm A 20) (hx : x.length ≤ 6)
    (h : ∀ ys D s', StrsAre ys ((changed x).map toS) → Ext s s' → Fresh s s' D (LstO ys) → Q (.ref D) s') : wpAny (model prog w) A (call (.ref 649) [.str (toS x) t]) Q E s := by
  refine' enterF W R ?ho ?hcd ?h1 ?h2 ?h3 ?h4 ?h5 ?h6 ?h7 ?h8 ?h9 ?h10 ?_
  case ho => k_is
  case hcd => k_is
  case h1 => exact rfl
  case h2 => exact rfl
  case h3 => exact rfl
  case h4 => exact rfl
  case h5 => exact rfl
  case h6 => exact rfl
  case h7 => exact rfl
  case h8 => exact rfl
  case h9 => exact rfl
  case h10 => decide +kernel
  intro env s₁ L e S R
  dsimp only at e S
  replace S : St _ _ [(L, FrO []), (L+1, CellO (some (.str (toS x) t)))] s₁ := S
  kxs_still
  kxs_still
  refine listComp e ?h1 ?h2 ?h3 ?h4 ?h5 ?_
  case h1 => exact rfl
  case h2 => decide +kernel
  case h3 => exact rfl
  case h4 => decide +kernel
  case h5 => intro _; exact rfl
  repeat kxs_still
  refine ⟨_, _, _, _, _, _, _, _, _, _, _, fun i ys _ => StrsAre ys ((changedTo x i).map toS), ⟨rfl, iterRange _ 0 _, trivial, ?c1, R.handled, W.glo (St.over ‹St _ _ _ _›), fun S' hle => (W.le hle).glo S'.over, ‹St _ _ _ _›, .nil, ?c2, fun _ _ _ _ => trivial, ?c3⟩, ?c4⟩
  case c1 => exact small_le (by omega)
  case c2 => intro i ys B' h; rw [StrsAre.length h, List.length_map]; exact changedTo_le x i
  case c3 =>
    intro i v ys B' C cenv D s hi hv hJ hle e S
    have W' := W.le hle
    dsimp only [List.cons_append, List.nil_append] at S
    obtain ⟨t, rfl⟩ := hv
    rw [Int.zero_add]
    repeat kxs_still
    have two : swapAt x i = if x.getD i 0 ≠ x.getD (i + 1) 0 then some (x.take i ++ [x.getD (i + 1) 0] ++ [x.getD i 0] ++ x.drop (i + 2)) else none := rfl
    simp only [show ((i : Int)).toNat = i by omega, show ((i : Int) + 1).toNat = i + 1 by omega]
    by_cases hne : x.getD i 0 ≠ x.getD (i + 1) 0
    · rw [if_pos hne] at two
      rw [if_pos (by simpa using hne)]
      repeat kxs_still
      refine ⟨B', _, LeB.refl _, ?_, ‹St _ _ _ _›⟩
      rw [changedTo_succ, two, List.map_append]
      simp only [show ((i : Int)).toNat = i by omega, show ((i : Int) + 1).toNat = i + 1 by omega, show ((i : Int) + 2).toNat = i + 2 by omega]
      exact hJ.append' (StrsAre.one _ _)
    · rw [if_neg hne] at two
      rw [if_neg (by simpa using hne)]
      refine ⟨B', _, LeB.refl _, ?_, ‹St _ _ _ _›⟩
      rw [changedTo_succ, two]
      simpa using hJ
  case c4 =>
    intro ys B' D s' hJ hle S
    obtain ⟨x1, x2⟩ := S.out hle
    rw [show ((x.length : Int) - 1 - 0).toNat = x.length - 1 by omega] at hJ
    exact h _ _ _ hJ x1 x2
-- F2
set_option maxRecDepth 100000
def placesTo (x : W) (i : Nat) : List Int := (List.range i).filterMap fun k => if x.getD k 0 = 97 then some (k : Int) else none
def places (x : W) : List Int := placesTo x x.length
theorem placesTo_succ (x : W) (i : Nat) : placesTo x (i + 1) = placesTo x i ++ (if x.getD i 0 = 97 then [(i : Int)] else []) := by
  unfold placesTo
  rw [List.range_succ, List.filterMap_append]
  congr 1
  by_cases h : x.getD i 0 = 97
  · rw [if_pos h, List.filterMap_cons, if_pos h]; rfl
  · rw [if_neg h, List.filterMap_cons, if_neg h]; rfl
theorem placesTo_le (x : W) (i : Nat) : (placesTo x i).length ≤ i := by
  refine Nat.le_trans (List.length_filterMap_le _ _) ?_
  simp
set_option maxHeartbeats 400000 in
theorem t_places {prog : Program} {w : World} {A : Around} {E : Value → Shared → Prop} {s : Shared} {x : W} {t : Tok} {Q : Value → Shared → Prop}
    (W : Wd (Mine.hd.heap_39 w.params) s.heap.get?) (R : Rm A 20) (hx : x.length ≤ 6)
    (h : ∀ ys D s', IntsAre ys (places x) → Ext s s' → Fresh s s' D (LstO ys) → Q (.ref D) s') : wpAny (model prog w) A (call (.ref 654) [.str (toS x) t]) Q E s := by
  kd_addB
  intro env s₁ L e S R
  dsimp only at e S
  replace S : St _ _ [(L, FrO []), (L+1, CellO (some (.str (toS x) t)))] s₁ := S
  kxs_still
  kxs_still
  kd_addW
  repeat kxs_still
  refine ⟨_, _, _, _, _, _, _, _, _, _, _, fun i ys _ => IntsAre ys (placesTo x i), ⟨rfl, iterRange _ 0 _, trivial, ?c1, R.handled, W.glo (St.over ‹St _ _ _ _›), fun S' hle => (W.le hle).glo S'.over, ‹St _ _ _ _›, .nil, ?c2, fun _ _ _ _ => trivial, ?c3⟩, ?c4⟩
  case c1 => exact small_le (by omega)
  case c2 => intro i ys B' h; rw [IntsAre.length h]; exact placesTo_le x i
  case c3 =>
    intro i v ys B' C cenv D s hi hv hJ hle e S
    have W' := W.le hle
    dsimp only [List.cons_append, List.nil_append] at S
    obtain ⟨t, rfl⟩ := hv
    rw [Int.zero_add]
    repeat kxs_still
    simp only [show ((i : Int)).toNat = i by omega]
    by_cases hc : x.getD i 0 = 97
    · rw [if_pos (by simpa using hc)]
      repeat kxs_still
      refine ⟨B', _, LeB.refl _, ?_, ‹St _ _ _ _›⟩
      rw [placesTo_succ, if_pos hc]
      exact hJ.append (IntsAre.one _ _)
    · rw [if_neg (by simpa using hc)]
      refine ⟨B', _, LeB.refl _, ?_, ‹St _ _ _ _›⟩
      rw [placesTo_succ, if_neg hc]
      simpa using hJ
  case c4 =>
    intro ys B' D s' hJ hle S
    obtain ⟨x1, x2⟩ := S.out hle
    rw [show ((x.length : Int) - 0).toNat = x.length by omega] at hJ
    exact h _ _ _ hJ x1 x2
-- F3
set_option maxRecDepth 100000
def absZ (n : Int) : Int := if n < 0 then -n else n
def stepsTo (a b : List Int) (i : Nat) : List Int := (List.range i).map fun k => absZ (a.getD k 0 - b.getD k 0)
def steps (a b : W) : Int := (stepsTo (places a) (places b) (places a).length).sum
theorem stepsTo_succ (a b : List Int) (i : Nat) : stepsTo a b (i + 1) = stepsTo a b i ++ [absZ (a.getD i 0 - b.getD i 0)] := by
  unfold stepsTo
  rw [List.range_succ, List.map_append]
  rfl
theorem IntsAre.getD : ∀ {vs : List Value} {ns : List Int}, IntsAre vs ns → ∀ i, i < vs.length → ∃ t, vs.getD i .none = .int (ns.getD i 0) t
  | _, _, .nil, i, h => absurd h (Nat.not_lt_zero _)
  | _, _, .cons n t r, 0, _ => ⟨t, rfl⟩
  | _, _, .cons n t r, i + 1, h => IntsAre.getD r i (Nat.lt_of_succ_lt_succ h)
theorem places_bound (x : W) (hx : x.length ≤ 6) : ∀ n ∈ places x, 0 ≤ n ∧ n ≤ 6 := by
  intro n hn
  obtain ⟨k, hk, e⟩ := List.mem_filterMap.mp hn
  have := List.mem_range.mp hk
  by_cases h : x.getD k 0 = 97
  · rw [if_pos h] at e; cases e; omega
  · rw [if_neg h] at e; cases e
theorem getD_bound {l : List Int} (h : ∀ n ∈ l, 0 ≤ n ∧ n ≤ 6) (k : Nat) : 0 ≤ l.getD k 0 ∧ l.getD k 0 ≤ 6 := by
  rw [List.getD]
  cases e : l[k]? with
  | none => exact ⟨by decide, by decide⟩
  | some n => exact h n (List.mem_of_getElem? e)
set_option maxHeartbeats 400000 in
theorem t_steps {prog : Program} {w : World} {A : Around} {E : Value → Shared → Prop} {s : Shared} {x y : W} {t u : Tok} {Q : Value → Shared → Prop}
    (W : Wd (Mine.hd.heap_39 w.params) s.heap.get?) (R : Rm A 30) (hx : x.length ≤ 6) (hy : y.length ≤ 6) (hxy : (places x).length = (places y).length)
    (h : ∀ t s', Ext s s' → Q (.int (steps x y) t) s') : wpAny (model prog w) A (call (.ref 659) [.str (toS x) t, .str (toS y) u]) Q E s := by
  kd_addB
  intro env s₁ L e S R
  dsimp only at e S
  replace S : St _ _ [(L, FrO [("two", .str (toS y) u), ("one", .str (toS x) t)])] s₁ := S
  kxs_still
  kxs_still
  repeat kxs_still
  kd_addW
  repeat kxs_still
  refine t_places (W.at ‹St _ _ _ _›) (R.le (by omega)) hx fun vs D s' hv x1 x2 => ?_
  have S := St.new ‹St _ _ _ _› x1 x2
  repeat kxs_still
  refine t_places (W.at ‹St _ _ _ _›) (R.le (by omega)) hy fun us D' s' hu x1 x2 => ?_
  have S := St.new ‹St _ _ _ _› x1 x2
  repeat kxs_still
  have hvl := IntsAre.length hv
  have hul := IntsAre.length hu
  have hlen : vs.length = us.length := by rw [hvl, hul, hxy]
  have hp6 : (places x).length ≤ 6 := Nat.le_trans (placesTo_le x _) hx
  refine zipCall ‹St _ _ _ _› W (Has.mem (by kcj_m)) (Has.mem (by kcj_m)) fun z TI TO i1 i2 s' S => ?_
  refine (iterZip z TI TO i1 i2 D D' vs us hlen).self S ?_
  refine ⟨_, _, _, _, _, _, _, _, _, _, _, fun i ys _ => IntsAre ys (stepsTo (places x) (places y) i), ⟨rfl, iterZip z TI TO i1 i2 D D' vs us hlen, ⟨_, _, _, rfl⟩, ?c1, R.handled, W.glo (St.over ‹St _ _ _ _›), fun S' hle => (W.le hle).glo S'.over, S, .nil, ?c2, ?c5, ?c3⟩, ?c4⟩
  case c1 => exact small_le (by omega)
  case c2 => intro i ys B' h; rw [IntsAre.length h]; simp [stepsTo]
  case c5 => intro B' l' hle hl; exact ⟨Has.mem (hl _ (by kcj_m)), Has.mem (hl _ (by kcj_m))⟩
  case c3 =>
    intro i v zs B' C cenv DD s hi hv hJ hle e S
    have W' := W.le hle
    obtain ⟨T, rfl⟩ := hv
    simp only [zipM, zipF, List.cons_append, List.nil_append, Bool.false_eq_true, if_false] at S
    obtain ⟨t1, e1⟩ := IntsAre.getD ‹IntsAre vs _› i (by omega)
    obtain ⟨t2, e2⟩ := IntsAre.getD hu i (by omega)
    rw [e1, e2] at S
    repeat kxs_still
    rw [if_pos rfl]
    repeat kxs_still
    refine' ⟨B', _, LeB.refl _, ?h1, St.sub ‹St _ _ _ _› ?h2⟩
    case h1 =>
      rw [stepsTo_succ]
      exact hJ.append (IntsAre.one _ _)
    case h2 => exact .cons_cons _ (.cons_cons _ (.cons_cons _ (.cons_cons _ (.cons_cons _ (.cons_cons _ (.cons_cons _ (.cons _ (List.Sublist.refl _))))))))
  case c4 =>
    intro zs B' D s' hJ hle S
    have W' := W.le hle
    repeat kxs_still
    have hlen2 := IntsAre.length hJ
    refine sumL R.handled ‹St _ _ _ _› (Has.mem (by kcj_m)) hJ ?_ ?_ fun t s' S' => ?_
    · simp [stepsTo]; omega
    · intro n hn
      obtain ⟨k, hk, rfl⟩ := List.mem_map.mp hn
      have b1 := getD_bound (places_bound x hx) k
      have b2 := getD_bound (places_bound y hy) k
      unfold absZ
      split <;> omega
    · have := h t s' (S'.ext1 hle)
      rw [hvl]
      exact this
-- F4
set_option maxRecDepth 100000
set_option maxHeartbeats 800000 in
theorem t_numbers {prog : Program} {w : World} {A : Around} {E : Value → Shared → Prop} {s : Shared} {a : Addr} {o : Obj} {vs : List Value} {ns : List Int} {t : Tok} {Q : Value → Shared → Prop}
    (W : Wd (Mine.hd.heap_39 w.params) s.heap.get?) (R : Rm A 20) (ha : s.heap.get? a = some o) (hf : LsO vs o) (hv : IntsAre vs ns) (hn : vs.length ≤ 63)
    (h : ∀ ys ms D s', IntsAre ys ms → ms.length = 4 → Ext s s' → Fresh s s' D (LstO ys) → Q (.ref D) s') : wpAny (model prog w) A (call (.ref 639) [.ref a, .int 4 t]) Q E s := by
  have H0 : ∀ l : Led, Has s.heap.get? l a (LsO vs) := fun l => .stay ha hf
  kd_addB
  intro env s₁ L e S R
  dsimp only at e S
  replace S : St _ _ [(L, FrO [("many", .int 4 t), ("script", .ref a)])] s₁ := S
  kxs_still
  kd_addW
  repeat kxs_still
  refine ⟨_, _, _, _, _, _, _, _, _, _, _, fun i ys _ => ys = (vs.take (Int.toNat 4)).take i, ⟨rfl, iterList _ _ (vs.take (Int.toNat 4)) ?c0, trivial, ?c1, R.handled, W.glo (St.over ‹St _ _ _ _›), fun S' hle => (W.le hle).glo S'.over, ‹St _ _ _ _›, rfl, ?c2, ?c5, ?c3⟩, _, _, fun D' => Put.tail Put.head, ?c4⟩
  case c0 => exact small_le (by simp; omega)
  case c1 => exact small_le (by simp; omega)
  case c2 => intro i ys B' h; rw [h]; simp; omega
  case c5 => intro B' l' hle hl; exact Has.ls (hl _ (by kcj_m))
  case c3 =>
    intro i v ys B' C cenv D s hi hv hJ hle e S
    have W' := W.le hle
    dsimp only [List.cons_append, List.nil_append] at S
    repeat kxs_still
    rw [if_pos rfl]
    repeat kxs_still
    refine' ⟨B', _, LeB.refl _, ?h1, ‹St _ _ _ _›⟩
    case h1 => rw [hJ, List.take_add_one, hv]; rfl
  case c4 =>
    intro ys B' D s' hJ hle S
    have W' := W.le hle
    have H0 : ∀ l : Led, Has B' l a (LsO vs) := fun l => (H0 l).le hle
    obtain ⟨ms, hms⟩ : ∃ ms, IntsAre ys ms := by
      rw [hJ, List.take_of_length_le (by simp)]
      exact ⟨_, hv.take _⟩
    have hml : ms.length ≤ 4 := by rw [← IntsAre.length hms, hJ]; simp; omega
    clear hJ
    have S : St B' _ [(D, LstO ys), (L, FrO [("found", .ref D), ("many", .int 4 t), ("script", .ref a)])] _ := S.sub (.cons_cons _ (.cons _ (.refl _)))
    repeat kxs_still
    have S := ‹St B' _ [(D, LstO ys), (L, FrO [("last", _), ("found", .ref D), ("many", .int 4 t), ("script", .ref a)])] _›
    refine forIter R.handled ?_
    repeat kxs_still
    have S := ‹St B' _ [(_, LitO a 0), (D, LstO ys), (L, FrO [("last", _), ("found", .ref D), ("many", .int 4 t), ("script", .ref a)])] _›
    refine ⟨_, _, _, _, _, _, _, _, _, fun i B₁ l₁ => B₁ = B' ∧ ∃ m u, 0 ≤ m ∧ m < 2147483647 ∧ l₁ = [(D, LstO ys), (L, FrO [("last", .int m u), ("found", .ref D), ("many", .int 4 t), ("script", .ref a)])],
      rfl, iterList _ a vs (small_le (by omega)), trivial, ?d1, ?d2, ⟨_, _, ⟨rfl, _, _, ?d3, ?d4, rfl⟩, S⟩, ?d5, ?d6⟩
    case d1 => rintro B₁ l₁ s' i ⟨rfl, -⟩ S'; exact W'.glo S'.over
    case d2 => rintro i B₁ l₁ ⟨rfl, -⟩; exact H0 _
    case d3 => omega
    case d4 => omega
    case d5 =>
      rintro i v B₁ l₁ s hi hv' ⟨rfl, m, u, hm0, hm1, rfl⟩ S
      obtain ⟨n, tn, rfl, -⟩ := IntsAre.at hv i v hv'
      dsimp only [List.cons_append, List.nil_append] at S
      repeat kxs_still
      rename_i tt s1 S1 s2 S2
      exact ⟨_, _, ⟨rfl, (m * 31 + n).fmod 2147483647, tt, Int.fmod_nonneg_of_pos _ (by decide), Int.fmod_lt_of_pos _ (by decide), rfl⟩, S2.weaken (.tail (.tail .head)) (FrO.less ⟨rfl, rfl, rfl, rfl, trivial⟩)⟩
    case d6 =>
      rintro B₁ l₁ s ⟨eB, m, u, hm0, hm1, rfl⟩ S
      rw [eB] at S
      clear eB
      kxs_still
      refine whileAt (fun k B₁ l₁ => B₁ = B' ∧ ∃ m u ys ms, 0 ≤ m ∧ m < 2147483647 ∧ IntsAre ys ms ∧ ms.length + k = 4 ∧ l₁ = [(D, LstO ys), (L, FrO [("last", .int m u), ("found", .ref D), ("many", .int 4 t), ("script", .ref a)])]) (4 - ms.length)
        ⟨rfl, m, u, ys, ms, hm0, hm1, hms, by omega, rfl⟩ S ?_
      rintro k B₂ l₂ s ⟨eB, m, u, ys, ms, hm0, hm1, hms, hk, rfl⟩ S
      rw [eB] at S
      clear eB
      have hyl := IntsAre.length hms
      repeat kxs_still
      by_cases hlt : (ys.length : Int) < 4
      · rw [if_pos (by simpa using hlt)]
        repeat kxs_still
        rename_i tt s1 S1 s2 S2 t3 s3 S3 u1 s4 S4 s5 S5
        exact ⟨k - 1, B', _, by omega, ⟨rfl, (m * 48271 + 11).fmod 2147483647, tt, ys ++ [.int (((m * 48271 + 11).fmod 2147483647).fdiv 13) u1], ms ++ [((m * 48271 + 11).fmod 2147483647).fdiv 13], Int.fmod_nonneg_of_pos _ (by decide), Int.fmod_lt_of_pos _ (by decide),
          hms.append (IntsAre.one _ _), by simp; omega, rfl⟩, S5.weaken (.tail .head) (FrO.less (by exact ⟨rfl, rfl, rfl, rfl, trivial⟩))⟩
      · rw [if_neg (by simpa using hlt)]
        repeat kxs_still
        have S := ‹St _ _ _ _›
        obtain ⟨x1, x2⟩ := S.out hle
        exact h _ _ _ _ hms (by omega) x1 x2
-- F5
set_option maxRecDepth 100000
abbrev Row := W × Int × Int
def RowAt (B : Addr → Option Obj) (v : Value) (x : Row) : Prop := ∃ a o t1 t2 t3, v = .ref a ∧ B a = some o ∧ TupO [.str (toS x.1) t1, .int x.2.1 t2, .int x.2.2 t3] o
inductive Two {α β : Type} (R : α → β → Prop) : List α → List β → Prop
  | nil : Two R [] []
  | cons {a b l m} : R a b → Two R l m → Two R (a :: l) (b :: m)
namespace Two
variable {α β : Type} {R R' : α → β → Prop}
theorem length : ∀ {l : List α} {m : List β}, Two R l m → l.length = m.length
  | _, _, .nil => rfl
  | _, _, .cons _ h => by rw [List.length_cons, List.length_cons, h.length]
theorem append : ∀ {l : List α} {m : List β} {l' : List α} {m' : List β}, Two R l m → Two R l' m' → Two R (l ++ l') (m ++ m')
  | _, _, _, _, .nil, h => h
  | _, _, _, _, .cons a h, h' => .cons a (h.append h')
theorem imp (f : ∀ a b, R a b → R' a b) : ∀ {l : List α} {m : List β}, Two R l m → Two R' l m
  | _, _, .nil => .nil
  | _, _, .cons a h => .cons (f _ _ a) (h.imp f)
theorem get : ∀ {l : List α} {m : List β}, Two R l m → ∀ {i : Nat} {a : α}, l[i]? = some a → ∃ b, m[i]? = some b ∧ R a b
  | _, _, .nil, i, a, h => by simp at h
  | _, _, .cons (b := b) r h, 0, a, e => by
    simp at e; subst e; exact ⟨b, by simp, r⟩
  | _, _, .cons r h, i + 1, a, e => by
    have e' : _ := e
    simp only [List.getElem?_cons_succ] at e' ⊢
    exact h.get e'
theorem one {a : α} {b : β} (h : R a b) : Two R [a] [b] := .cons h .nil
end Two
theorem RowAt.le {B B' : Addr → Option Obj} (x : LeB B B') (v : Value) (y : Row) (h : RowAt B v y) : RowAt B' v y := by
  obtain ⟨a, o, t1, t2, t3, e, ho, hp⟩ := h
  exact ⟨a, o, t1, t2, t3, e, x _ _ ho, hp⟩
def stA (x : Row) : Option Row := if x.2.1 > 0 then some (x.1 ++ [97], x.2.1 - 1, x.2.2) else none
def stB (x : Row) : Option Row := if x.2.2 > 0 then some (x.1 ++ [98], x.2.1, x.2.2 - 1) else none
def rowsAt (m o : Int) : Nat → List Row
  | 0 => [([], m, o)]
  | k + 1 => (rowsAt m o k).filterMap stA ++ (rowsAt m o k).filterMap stB
def wordsW (m o : Nat) : List W := (rowsAt m o (m + o)).map (·.1)
theorem rowsAt_len (m o : Int) : ∀ k, (rowsAt m o k).length ≤ 2 ^ k
  | 0 => by simp [rowsAt]
  | k + 1 => by
    have := rowsAt_len m o k
    have h1 := List.length_filterMap_le stA (rowsAt m o k)
    have h2 := List.length_filterMap_le stB (rowsAt m o k)
    unfold rowsAt
    rw [List.length_append, Nat.pow_succ]
    omega
theorem rowsAt_word (m o : Int) : ∀ k, ∀ x ∈ rowsAt m o k, x.1.length = k
  | 0 => by simp [rowsAt]
  | k + 1 => by
    intro x hx
    have ih := rowsAt_word m o k
    rcases List.mem_append.mp hx with h | h
    · obtain ⟨y, hy, e⟩ := List.mem_filterMap.mp h
      unfold stA at e
      split at e
      · cases e; simp [ih y hy]
      · cases e
    · obtain ⟨y, hy, e⟩ := List.mem_filterMap.mp h
      unfold stB at e
      split at e
      · cases e; simp [ih y hy]
      · cases e
theorem pow_small {k : Nat} (h : k ≤ 6) : 2 ^ k ≤ 64 := by
  have := Nat.pow_le_pow_right (show 0 < 2 by decide) h
  simpa using this
theorem fm_take {α β : Type} (f : α → Option β) (l : List α) (i : Nat) (x : α) (h : l[i]? = some x) : (l.take (i + 1)).filterMap f = (l.take i).filterMap f ++ (f x).toList := by
  rw [List.take_add_one, h, List.filterMap_append]
  congr 1
set_option maxHeartbeats 800000 in
theorem t_words {prog : Program} {w : World} {A : Around} {E : Value → Shared → Prop} {s : Shared} {m o : Nat} {t u : Tok} {Q : Value → Shared → Prop}
    (W : Wd (Mine.hd.heap_39 w.params) s.heap.get?) (R : Rm A 20) (hm : m ≤ 3) (ho : o ≤ 3)
    (h : ∀ ys D s', StrsAre ys ((wordsW m o).map toS) → Ext s s' → Fresh s s' D (LstO ys) → Q (.ref D) s') : wpAny (model prog w) A (call (.ref 644) [.int m t, .int o u]) Q E s := by
  kd_addB
  intro env s₁ L e S R
  dsimp only at e S
  replace S : St _ _ [(L, FrO [("other", .int o u), ("many", .int m t)])] s₁ := S
  repeat kxs_still
  rename_i t0 s0 S0 T s1 S1 D s2 S2 s3 S3
  obtain ⟨ob, hob, hle1, S⟩ := (S3.perm (l' := [(T, _), (D, _), (L, _)]) (List.Perm.swap _ _ _)).freeze
  have W1 := W.le hle1
  have row0 : Two (RowAt (setB s.heap.get? T ob)) [.ref T] (rowsAt m o 0) := .one ⟨T, ob, _, _, _, rfl, setB_self _ _ _, hob⟩
  generalize hB1 : setB s.heap.get? T ob = B1 at *
  refine forIter R.handled ?_
  repeat kxs_still
  rename_i I s4 S4
  refine ⟨_, _, _, _, _, _, _, _, _, fun i B' l' => LeB B1 B' ∧ ∃ Dr vs, Two (RowAt B') vs (rowsAt m o i) ∧ l' = [(Dr, LstO vs), (L, FrO [("rows", .ref Dr), ("other", .int o u), ("many", .int m t)])],
    rfl, iterRange _ 0 _, trivial, ?d1, fun _ _ _ _ => trivial, ⟨_, _, ⟨LeB.refl _, D, _, row0, rfl⟩, S4⟩, ?d5, ?d6⟩
  case d1 => rintro B₁ l₁ s' i ⟨hle, -⟩ S'; exact (W1.le hle).glo S'.over
  case d5 =>
    rintro i v B₁ l₁ s hi ⟨tv, rfl⟩ ⟨hle, Dr, vs, hvs, rfl⟩ S
    have W2 := W1.le hle
    have hi6 : i ≤ 5 := by omega
    have hlen := hvs.length
    have hl64 := Nat.le_trans (rowsAt_len m o i) (pow_small (by omega))
    dsimp only [List.cons_append, List.nil_append] at S
    repeat kxs_still
    kd_addW
    repeat kxs_still
    refine ⟨_, _, _, _, _, _, _, _, _, _, _, fun j ys B'' => Two (RowAt B'') ys (((rowsAt m o i).take j).filterMap stA), ⟨rfl, iterList _ _ vs (small_le (by omega)), trivial, small_le (by omega), R.handled, W2.glo (St.over ‹St _ _ _ _›), fun S' hle => (W2.le hle).glo S'.over, ‹St _ _ _ _›, (by exact .nil), ?a1, ?b1, ?c1⟩, ?d1⟩
    case a1 => intro j ys B'' h; rw [h.length]; exact Nat.le_trans (List.length_filterMap_le _ _) (by rw [List.length_take]; exact Nat.min_le_left _ _)
    case b1 => intro B'' l'' _ hl; exact Has.ls (hl _ (by kcj_m))
    case c1 =>
      intro j v ys B' C cenv DD s hj hv hJ hle e S
      have W3 := W2.le hle
      dsimp only [List.cons_append, List.nil_append] at S
      obtain ⟨x, hx, a, ob, t1, t2, t3, rfl, hB, hT⟩ := hvs.get hv
      have HT : ∀ l : Led, Has B' l a (TupO [.str (toS x.1) t1, .int x.2.1 t2, .int x.2.2 t3]) := fun l => .stay (hle _ _ hB) hT
      have hxl := rowsAt_word m o i x (List.mem_of_getElem? hx)
      have step := fm_take stA _ _ _ hx
      repeat kxs_still
      by_cases hc : x.2.1 > 0
      · rw [if_pos (by simpa using hc)]
        have e1 : stA x = some _ := if_pos hc
        rw [e1] at step
        repeat kxs_still
        obtain ⟨ob2, hP, hle2, S⟩ := St.freeze ‹St _ _ _ _›
        refine' ⟨_, _, hle2, ?h1, S⟩
        case h1 =>
          rw [step]
          exact (hJ.imp (RowAt.le hle2)).append (.one ⟨_, _, _, _, _, rfl, setB_self _ _ _, hP⟩)
      · rw [if_neg (by simpa using hc)]
        have e1 : stA x = none := if_neg hc
        rw [e1] at step
        refine' ⟨B', _, LeB.refl _, ?h1, ‹St _ _ _ _›⟩
        case h1 => rw [step]; simpa using hJ
    case d1 =>
      intro ys1 B2 D1 s' hJ1 hle1' S
      have W3 := W2.le hle1'
      have hvs2 := hvs.imp (RowAt.le hle1')
      rw [show ((rowsAt m o i).take vs.length) = rowsAt m o i from List.take_of_length_le (by omega)] at hJ1
      kd_addW
      repeat kxs_still
      refine ⟨_, _, _, _, _, _, _, _, _, _, _, fun j ys B'' => Two (RowAt B'') ys (((rowsAt m o i).take j).filterMap stB), ⟨rfl, iterList _ _ vs (small_le (by omega)), trivial, small_le (by omega), R.handled, W3.glo (St.over ‹St _ _ _ _›), fun S' hle => (W3.le hle).glo S'.over, ‹St _ _ _ _›, (by exact .nil), ?a2, ?b2, ?c2⟩, ?d2⟩
      case a2 => intro j ys B'' h; rw [h.length]; exact Nat.le_trans (List.length_filterMap_le _ _) (by rw [List.length_take]; exact Nat.min_le_left _ _)
      case b2 => intro B'' l'' _ hl; exact Has.ls (hl _ (by kcj_m))
      case c2 =>
        intro j v ys B' C cenv DD s hj hv hJ hle e S
        have W3 := W3.le hle
        dsimp only [List.cons_append, List.nil_append] at S
        obtain ⟨x, hx, a, ob, t1, t2, t3, rfl, hB, hT⟩ := hvs2.get hv
        have HT : ∀ l : Led, Has B' l a (TupO [.str (toS x.1) t1, .int x.2.1 t2, .int x.2.2 t3]) := fun l => .stay (hle _ _ hB) hT
        have hxl := rowsAt_word m o i x (List.mem_of_getElem? hx)
        have step := fm_take stB _ _ _ hx
        repeat kxs_still
        by_cases hc : x.2.2 > 0
        · rw [if_pos (by simpa using hc)]
          have e1 : stB x = some _ := if_pos hc
          rw [e1] at step
          repeat kxs_still
          obtain ⟨ob2, hP, hle2, S⟩ := St.freeze ‹St _ _ _ _›
          refine' ⟨_, _, hle2, ?h1, S⟩
          case h1 =>
            rw [step]
            exact (hJ.imp (RowAt.le hle2)).append (.one ⟨_, _, _, _, _, rfl, setB_self _ _ _, hP⟩)
        · rw [if_neg (by simpa using hc)]
          have e1 : stB x = none := if_neg hc
          rw [e1] at step
          refine' ⟨B', _, LeB.refl _, ?h1, ‹St _ _ _ _›⟩
          case h1 => rw [step]; simpa using hJ
      case d2 =>
        intro ys2 B3 D2 s' hJ2 hle2' S
        have W4 := W3.le hle2'
        rw [show ((rowsAt m o i).take vs.length) = rowsAt m o i from List.take_of_length_le (by omega)] at hJ2
        have all := (hJ1.imp (RowAt.le hle2')).append hJ2
        have hl3 := rowsAt_len m o (i + 1)
        have hl4 := pow_small (show i + 1 ≤ 6 by omega)
        have hl5 : (rowsAt m o (i + 1)).length = ys1.length + ys2.length := by
          have := all.length
          rw [List.length_append] at this
          rw [this]
          rfl
        repeat kxs_still
        rename_i D3 sA SA sB SB
        exact ⟨_, _, ⟨(hle.trans hle1').trans hle2', D3, _, all, rfl⟩, ((SB.sub (.cons_cons _ (.cons _ (.cons _ (.cons_cons _ (.cons _ (.refl _))))))).perm (List.Perm.swap _ _ _)).weaken (.tail (.tail .head)) (FrO.less (by exact ⟨rfl, rfl, rfl, trivial⟩))⟩
  case d6 =>
    rintro B₁ l₁ s ⟨hle, Dr, vs, hvs, rfl⟩ S
    have W2 := W1.le hle
    have hN : ((m : Int) + (o : Int) - 0).toNat = m + o := by omega
    rw [hN] at hvs
    have hlen := hvs.length
    have hl64 := Nat.le_trans (rowsAt_len m o (m + o)) (pow_small (by omega))
    repeat kxs_still
    kd_addW
    repeat kxs_still
    refine ⟨_, _, _, _, _, _, _, _, _, _, _, fun j ys B'' => StrsAre ys ((((rowsAt m o (m + o)).take j).map (·.1)).map toS), ⟨rfl, iterList _ _ vs (small_le (by omega)), trivial, small_le (by omega), R.handled, W2.glo (St.over ‹St _ _ _ _›), fun S' hle => (W2.le hle).glo S'.over, ‹St _ _ _ _›, (by exact .nil), ?a1, ?b1, ?c1⟩, ?d1⟩
    case a1 => intro j ys B'' h; rw [StrsAre.length h, List.length_map, List.length_map, List.length_take]; exact Nat.min_le_left _ _
    case b1 => intro B'' l'' _ hl; exact Has.ls (hl _ (by kcj_m))
    case c1 =>
      intro j v ys B' C cenv DD s hj hv hJ hle e S
      have W3 := W2.le hle
      dsimp only [List.cons_append, List.nil_append] at S
      obtain ⟨x, hx, a, ob, t1, t2, t3, rfl, hB, hT⟩ := hvs.get hv
      have HT : ∀ l : Led, Has B' l a (TupO [.str (toS x.1) t1, .int x.2.1 t2, .int x.2.2 t3]) := fun l => .stay (hle _ _ hB) hT
      repeat kxs_still
      rw [if_pos rfl]
      repeat kxs_still
      refine' ⟨B', _, LeB.refl _, ?h1, ‹St _ _ _ _›⟩
      case h1 =>
        rw [List.take_add_one, hx, List.map_append, List.map_append]
        exact hJ.append' (StrsAre.one _ _)
    case d1 =>
      intro ys B' D s' hJ hle' S
      rw [List.take_of_length_le (show (rowsAt m o (m + o)).length ≤ vs.length by omega)] at hJ
      obtain ⟨x1, x2⟩ := S.out (hle1.trans (hle.trans hle'))
      exact h _ _ _ hJ x1 x2
-- F6
set_option maxRecDepth 100000
def partedN : Nat → Nat → Nat → Nat
  | 0, n, _ => if n = 0 then 1 else 0
  | q + 1, n, p => if n = 0 then 1 else if p = 0 then 0 else ((List.range (min n p)).map fun i => partedN q (n - (i + 1)) (i + 1)).sum
def partsTo (q n i : Nat) : List Int := (List.range i).map fun j => ((partedN q (n - (j + 1)) (j + 1) : Nat) : Int)
theorem partsTo_succ (q n i : Nat) : partsTo q n (i + 1) = partsTo q n i ++ [((partedN q (n - (i + 1)) (i + 1) : Nat) : Int)] := by
  unfold partsTo
  rw [List.range_succ, List.map_append]
  rfl
theorem sum_le (c : Nat) : ∀ l : List Nat, (∀ x ∈ l, x ≤ c) → l.sum ≤ c * l.length
  | [], _ => by simp
  | x :: l, h => by
    have h1 := h x (.head _)
    have h2 := sum_le c l fun y hy => h y (.tail _ hy)
    rw [List.sum_cons, List.length_cons, Nat.mul_add]
    omega
theorem partedN_le : ∀ (q n p : Nat), p ≤ 3 → partedN q n p ≤ 4 ^ q
  | 0, n, p, _ => by unfold partedN; split <;> simp
  | q + 1, n, p, hp => by
    unfold partedN
    have h4 : 1 ≤ 4 ^ (q + 1) := Nat.pow_pos (by decide)
    split
    · exact h4
    · split
      · exact Nat.zero_le _
      · have := sum_le (4 ^ q) ((List.range (min n p)).map fun i => partedN q (n - (i + 1)) (i + 1)) (by
          intro x hx
          obtain ⟨i, hi, rfl⟩ := List.mem_map.mp hx
          have := List.mem_range.mp hi
          exact partedN_le q _ _ (by omega))
        rw [List.length_map, List.length_range] at this
        have h3 : min n p ≤ 3 := by omega
        have h5 := Nat.mul_le_mul_left (4 ^ q) h3
        rw [Nat.pow_succ]
        omega
theorem cast_sum : ∀ l : List Nat, ((l.sum : Nat) : Int) = (l.map fun x : Nat => (x : Int)).sum
  | [] => rfl
  | x :: l => by rw [List.sum_cons, List.map_cons, List.sum_cons, ← cast_sum l]; omega
theorem minI {prog : Program} {w : World} {A : Around} {E : Value → Shared → Prop} {s : Shared} {B : Addr → Option Obj} {r : Rest} {l : Led} {Q : Value → Shared → Prop} {a b : Int} {t u : Tok} (hh : A.handled = none) (S : St B r l s)
    (h : ∀ t s', St B r l s' → Q (.int (min a b) t) s') : wpAny (model prog w) A (call (.builtin "min") [.int a t, .int b u]) Q E s := by
  refine min_two_ints hh fun h' tk hk => ?_
  have S' : St B r l { s with heap := h', toks := tk } := S.ext ⟨rfl, hk⟩
  split
  · have := h u _ S'
    rw [show min a b = b by omega] at this
    exact this
  · have := h t _ S'
    rw [show min a b = a by omega] at this
    exact this
theorem partedN_eq (q n p : Nat) : partedN q n p = if n = 0 then 1 else if p = 0 ∨ q = 0 then 0 else ((List.range (min n p)).map fun i => partedN (q - 1) (n - (i + 1)) (i + 1)).sum := by
  cases q with
  | zero =>
    unfold partedN
    by_cases h : n = 0
    · rw [if_pos h, if_pos h]
    · rw [if_neg h, if_neg h, if_pos (Or.inr rfl)]
  | succ q =>
    conv => lhs; unfold partedN
    by_cases h : n = 0
    · rw [if_pos h, if_pos h]
    · rw [if_neg h, if_neg h]
      by_cases h2 : p = 0
      · rw [if_pos h2, if_pos (Or.inl h2)]
      · rw [if_neg h2, if_neg (by omega)]
        rfl
set_option maxHeartbeats 800000 in
theorem t_parted {prog : Program} {w : World} (q : Nat) : ∀ {A : Around} {E : Value → Shared → Prop} {s : Shared} {n p : Nat} {t1 t2 t3 : Tok} {Q : Value → Shared → Prop},
    Wd (Mine.hd.heap_39 w.params) s.heap.get? → Rm A (10 + q) → n ≤ 20 → p ≤ 3 → q ≤ 3 →
    (∀ t s', Ext s s' → Q (.int (partedN q n p) t) s') → wpAny (model prog w) A (call (.ref 664) [.int n t1, .int p t2, .int q t3]) Q E s := by
  induction q using Nat.strongRecOn with
  | _ q ih =>
  intro A E s n p t1 t2 t3 Q W R hn hp hq h
  have R : Rm A (9 + q + 1) := R.le (by omega)
  kd_addB
  intro env s₁ L e S R
  dsimp only at e S
  replace S : St _ _ [(L, FrO [("most", .int p t2)]), (L + 1 + 1, CellO (some (.int q t3))), (L + 1, CellO (some (.int n t1)))] s₁ := S
  repeat kxs_still
  by_cases h0 : n = 0
  · rw [if_pos (by simpa using h0)]
    repeat kxs_still
    have := h ‹Tok› _ (St.ext1 ‹St _ _ _ _› (LeB.refl _))
    rw [partedN_eq, if_pos h0] at this
    exact this
  rw [if_neg (by simpa using h0)]
  repeat kxs_still
  by_cases hp0 : p = 0
  · rw [if_pos (by simpa using hp0)]
    rw [if_pos rfl]
    repeat kxs_still
    have := h ‹Tok› _ (St.ext1 ‹St _ _ _ _› (LeB.refl _))
    rw [partedN_eq, if_neg h0, if_pos (Or.inl hp0)] at this
    exact this
  rw [if_neg (by simpa using hp0)]
  repeat kxs_still
  by_cases hq0 : q = 0
  · rw [if_pos (by simpa using hq0)]
    rw [if_pos rfl]
    repeat kxs_still
    have := h ‹Tok› _ (St.ext1 ‹St _ _ _ _› (LeB.refl _))
    rw [partedN_eq, if_neg h0, if_pos (Or.inr hq0)] at this
    exact this
  rw [if_neg (by simpa using hq0)]
  repeat kxs_still
  rw [if_neg (by decide)]
  repeat kxs_still
  kd_addW
  repeat kxs_still
  refine minI R.handled ‹St _ _ _ _› fun _ _ _ => ?_
  repeat kxs_still
  refine ⟨_, _, _, _, _, _, _, _, _, _, _, fun i ys _ => IntsAre ys (partsTo (q - 1) n i), ⟨rfl, iterRange _ 1 _, trivial, ?c1, R.handled, W.glo (St.over ‹St _ _ _ _›), fun S' hle => (W.le hle).glo S'.over, ‹St _ _ _ _›, .nil, ?c2, fun _ _ _ _ => trivial, ?c3⟩, ?c4⟩
  case c1 => exact small_le (by omega)
  case c2 => intro i ys B' h; rw [IntsAre.length h]; simp [partsTo]
  case c3 =>
    intro i v ys B' C cenv D s hi hv hJ hle e S
    have W' := W.le hle
    dsimp only [List.cons_append, List.nil_append] at S
    obtain ⟨t, rfl⟩ := hv
    have hi2 : i < min n p := by omega
    repeat kxs_still
    rw [if_pos rfl]
    repeat kxs_still
    rw [show (n : Int) - (1 + (i : Int)) = ((n - (i + 1) : Nat) : Int) by omega, show (1 : Int) + (i : Int) = ((i + 1 : Nat) : Int) by omega, show (q : Int) - 1 = ((q - 1 : Nat) : Int) by omega]
    refine ih (q - 1) (by omega) (W'.at ‹St _ _ _ _›) (R.le (by omega)) (by omega) (by omega) (by omega) fun t s' x => ?_
    have S := St.ext ‹St _ _ _ _› x
    refine ⟨B', _, LeB.refl _, ?_, S⟩
    rw [partsTo_succ]
    exact hJ.append (IntsAre.one _ _)
  case c4 =>
    intro ys B' D s' hJ hle S
    have W' := W.le hle
    repeat kxs_still
    have hmin : (min (n : Int) p + 1 - 1).toNat = min n p := by omega
    rw [hmin] at hJ
    refine sumL R.handled ‹St _ _ _ _› (Has.mem (by kcj_m)) hJ ?_ ?_ fun t s' S' => ?_
    · simp [partsTo]; omega
    · intro x hx
      obtain ⟨k, hk, rfl⟩ := List.mem_map.mp hx
      have := List.mem_range.mp hk
      have b1 := partedN_le (q - 1) (n - (k + 1)) (k + 1) (by omega)
      have b2 : 4 ^ (q - 1) ≤ 4 ^ 3 := Nat.pow_le_pow_right (by decide) (by omega)
      omega
    · have := h t s' (S'.ext1 hle)
      rw [partedN_eq, if_neg h0, if_neg (by omega), cast_sum, List.map_map] at this
      exact this
-- G1
set_option maxRecDepth 10000

section
variable {prog : Program} {w : World} {A : Around} {c : Code} {fs : List Frame} {s : Shared} {P : End → Shared → Prop} {env : Env} {K : Flow → Sem Fin} {H : Value → Sem Fin} {gd : Bool → Bool} {lv : List Value → List Value}

theorem x_wrap {α : Type} {m : Sem α} {K : α → Sem Fin} {H : Value → Sem Fin} {gd lv}
    (h : wpAny (model prog w) (A.over c fs) m (fun a s' => SegX (model prog w) A c (K a) fs s' P) (fun x s' => SegX (model prog w) A c (H x) fs s' P) s) :
    SegX (model prog w) A c (m.wrap K H gd lv) fs s P := by
  rintro Γ p rfl hΓ
  obtain ⟨e, s', hr, hq⟩ := runs_wrap_of_wp (Φ := fun e s' => e.quiet = true ∧ P e s') K H gd lv m (h (Γ.over fs) p (hΓ.over fs)) (fun a p' s' h' => h' Γ p' rfl hΓ) (fun x p' s' h' => h' Γ p' rfl hΓ)
  exact ⟨e, s', hr, hq⟩
theorem x_at {p' : Pos} {k : Unit → Sem Fin} (h : SegX (model prog w) A c (k ()) fs s P) : SegX (model prog w) A c (.at p' k) fs s P :=
  x_wrap (m := standAt p') (K := k) (H := .raise) (gd := id) (lv := id) (wpAny_standAt h)
theorem x_point {l : List Value} {k : Unit → Sem Fin} (h : SegX (model prog w) A c (k ()) fs s P) : SegX (model prog w) A c (.point l k) fs s P :=
  x_wrap (m := point) (K := k) (H := .raise) (gd := id) (lv := fun _ => l) (wpAny_point h)
theorem x_nil (h : SegX (model prog w) A c (K .next) fs s P) : SegX (model prog w) A c ((execs [] env).wrap K H gd lv) fs s P := h
theorem x_cons {st : Stmt} {rest : List Stmt}
    (h : SegX (model prog w) A c ((exec st env).wrap (fun f => match f with | .next => (execs rest env).wrap K H gd lv | f => K f) H gd lv) fs s P) :
    SegX (model prog w) A c ((execs (st :: rest) env).wrap K H gd lv) fs s P := by rw [execs_cons_wrap]; exact h
/-- a statement without a yield -/
theorem x_stmt {st : Stmt} (h : wpAny (model prog w) (A.over c fs) (exec st env) (fun f s' => SegX (model prog w) A c (K f) fs s' P) Never s) : SegX (model prog w) A c ((exec st env).wrap K H gd lv) fs s P :=
  x_wrap (wpAny_mono h (fun _ _ h => h) fun _ _ q => q.elim)
theorem x_Yield {e : PySem.Expr} {ypos pos : Pos} (hfs : splitAtGen fs = none) (hgd : gd false = false) (hfg : fs.any Frame.guarded = false) (hco : env.scope.isCoroutine = false) (hi : interactive env = false)
    (h : wpAny (model prog w) (A.over c fs) (eval e env) (fun v s' => ∀ l k p, (k (.send .none) = K .next) → P (.susp v false l k c p fs) s') Never s) :
    SegX (model prog w) A c ((exec (.Expr (.Yield (some e) ypos) pos) env).wrap K H gd lv) fs s P := by
  rw [exec_Expr env _ pos hi rfl]
  show SegX (model prog w) A c (.at pos fun _ => ((eval e env >>= fun v => (standAt ypos >>= fun _ => yieldOut env v)) >>= fun x =>
    dropValue (.Yield (some e) ypos) pos x).wrap K H gd lv) fs s P
  have hy : ∀ v, yieldOut env v = yieldValue v := fun v => by simp only [yieldOut, hco, Bool.false_eq_true, if_false]
  simp only [hy]
  refine x_at ?_
  rw [Sem.bind_eq_wrap', Sem.bind_eq_wrap', Sem.wrap_wrap, Sem.wrap_wrap]
  refine x_wrap (wpAny_mono h (fun v s' h' => ?_) fun _ _ q => q.elim)
  refine x_at ?_
  have : gd (id (id false)) = false := hgd
  show SegX (model prog w) A c (.yield v (gd (id (id false))) _ _) fs s' P
  rw [this]
  exact s_yield prog w A c fs P s' v _ _ hfs hfg fun p => h' _ _ p rfl
theorem x_While {test : PySem.Expr} {body orelse : List Stmt} {pos : Pos}
    (h : ∀ p, SegX (model prog w) A (.whileLoop test body orelse env) (denote table (.whileLoop test body orelse env))
      (.ret (fun r => ((match r with | .ok f => (.pure f : Sem Flow) | .error e => .raise e).onRaise fun (x : Value) => do
        if (← field x 1) == Value.none then unsupported "frame.own-activation:exception-without-traceback"
        setFlight x env.frame).wrap K H gd lv) none (gd false) (lv []) c p [] :: fs) s P) :
    SegX (model prog w) A c ((exec (.While test body orelse pos) env).wrap K H gd lv) fs s P :=
  x_at (s_call prog w A c fs P s _ _ _ _ _ h)
theorem x_whileLoop {test : PySem.Expr} {body : List Stmt}
    (h : wpAny (model prog w) (A.over (.whileLoop test body [] env) fs) (isTrue test env (eval test env)) (fun b s' =>
        if b = true then
          SegX (model prog w) A (.whileLoop test body [] env) ((execs body env).wrap (fun f => match f with
            | .next | .cont => .pure (.again (.whileLoop test body [] env))
            | .brk => .pure (.done .next)
            | .ret v => .pure (.done (.ret v))) (fun e => (do noteFrame e env; theTreesLotGoes e : Sem Unit).wrap (fun _ => .raise e) .raise id id) id id) fs s' P
        else SegX (model prog w) A (.whileLoop test body [] env) (.pure (.done .next)) fs s' P) Never s) :
    SegX (model prog w) A (.whileLoop test body [] env) (denote table (.whileLoop test body [] env)) fs s P := by
  show SegX _ A _ ((whileTurn test body [] env).onRaise (fun x => do noteFrame x env; theTreesLotGoes x)) fs s P
  unfold whileTurn
  rw [Sem.onRaise_eq_wrap, Sem.bind_eq_wrap', Sem.wrap_wrap]
  refine x_wrap (wpAny_mono h (fun b s' hb => ?_) fun x s' hx => hx.elim)
  cases b with
  | true =>
    rw [if_pos rfl] at hb
    show SegX _ A _ (Sem.wrap _ _ _ _ (if true = true then _ else _)) fs s' P
    rw [if_pos rfl, Sem.bind_eq_wrap', Sem.wrap_wrap]
    rw [Sem.wrap_congr (execs body env) _ _ (K' := fun f => match f with
          | .next | .cont => .pure (.again (.whileLoop test body [] env))
          | .brk => .pure (.done .next)
          | .ret v => .pure (.done (.ret v))) (H' := (fun e => (do noteFrame e env; theTreesLotGoes e : Sem Unit).wrap (fun _ => .raise e) .raise id id))
      (fun f => by cases f <;> rfl)
      (fun e => by first | exact Sem.bind_eq_wrap _ _ | (show (do noteFrame e env; theTreesLotGoes e : Sem Unit).bind (fun _ => .raise e) = _; rw [Sem.bind_eq_wrap]))]
    exact hb
  | false =>
    rw [if_neg Bool.false_ne_true] at hb
    show SegX _ A _ (Sem.wrap _ _ _ _ (if false = true then _ else _)) fs s' P
    rw [if_neg Bool.false_ne_true]
    exact hb
theorem x_func {body : List Stmt}
    (h : SegX (model prog w) A (.func body env) ((execs body env).wrap (fun f => .pure (.done (.ret (match f with | .ret v => v | _ => .none))))
      (fun e => (leaving env e).wrap (fun _ => .raise e) .raise id id) id id) fs s P) :
    SegX (model prog w) A (.func body env) (denote table (.func body env)) fs s P := by
  show SegX _ A _ (.point [] fun _ => ((execs body env).onRaise (leaving env)) >>= _) fs s P
  refine x_point ?_
  rw [Sem.onRaise_eq_wrap, Sem.bind_eq_wrap', Sem.wrap_wrap]
  rw [Sem.wrap_congr (execs body env) _ _ (K' := fun f => .pure (.done (.ret (match f with | .ret v => v | _ => .none))))
    (H' := fun e => (leaving env e).wrap (fun _ => .raise e) .raise id id) (fun f => by cases f <;> rfl)
    (fun e => by rw [Sem.bind_eq_wrap, Sem.wrap_wrap]; rfl)]
  exact h
theorem x_If {test : PySem.Expr} {body orelse : List Stmt} {pos : Pos}
    (h : wpAny (model prog w) (A.over c fs) (isTrue test env (eval test env)) (fun b s' => if b = true then SegX (model prog w) A c ((execs body env).wrap K H gd lv) fs s' P else SegX (model prog w) A c ((execs orelse env).wrap K H gd lv) fs s' P) Never s) :
    SegX (model prog w) A c ((exec (.If test body orelse pos) env).wrap K H gd lv) fs s P := by
  rw [exec_If]
  show SegX (model prog w) A c (.at pos fun _ => (isTrue test env (eval test env) >>= fun b => if b = true then execs body env else execs orelse env).wrap K H gd lv) fs s P
  refine x_at ?_
  rw [Sem.bind_eq_wrap', Sem.wrap_wrap]
  refine x_wrap (wpAny_mono h (fun b s' hb => ?_) fun _ _ q => q.elim)
  cases b with
  | true => rw [if_pos rfl] at hb ⊢; exact hb
  | false => rw [if_neg (by decide)] at hb ⊢; exact hb
theorem x_For {target iter : PySem.Expr} {body : List Stmt} {pos : Pos} (hs : ∀ x, foldedSetIterable iter env x = pure x)
    (h : wpAny (model prog w) (A.over c fs) (eval iter env) (fun x s₁ => wpAny (model prog w) (A.over c fs) (pyIter x) (fun it s₂ => ∀ p, SegX (model prog w) A (.forLoop target it body [] env) (denote table (.forLoop target it body [] env))
      (.ret (fun r => ((match r with | .ok f => (.pure f : Sem Flow) | .error e => .raise e).onRaise fun (x : Value) => do
        if (← field x 1) == Value.none then unsupported "frame.own-activation:exception-without-traceback"
        setFlight x env.frame).wrap K H gd lv) none (gd false) (lv []) c p [] :: fs) s₂ P) Never s₁) Never s) :
    SegX (model prog w) A c ((exec (.For target iter body [] pos) env).wrap K H gd lv) fs s P := by
  rw [exec_For]
  show SegX (model prog w) A c (.at pos fun _ => (eval iter env >>= fun v => foldedSetIterable iter env v >>= fun x => standAt iter.pos >>= fun _ => holding [x] (pyIter x) >>= fun it => runOwn (.forLoop target it body [] env) env).wrap K H gd lv) fs s P
  refine x_at ?_
  rw [Sem.bind_eq_wrap', Sem.wrap_wrap]
  refine x_wrap (wpAny_mono h (fun x s₁ h₁ => ?_) fun _ _ q => q.elim)
  rw [hs x]
  show SegX (model prog w) A c (.at iter.pos fun _ => (holding [x] (pyIter x) >>= fun it => runOwn (.forLoop target it body [] env) env).wrap _ _ _ _) fs s₁ P
  refine x_at ?_
  rw [Sem.bind_eq_wrap', Sem.wrap_wrap]
  refine x_wrap (wpAny_holding (wpAny_mono h₁ (fun it s₂ h₂ => ?_) fun _ _ q => q.elim))
  exact s_call prog w A c fs P s₂ _ _ _ _ _ h₂
theorem x_forLoop {target : PySem.Expr} {it : Value} {body : List Stmt}
    (h : wpAny (model prog w) (A.over (.forLoop target it body [] env) fs) (pyNext it) (fun r s₁ => match r with
      | none => SegX (model prog w) A (.block [] env) (denote table (.block [] env)) fs s₁ P
      | some v => wpAny (model prog w) (A.over (.forLoop target it body [] env) fs) (letOwnedTupleGo target it v) (fun _ s₂ => wpAny (model prog w) (A.over (.forLoop target it body [] env) fs) (assign target env v) (fun _ s₃ =>
          SegX (model prog w) A (.forLoop target it body [] env) ((execs body env).wrap (fun f => match f with
            | .next | .cont => .pure (.again (.forLoop target it body [] env))
            | .brk => .pure (.done .next)
            | .ret v => .pure (.done (.ret v))) (fun e => (do noteFrame e env; theTreesLotGoes e : Sem Unit).wrap (fun _ => .raise e) .raise id id) id id) fs s₃ P) Never s₂) Never s₁) Never s) :
    SegX (model prog w) A (.forLoop target it body [] env) (denote table (.forLoop target it body [] env)) fs s P := by
  show SegX _ A _ ((forTurn target it body [] env).onRaise (fun x => do noteFrame x env; theTreesLotGoes x)) fs s P
  unfold forTurn
  rw [Sem.onRaise_eq_wrap]
  show SegX _ A _ (.at target.pos fun _ => (((pyNext it).onRaise (fun _ => standAt { target.pos with line := 0 })) >>= _).wrap _ _ _ _) fs s P
  refine x_at ?_
  rw [Sem.bind_eq_wrap', Sem.wrap_wrap]
  refine x_wrap (wpAny_onRaise (wpAny_mono h (fun r s₁ h₁ => ?_) fun _ _ q => q.elim))
  cases r with
  | none => exact s_again prog w A _ fs P s₁ _ rfl h₁
  | some v =>
    show SegX _ A _ ((letOwnedTupleGo target it v >>= fun _ => assign target env v >>= fun _ => execs body env >>= _).wrap _ _ _ _) fs s₁ P
    rw [Sem.bind_eq_wrap', Sem.wrap_wrap]
    refine x_wrap (wpAny_mono h₁ (fun _ s₂ h₂ => ?_) fun _ _ q => q.elim)
    rw [Sem.bind_eq_wrap', Sem.wrap_wrap]
    refine x_wrap (wpAny_mono h₂ (fun _ s₃ h₃ => ?_) fun _ _ q => q.elim)
    rw [Sem.bind_eq_wrap', Sem.wrap_wrap]
    rw [Sem.wrap_congr (execs body env) _ _ (K' := fun f => match f with
          | .next | .cont => .pure (.again (.forLoop target it body [] env))
          | .brk => .pure (.done .next)
          | .ret v => .pure (.done (.ret v))) (H' := (fun e => (do noteFrame e env; theTreesLotGoes e : Sem Unit).wrap (fun _ => .raise e) .raise id id))
      (fun f => by cases f <;> rfl)
      (fun e => by first | exact Sem.bind_eq_wrap _ _ | (show (do noteFrame e env; theTreesLotGoes e : Sem Unit).bind (fun _ => .raise e) = _; rw [Sem.bind_eq_wrap]))]
    exact h₃
end
-- G2
set_option maxRecDepth 10000

theorem wFor (t : PySem.Expr) (it : Value) (b o : List Stmt) (e : Env) : (Code.forLoop t it b o e).weight ≤ 1 ∧ (Code.forLoop t it b o e).cUnits ≤ 3 := ⟨Nat.le_of_ble_eq_true rfl, Nat.le_of_ble_eq_true rfl⟩
theorem wWhile (t : PySem.Expr) (b o : List Stmt) (e : Env) : (Code.whileLoop t b o e).weight ≤ 1 ∧ (Code.whileLoop t b o e).cUnits ≤ 3 := ⟨Nat.le_of_ble_eq_true rfl, Nat.le_of_ble_eq_true rfl⟩
theorem wFunc (b : List Stmt) (e : Env) : (Code.func b e).weight ≤ 1 ∧ (Code.func b e).cUnits ≤ 3 := ⟨Nat.le_of_ble_eq_true rfl, Nat.le_of_ble_eq_true rfl⟩
structure FsOk (fs : List Frame) (d : Nat) : Prop where
  marks : marksOver fs (none, none) = (none, none)
  depth : frameCount (fs.map Frame.where_) ≤ d
  units : unitsOf (fs.map Frame.where_) ≤ 3 * d
  split : splitAtGen fs = none
  guard : fs.any Frame.guarded = false
theorem FsOk.nil : FsOk [] 0 := ⟨rfl, Nat.le_refl _, Nat.le_refl _, rfl, rfl⟩
theorem FsOk.cons {fs : List Frame} {d : Nat} (h : FsOk fs d) {k : Result → Sem Fin} {l : List Value} {c : Code} {p : Pos} (hw : c.weight ≤ 1) (hu : c.cUnits ≤ 3) : FsOk (.ret k none false l c p [] :: fs) (d + 1) := by
  refine ⟨?_, ?_, ?_, ?_, ?_⟩
  · unfold marksOver
    rw [List.foldr_cons]
    have := h.marks
    unfold marksOver at this
    rw [this]
    rfl
  · show frameCount ((c, p) :: fs.map Frame.where_) ≤ _
    rw [frameCount_cons]
    have := h.depth
    omega
  · show unitsOf ((c, p) :: fs.map Frame.where_) ≤ _
    rw [unitsOf_cons]
    have := h.units
    omega
  · show (splitAtGen fs).map _ = none
    rw [h.split]; rfl
  · show (false || fs.any Frame.guarded) = false
    rw [h.guard]; rfl
theorem Rm.over {A : Around} {n d : Nat} {c : Code} {fs : List Frame} (R : Rm A (n + d + 1)) (h : FsOk fs d) (hw : c.weight ≤ 1) (hu : c.cUnits ≤ 3) : Rm (A.over c fs) n := by
  refine ⟨?_, ?_, ?_⟩
  · show (marksOver fs (A.handled, A.handled)).1 = none
    rw [R.handled, h.marks]
  · show A.depth + frameCount (fs.map Frame.where_) + c.weight + n < 900
    have := R.depth; have := h.depth
    omega
  · show A.units + unitsOf (fs.map Frame.where_) + c.cUnits + 10 * n < 9000
    have := R.units; have := h.units
    omega

abbrev Edge := W × W
def Spec (prog : Program) (w : World) : List Edge → Code → Sem Fin → List Frame → Led → (Addr → Option Obj) → Prop
  | [] => fun c t fs lg Bg => ∀ (A : Around) (P : End → Shared → Prop) (s : Shared) (B : Addr → Option Obj) (r : Rest) (lc : Led), Rm A 60 → LeB Bg B → St B r (lg ++ lc) s →
      (∀ B' s', LeB B B' → St B' r lc s' → P (.ret (.ok (.ret .none))) s') → SegX (model prog w) A c t fs s P
  | e :: es => fun c t fs lg Bg => ∀ (A : Around) (P : End → Shared → Prop) (s : Shared) (B : Addr → Option Obj) (r : Rest) (lc : Led), Rm A 60 → LeB Bg B → St B r (lg ++ lc) s →
      (∀ B' T t1 t2 lg' s' l k c' p' fs', LeB B B' → Spec prog w es c' (k (.send .none)) fs' lg' B' → St B' r ((T, TupO [.str (toS e.1) t1, .str (toS e.2) t2]) :: (lg' ++ lc)) s' → fs'.any Frame.guarded = false → P (.susp (.ref T) false l k c' p' fs') s') →
      SegX (model prog w) A c t fs s P
def PostE (prog : Program) (w : World) (es : List Edge) (B : Addr → Option Obj) (r : Rest) (lc : Led) (P : End → Shared → Prop) : Prop := match es with
  | [] => ∀ B' s', LeB B B' → St B' r lc s' → P (.ret (.ok (.ret .none))) s'
  | e :: es => ∀ B' T t1 t2 lg' s' l k c' p' fs', LeB B B' → Spec prog w es c' (k (.send .none)) fs' lg' B' → St B' r ((T, TupO [.str (toS e.1) t1, .str (toS e.2) t2]) :: (lg' ++ lc)) s' → fs'.any Frame.guarded = false → P (.susp (.ref T) false l k c' p' fs') s'
theorem Spec_iff {prog : Program} {w : World} {es : List Edge} {c : Code} {t : Sem Fin} {fs : List Frame} {lg : Led} {Bg : Addr → Option Obj} : Spec prog w es c t fs lg Bg ↔
    ∀ (A : Around) (P : End → Shared → Prop) (s : Shared) (B : Addr → Option Obj) (r : Rest) (lc : Led), Rm A 60 → LeB Bg B → St B r (lg ++ lc) s → PostE prog w es B r lc P → SegX (model prog w) A c t fs s P := by
  cases es <;> rfl
theorem PostE.le {prog : Program} {w : World} {es : List Edge} {B B' : Addr → Option Obj} {r : Rest} {lc : Led} {P : End → Shared → Prop} (h : PostE prog w es B r lc P) (x : LeB B B') : PostE prog w es B' r lc P := by
  cases es with
  | nil => exact fun B'' s' y => h B'' s' (x.trans y)
  | cons e es => exact fun B'' T t1 t2 lg' s' l k c' p' fs' y => h B'' T t1 t2 lg' s' l k c' p' fs' (x.trans y)

section
variable {prog : Program} {w : World} {env : Env}

theorem x_stmtR {A : Around} {c : Code} {fs : List Frame} {s : Shared} {P : End → Shared → Prop} {K : Flow → Sem Fin} {H : Value → Sem Fin} {gd : Bool → Bool} {lv : List Value → List Value} {d : Nat} {st : Stmt} (R : Rm A 60) (hfs : FsOk fs d) (hd : d ≤ 20) (hw : c.weight ≤ 1 ∧ c.cUnits ≤ 3)
    (h : Rm (A.over c fs) 30 → wpAny (model prog w) (A.over c fs) (exec st env) (fun f s' => SegX (model prog w) A c (K f) fs s' P) Never s) : SegX (model prog w) A c ((exec st env).wrap K H gd lv) fs s P := x_stmt (h (Rm.over (R.le (by omega)) hfs hw.1 hw.2))
theorem x_IfR {A : Around} {c : Code} {fs : List Frame} {s : Shared} {P : End → Shared → Prop} {K : Flow → Sem Fin} {H : Value → Sem Fin} {gd : Bool → Bool} {lv : List Value → List Value} {d : Nat} {test : PySem.Expr} {body orelse : List Stmt} {pos : Pos} (R : Rm A 60) (hfs : FsOk fs d) (hd : d ≤ 20) (hw : c.weight ≤ 1 ∧ c.cUnits ≤ 3)
    (h : Rm (A.over c fs) 30 → wpAny (model prog w) (A.over c fs) (isTrue test env (eval test env)) (fun b s' => if b = true then SegX (model prog w) A c ((execs body env).wrap K H gd lv) fs s' P else SegX (model prog w) A c ((execs orelse env).wrap K H gd lv) fs s' P) Never s) :
    SegX (model prog w) A c ((exec (.If test body orelse pos) env).wrap K H gd lv) fs s P := x_If (h (Rm.over (R.le (by omega)) hfs hw.1 hw.2))
theorem x_ForR {A : Around} {c : Code} {fs : List Frame} {s : Shared} {P : End → Shared → Prop} {K : Flow → Sem Fin} {H : Value → Sem Fin} {gd : Bool → Bool} {lv : List Value → List Value} {d : Nat} {target iter : PySem.Expr} {body : List Stmt} {pos : Pos} (R : Rm A 60) (hfs : FsOk fs d) (hd : d ≤ 20) (hw : c.weight ≤ 1 ∧ c.cUnits ≤ 3) (hgd : gd false = false) (hs : ∀ x, foldedSetIterable iter env x = pure x)
    (h : Rm (A.over c fs) 30 → wpAny (model prog w) (A.over c fs) (eval iter env) (fun x s₁ => wpAny (model prog w) (A.over c fs) (pyIter x) (fun it s₂ => ∀ p, FsOk (.ret (fun r => ((match r with | .ok f => (.pure f : Sem Flow) | .error e => .raise e).onRaise fun (x : Value) => do
        if (← field x 1) == Value.none then unsupported "frame.own-activation:exception-without-traceback"
        setFlight x env.frame).wrap K H gd lv) none (gd false) (lv []) c p [] :: fs) (d + 1) → SegX (model prog w) A (.forLoop target it body [] env) (denote table (.forLoop target it body [] env))
      (.ret (fun r => ((match r with | .ok f => (.pure f : Sem Flow) | .error e => .raise e).onRaise fun (x : Value) => do
        if (← field x 1) == Value.none then unsupported "frame.own-activation:exception-without-traceback"
        setFlight x env.frame).wrap K H gd lv) none (gd false) (lv []) c p [] :: fs) s₂ P) Never s₁) Never s) :
    SegX (model prog w) A c ((exec (.For target iter body [] pos) env).wrap K H gd lv) fs s P :=
  x_For hs (wpAny_mono (h (Rm.over (R.le (by omega)) hfs hw.1 hw.2)) (fun x s₁ h₁ => wpAny_mono h₁ (fun it s₂ h₂ p => h₂ p (by rw [hgd]; exact hfs.cons hw.1 hw.2)) fun _ _ q => q.elim) fun _ _ q => q.elim)
theorem x_WhileR {A : Around} {c : Code} {fs : List Frame} {s : Shared} {P : End → Shared → Prop} {K : Flow → Sem Fin} {H : Value → Sem Fin} {gd : Bool → Bool} {lv : List Value → List Value} {d : Nat} {test : PySem.Expr} {body orelse : List Stmt} {pos : Pos} (hfs : FsOk fs d) (hw : c.weight ≤ 1 ∧ c.cUnits ≤ 3) (hgd : gd false = false)
    (h : ∀ p, FsOk (.ret (fun r => ((match r with | .ok f => (.pure f : Sem Flow) | .error e => .raise e).onRaise fun (x : Value) => do
        if (← field x 1) == Value.none then unsupported "frame.own-activation:exception-without-traceback"
        setFlight x env.frame).wrap K H gd lv) none (gd false) (lv []) c p [] :: fs) (d + 1) → SegX (model prog w) A (.whileLoop test body orelse env) (denote table (.whileLoop test body orelse env))
      (.ret (fun r => ((match r with | .ok f => (.pure f : Sem Flow) | .error e => .raise e).onRaise fun (x : Value) => do
        if (← field x 1) == Value.none then unsupported "frame.own-activation:exception-without-traceback"
        setFlight x env.frame).wrap K H gd lv) none (gd false) (lv []) c p [] :: fs) s P) :
    SegX (model prog w) A c ((exec (.While test body orelse pos) env).wrap K H gd lv) fs s P :=
  x_While fun p => h p (by rw [hgd]; exact hfs.cons hw.1 hw.2)
theorem x_block {A : Around} {fs : List Frame} {s : Shared} {P : End → Shared → Prop} (h : SegX (model prog w) A (.block [] env) (.pure (.done .next)) fs s P) : SegX (model prog w) A (.block [] env) (denote table (.block [] env)) fs s P := h
theorem x_leave {A : Around} {c c1 : Code} {fs : List Frame} {s : Shared} {P : End → Shared → Prop} {f : Flow} {K : Flow → Sem Fin} {H : Value → Sem Fin} {gd : Bool → Bool} {lv : List Value → List Value} {hd : Option Value} {g : Bool} {l kp : List Value} {p : Pos}
    (h : SegX (model prog w) A c1 (K f) fs s P) :
    SegX (model prog w) A c (.pure (.done f)) (.ret (fun r => ((match r with | .ok f => (.pure f : Sem Flow) | .error e => .raise e).onRaise fun (x : Value) => do
        if (← field x 1) == Value.none then unsupported "frame.own-activation:exception-without-traceback"
        setFlight x env.frame).wrap K H gd lv) hd g l c1 p kp :: fs) s P :=
  s_pop prog w A c fs P s (.ok f) _ rfl _ hd g l c1 p kp h

theorem forSpec {target : PySem.Expr} {body : List Stmt} {I : Addr} {n : Nat} {item : Nat → Value → Prop} {F : Nat → Led} {M G : Nat → Value → Led} {tgt : PySem.Expr → Prop} {need : (Addr → Option Obj) → Led → Prop} {fs : List Frame} {d : Nat}
    (H : Iter prog w I n item F M G tgt need) (htgt : tgt target) (hfs : FsOk fs d) (hd : d ≤ 20) {X : Type} (es : Nat → X → List Edge) (lg : Nat → X → Led) (Inv : Nat → X → (Addr → Option Obj) → Prop)
    (hglo : ∀ i x B r l s, Inv i x B → St B r l s → mainGlobals < s.heap.objs.size)
    (hneed : ∀ i x B lc, Inv i x B → need B (lg i x ++ lc))
    (hbody : ∀ i x v A P s B r lc, i < n → item i v → Inv i x B → Rm A 60 → St B r (G i v ++ (lg i x ++ lc)) s → PostE prog w (es i x) B r lc P →
      (∀ x' A P s B' r lc, LeB B B' → Inv (i + 1) x' B' → Rm A 60 → St B' r (F (i + 1) ++ (lg (i + 1) x' ++ lc)) s → PostE prog w (es (i + 1) x') B' r lc P → SegX (model prog w) A (.forLoop target (.ref I) body [] env) (.pure (.again (.forLoop target (.ref I) body [] env))) fs s P) →
      Rm (A.over (.forLoop target (.ref I) body [] env) fs) 30 → wpAny (model prog w) (A.over (.forLoop target (.ref I) body [] env) fs) (assign target env v) (fun _ s => SegX (model prog w) A (.forLoop target (.ref I) body [] env) ((execs body env).wrap (fun f => match f with
            | .next | .cont => .pure (.again (.forLoop target (.ref I) body [] env))
            | .brk => .pure (.done .next)
            | .ret v => .pure (.done (.ret v))) (fun e => (do noteFrame e env; theTreesLotGoes e : Sem Unit).wrap (fun _ => .raise e) .raise id id) id id) fs s P) Never s)
    (hdone : ∀ x A P s B r lc, Inv n x B → Rm A 60 → St B r (lg n x ++ lc) s → PostE prog w (es n x) B r lc P → SegX (model prog w) A (.block [] env) (.pure (.done .next)) fs s P) :
    ∀ x A P s B r lc, Inv 0 x B → Rm A 60 → St B r (F 0 ++ (lg 0 x ++ lc)) s → PostE prog w (es 0 x) B r lc P → SegX (model prog w) A (.forLoop target (.ref I) body [] env) (denote table (.forLoop target (.ref I) body [] env)) fs s P := by
  have main : ∀ (k i : Nat), k = n - i → i ≤ n → ∀ x A P s B r lc, Inv i x B → Rm A 60 → St B r (F i ++ (lg i x ++ lc)) s → PostE prog w (es i x) B r lc P → SegX (model prog w) A (.forLoop target (.ref I) body [] env) (denote table (.forLoop target (.ref I) body [] env)) fs s P := by
    intro k
    induction k with
    | zero =>
      intro i hk hi x A P s B r lc hI R S hp
      have : i = n := by omega
      subst this
      refine x_forLoop ?_
      have R' : Rm (A.over (.forLoop target (.ref I) body [] env) fs) 10 := Rm.over (R.le (by omega)) hfs (wFor _ _ _ _ _).1 (wFor _ _ _ _ _).2
      exact H.done R'.handled S (hneed _ _ _ _ hI) fun s' S' => x_block (hdone x A P s' B r lc hI R S' hp)
    | succ k ih =>
      intro i hk hi x A P s B r lc hI R S hp
      refine x_forLoop ?_
      have R' : Rm (A.over (.forLoop target (.ref I) body [] env) fs) 10 := Rm.over (R.le (by omega)) hfs (wFor _ _ _ _ _).1 (wFor _ _ _ _ _).2
      refine H.next R'.handled (by omega) S (hglo _ _ _ _ _ _ hI S) (hneed _ _ _ _ hI) fun v s' hv S' => ?_
      refine H.own htgt hv S' fun s' S' => ?_
      refine hbody i x v A P s' B r lc (by omega) hv hI R S' hp (fun x' A P s B' r lc hle hI' R S hp => ?_) (Rm.over (R.le (by omega)) hfs (wFor _ _ _ _ _).1 (wFor _ _ _ _ _).2)
      exact s_again prog w A _ fs P s _ rfl (ih (i + 1) (by omega) (by omega) x' A P s B' r lc hI' R S hp)
  exact main n 0 (by omega) (Nat.zero_le _)

theorem whileSpec {test : PySem.Expr} {body : List Stmt} {fs : List Frame} {d : Nat} (hfs : FsOk fs d) (hd : d ≤ 20) {X : Type} (es : Nat → X → List Edge) (lg : Nat → X → Led) (Inv : Nat → X → (Addr → Option Obj) → Prop)
    (hturn : ∀ i x A P s B r lc, Inv i x B → Rm A 60 → St B r (lg i x ++ lc) s → PostE prog w (es i x) B r lc P →
      (∀ j x' A P s B' r lc, j < i → LeB B B' → Inv j x' B' → Rm A 60 → St B' r (lg j x' ++ lc) s → PostE prog w (es j x') B' r lc P → SegX (model prog w) A (.whileLoop test body [] env) (.pure (.again (.whileLoop test body [] env))) fs s P) →
      Rm (A.over (.whileLoop test body [] env) fs) 30 → wpAny (model prog w) (A.over (.whileLoop test body [] env) fs) (isTrue test env (eval test env)) (fun b s' =>
        if b = true then
          SegX (model prog w) A (.whileLoop test body [] env) ((execs body env).wrap (fun f => match f with
            | .next | .cont => .pure (.again (.whileLoop test body [] env))
            | .brk => .pure (.done .next)
            | .ret v => .pure (.done (.ret v))) (fun e => (do noteFrame e env; theTreesLotGoes e : Sem Unit).wrap (fun _ => .raise e) .raise id id) id id) fs s' P
        else SegX (model prog w) A (.whileLoop test body [] env) (.pure (.done .next)) fs s' P) Never s) :
    ∀ i x A P s B r lc, Inv i x B → Rm A 60 → St B r (lg i x ++ lc) s → PostE prog w (es i x) B r lc P → SegX (model prog w) A (.whileLoop test body [] env) (denote table (.whileLoop test body [] env)) fs s P := by
  intro i
  induction i using Nat.strongRecOn with
  | _ i ih =>
  intro x A P s B r lc hI R S hp
  refine x_whileLoop (hturn i x A P s B r lc hI R S hp (fun j x' A P s B' r lc hj hle hI' R S hp => ?_) (Rm.over (R.le (by omega)) hfs (wWhile _ _ _ _).1 (wWhile _ _ _ _).2))
  exact s_again prog w A _ fs P s _ rfl (ih j hj x' A P s B' r lc hI' R S hp)

/-- the consumer's step -/
theorem pyNextX {A : Around} {E : Value → Shared → Prop} {s : Shared} {a : Addr} {g : Nat} {gs : GenState} {Q : Option Value → Shared → Prop} {c₀ : Code} {t₀ : Sem Fin} {fs₀ : List Frame} (hh : A.handled = none)
    (hl : s.heap.NoLimit) (hroom : A.depth < recursionLimit) (hg : s.heap.IsGen a g) (hgs : s.gens[g]? = some gs)
    (hst : (gs = .fresh c₀ ∧ t₀ = denote table c₀ ∧ fs₀ = []) ∨ (∃ k₀ l₀ p₀ cl, gs = .suspended k₀ l₀ c₀ p₀ fs₀ cl ∧ t₀ = k₀ (.send .none)))
    (x : SegX (model prog w) A.in1 c₀ t₀ fs₀ (s.setGen g .running) (fun e s₁ => match e with
      | .ret r => r = .ok (.ret .none) ∧ ∀ h', (∀ b o, s₁.heap.get? b = some o → h'.get? b = some o) → Q none { s₁.setGen g .finished with heap := h' }
      | .susp v gd l k c p fs => Q (some v) (s₁.setGen g (.suspended k l c p fs (gd || fs.any Frame.guarded))))) :
    wpAny (model prog w) A (pyNext (.ref a)) Q E s := by
  unfold pyNext
  refine wpAny_bind (wpAny_attempt (wpAny_callSpecial?_slot (name := Str.ofString "__next__") hg.typeIs slot_gen_next
    (wpAny_call_entry slot_gen_next hg.typeIs entry_gen_next ?_ (args_gen_next _))))
  show wpAny _ _ (Builtin.Generator.genWake (.ref a) (.send .none)) _ _ s
  unfold Builtin.Generator.genWake
  refine wpAny_bind (wpAny_holding (wpAny_genNumber hg (wpAny_bind (wpAny_genState hgs ?_))))
  have key : ∀ {k : GenResult → Sem Fin} {Q' : Fin → Shared → Prop} {E' : Value → Shared → Prop},
      SegX (model prog w) A.in1 c₀ t₀ fs₀ (s.setGen g .running) (fun e s₁ => wpAny (model prog w) A.in1 (k e.result) Q' E' (s₁.setGen g e.genState)) → wpAny (model prog w) A.in1 (.resume g (.send .none) [] k) Q' E' s := by
    intro k Q' E' hx
    have := wake_any (α := Fin) (prog := prog) (w := w) (A := A.in1) (Q := Q') (E := E') (s := s) (g := g) (gs := gs) (r := .send .none) (l := []) (k := k) (c₀ := c₀) (t₀ := t₀) (fs₀ := fs₀) hgs
      (hst.imp (fun ⟨a, b, c⟩ => ⟨a, rfl, b, c⟩) fun ⟨k₀, l₀, p₀, cl, a, b⟩ => ⟨k₀, l₀, p₀, cl, a, b⟩) (fun Γ => Γ.In A.in1) (fun _ h => h) (hx.mono fun e s' h Γ p hΓ => h Γ p hΓ)
    exact this
  rcases hst with ⟨rfl, rfl, rfl⟩ | ⟨k₀, l₀, p₀, cl, rfl, rfl⟩
  all_goals
    refine wpAny_bind (wpAny_roomToWake hl hroom ?_)
    show wpAny _ _ (.resume g (.send .none) [] _) _ _ s
    refine key (x.mono fun e s₁ he => ?_)
    cases e with
    | ret r =>
      obtain ⟨rfl, hp⟩ := he
      show wpAny _ _ (newExc (.type "StopIteration") [] >>= _) _ _ _
      refine wpAny_bind ?_
      simp only [newExc, newTuple]
      refine wpAny_bind (wpAny_newObj_type ?_ (by size_fits))
      refine wpAny_bind (m := firstArgMember _ _) (wpAny_of_eq (a := Value.none) (by first | rfl | (simp only [firstArgMember]; rfl)) ?_)
      refine wpAny_newObj_type ?_ (by size_fits)
      simp only [raiseNew]
      refine wpAny_bind (wpAny_bind (wpAny_handled ?_))
      rw [show A.in1.handled = none from hh]
      refine wpAny_throw ?_
      refine wpAny_bind (wpAny_isInstance (T := "StopIteration") (b := true) ⟨_, Heap.get?_push_size _ rfl, rfl⟩ isSubtype_stop ?_)
      exact wpAny_pure (hp _ fun b o hb => Heap.get?_push_of_some _ (Heap.get?_push_of_some _ hb))
    | susp v gd l k c p fs => exact wpAny_pure ⟨v, rfl, wpAny_pure he⟩
end
-- G3
set_option maxRecDepth 10000
@[irreducible] def SetO (prog : Program) (w : World) (xs : List W) : Obj → Prop := fun o => o.SetObjOf (PySem.strKind prog w) (fun k => decide (k ∈ xs.map toS)) xs.length
section
variable {prog : Program} {w : World} {A : Around} {E : Value → Shared → Prop} {s : Shared} {B : Addr → Option Obj} {r : Rest} {l l' : Led} {K : Frag} {env : Env} {L : Addr} {sc : Scope} {cs : List (Str × Addr)} {Q : Value → Shared → Prop}

theorem SetO.setOf {h : Heap} {a : Addr} {o : Obj} {xs : List W} (ho : h.get? a = some o) (hf : SetO prog w xs o) (hb : xs.length < scanBound) : h.SetOf (PySem.strKind prog w) a (fun k => decide (k ∈ xs.map toS)) xs.length := by
  unfold SetO at hf
  exact hf.setOf ho hb
theorem mem_toS {x : W} {xs : List W} : toS x ∈ xs.map toS ↔ x ∈ xs := by
  rw [List.mem_map]
  exact ⟨fun ⟨y, hy, e⟩ => toS_inj e ▸ hy, fun h => ⟨x, h, rfl⟩⟩
theorem notInS {a : Addr} {xs : List W} {x : W} {t : Tok} (S : St B r l s) (hm : Has B l a (SetO prog w xs)) (hb : xs.length ≤ 1000) (h : ∀ s', St B r l s' → Q (.bool (decide (x ∉ xs))) s') :
    wpAny (model prog w) A (compareOp .NotIn (.str (toS x) t) (.ref a)) Q E s := by
  obtain ⟨o, ho, hf⟩ := hm.get S
  refine wpAny_notInSet_of (knd := PySem.strKind prog w) (k := toS x) (strKind_is prog w (toS x) t) rfl (SetO.setOf ho hf (by unfold scanBound; omega)) ?_
  have := h _ (S.tok (s.toks + 1))
  have e : (!decide (toS x ∈ xs.map toS)) = decide (x ∉ xs) := by
    by_cases hx : x ∈ xs
    · rw [decide_eq_true (mem_toS.mpr hx), decide_eq_false (by simpa using hx)]; rfl
    · rw [decide_eq_false (fun q => hx (mem_toS.mp q)), decide_eq_true (by simpa using hx)]; rfl
  rw [e]; exact this
theorem setO_add {h' : Heap} {a : Addr} {xs : List W} {x : W} (hx : x ∉ xs) (hS : h'.SetOf (PySem.strKind prog w) a (fun k' => decide (k' ∈ xs.map toS) || decide (k' = toS x)) (if decide (toS x ∈ xs.map toS) then xs.length else xs.length + 1)) :
    ∃ o, h'.get? a = some o ∧ SetO prog w (xs ++ [x]) o := by
  have h1 : decide (toS x ∈ xs.map toS) = false := decide_eq_false fun q => hx (mem_toS.mp q)
  rw [h1, if_neg (by decide)] at hS
  obtain ⟨o, ho, hso⟩ := hS.objOf
  refine ⟨o, ho, ?_⟩
  unfold SetO
  have e : (fun k' => decide (k' ∈ xs.map toS) || decide (k' = toS x)) = fun k => decide (k ∈ (xs ++ [x]).map toS) := by
    funext k
    rw [List.map_append]
    by_cases h2 : k ∈ xs.map toS <;> by_cases h3 : k = toS x <;> simp [h2, h3]
  rw [e] at hso
  rw [List.length_append]
  exact hso
theorem callAddS {a : Addr} {xs : List W} {x : W} {t : Tok} (S : St B r l s) (hp : Put a (SetO prog w xs) (SetO prog w (xs ++ [x])) l l') (hx : x ∉ xs) (hb : xs.length ≤ 1000) (h : ∀ s', St B r l' s' → Q .none s') :
    wpAny (model prog w) A (call (.builtin "set.add") [.ref a, .str (toS x) t]) Q E s := by
  obtain ⟨o, ho, hf⟩ := S.get hp.mem
  refine call_set_add (knd := PySem.strKind prog w) (k := toS x) (strKind_is prog w (toS x) t) rfl (SetO.setOf ho hf (by unfold scanBound; omega)) (by unfold scanBound; omega) fun h' hsb hS => ?_
  obtain ⟨o', ho', hf'⟩ := setO_add hx hS
  exact h _ (S.upd hp rfl (fun b ob hb e => (hsb.2 b hb).trans e) ho' hf')
theorem lenSet {a : Addr} {xs : List W} (S : St B r l s) (hm : Has B l a (SetO prog w xs)) (hb : xs.length ≤ 1000) (h : ∀ t s', St B r l s' → Q (.int xs.length t) s') :
    wpAny (model prog w) A (call (.builtin "len") [.ref a]) Q E s := by
  obtain ⟨o, ho, hf⟩ := hm.get S
  unfold SetO at hf
  obtain ⟨hex, es, ep, t, hd, hel, hmem, hn, hfit⟩ := hf
  refine call_len_set ho hex hd hfit (by omega) ?_
  rw [hn]
  exact h _ _ (S.tok _)
/-- {e} -/
theorem setDisp {e1 : PySem.Expr} {k : Nat} {pos : Pos} (W : Wd K B) (S : St B r l s) (hc : kdsCode K env.code = true) (hroad : (displayRoad k [e1] == .constants) = false) (hp : kdsPlain e1 = true)
    (h : ∀ D s', St B r ((D, SetO prog w []) :: l) s' → wpAny (model prog w) A (eval e1 env) (fun v s2 => ∃ x t, v = .str (toS x) t ∧ St B r ((D, SetO prog w []) :: l) s2 ∧ ∀ s3, St B r ((D, SetO prog w [x]) :: l) s3 → Q (.ref D) s3) E s') :
    wpAny (model prog w) A (eval (.Set [e1] k pos) env) Q E s := by
  rw [arm_eval_Set]
  refine wpAny_bind (wpAny_standAt ?_)
  refine wpAny_bind (kds_main (W.in S.over) hc fun b => ?_)
  have hs : starEach [e1] env = [(false, eval e1 env)] := by
    have := kds_star (env := env) [e1] (by simp [hp])
    rw [this]; rfl
  rw [hs]
  refine kds_core (ts := [do let v ← eval e1 env; standAt pos; pure v]) hroad rfl (by simp) rfl fun led => ?_
  have S1 : St B r ((s.heap.objs.size, SetO prog w []) :: l) { s with heap := s.heap.push { cls := .type "set", dict := none, data := .set #[] 0 (.fresh 0 0 led) } } := by
    refine S.push W rfl ?_ s.toks
    unfold SetO
    have := setObjOf_fresh (knd := PySem.strKind prog w) led
    simpa using this
  show wpAny (model prog w) A ((do let v ← eval e1 env; standAt pos; pure v) >>= fun v => holding [v] (evalAll []) >>= fun r => pure (v :: r)) _ E _
  refine wpAny_bind (wpAny_bind (wpAny_mono (h _ _ S1) (fun v s2 h2 => ?_) fun _ _ x => x))
  obtain ⟨x, t, rfl, S2, hQ⟩ := h2
  refine wpAny_bind (wpAny_standAt (wpAny_pure (wpAny_bind (wpAny_holding (wpAny_pure (wpAny_pure ?_))))))
  refine kds_fill_cons ?_
  unfold setAdd
  obtain ⟨o, ho, hf⟩ := S2.get (.head _)
  refine wpAny_holding (wpAny_bind ((PySem.strKind prog w).pyHash (strKind_is prog w (toS x) t) ?_))
  refine wpAny_setAddHashed_of (s := { s2 with toks := s2.toks + 1 }) (knd := PySem.strKind prog w) (k := toS x) (strKind_is prog w (toS x) t) rfl (SetO.setOf ho hf (by decide)) (by decide) fun h' hsb hS => ?_
  obtain ⟨o', ho', hf'⟩ := setO_add (xs := []) (x := x) (by simp) hS
  have S3 : St B r ((s.heap.objs.size, SetO prog w [x]) :: l) { s2 with heap := h', toks := s2.toks + 1 } := S2.upd .head rfl (fun b ob hb e => (hsb.2 b hb).trans e) ho' hf'
  cases hu : (displayRoad k [e1] == DisplayRoad.unsure) with
  | false => exact kds_fill_nil rfl (hQ _ S3)
  | true =>
    refine kds_fill_unled rfl ?_
    unfold SetO at hf'
    obtain ⟨hex, es, ep, tt, hd, hel, hmem, hn, hfit⟩ := hf'
    have hb' : es.size < scanBound := by rw [hn]; show 1 < scanBound; decide
    have hf2 : ({ tt with led := false } : SetTable).fits es.size = true := by cases tt; exact hfit
    unfold setUnled
    refine wpAny_bind (wpAny_setState_of ho' hd hfit ?_)
    dsimp only
    refine wpAny_storeSet_of ho' hd ?_ (fits_of_scanBound hb')
    obtain ⟨_, hS2⟩ := SetOf_store (knd := PySem.strKind prog w) ho' hex hd hel hmem hb' hf2
    obtain ⟨so', ho2, hso'⟩ := hS2.objOf
    rw [hn] at hso'
    refine hQ _ (S3.upd .head rfl (fun b ob hb e => ((Heap.SameBut.update h' s.heap.objs.size (Obj.putSet es { tt with led := false })).2 b hb).trans e) ho2 ?_)
    unfold SetO
    exact hso'
end
-- G4
set_option maxRecDepth 10000
@[irreducible] def GenO (g : Nat) : Obj → Prop := fun o => ∃ nm qn, o.cls = .type "generator" ∧ o.data = .fields #[.int g 0, nm, qn] ∧ o.slots = #[]
theorem GenO.is {h : Heap} {a : Addr} {g : Nat} {o : Obj} (ho : h.get? a = some o) (hf : GenO g o) : h.IsGen a g := by
  unfold GenO at hf
  obtain ⟨nm, qn, x, y, z⟩ := hf
  exact ⟨o, nm, qn, ho, x, y, z⟩
section
variable {prog : Program} {w : World} {A : Around} {E : Value → Shared → Prop} {s : Shared} {K : Frag}
theorem St.gens {B : Addr → Option Obj} {r : Rest} {l : Led} {s : Shared} (S : St B r l s) (g : Array GenState) : St B (g, r.2) l { s with gens := g } := by
  have := S.rest
  refine ⟨?_, S.over, S.led, S.off, S.lo, S.nodup⟩
  rw [← this]; rfl
/-- a generator's def is called: a generator that has not begun -/
theorem enterG {f : Addr} {oc : Value} {od : Option Addr} {osl : Array (Option Value)} {fd : FuncData} {body : List Stmt} {vals : List Value} {binds : List (Str × Value)} {Q : Value → Shared → Prop}
    (W : Wd K s.heap.get?) (R : Rm A 1) (ho : K.lookup f = some ⟨oc, od, .func fd, osl⟩) (hcd : codeIn K fd.code fd.qualname = true) (hbody : fd.body = .stmts body) (hbind : BindsTo s fd ⟨vals, []⟩ binds)
    (hclo : fd.closure = []) (hg : fd.globals = mainGlobals) (hb : fd.builtins = builtinsNs) (hco : fd.scope.isCoroutine = false) (hgen : fd.scope.isGenerator = true) (hk : fd.scope.kind = .function)
    (hcell : ∀ x ∈ fd.scope.names, x.2 ≠ .cell) (hl : (binds.all fun y => fd.scope.names.lookup y.1 == some .local) = true)
    (h : ∀ env L a s', EnvOk env L fd.scope [] → env.code = fd.code → St s.heap.get? (s.gens.push (.fresh (.func body env)), s.drawn, s.os) [(a, GenO s.gens.size), (L, FrO binds.reverse)] s' → Q (.ref a) s') :
    wpAny (model prog w) A (call (.ref f) vals) Q E s := by
  have O := overGet s
  have ho' := W.in O _ _ ho
  refine wpAny_call (codeAny_call_generator R.room ho' rfl hco hgen hbody (codeRec_of (W.in O) hcd) ?_)
  refine hbind _ _ _ _ ?_
  refine wpAny_newFunctionEnv hcell (fun x hx => ?_) (fun h' hns hsb => ?_) hk
  · have := List.all_eq_true.mp hl x hx
    exact beq_iff_eq.mp this
  · have keep : ∀ b o, s.heap.get? b = some o → h'.get? b = some o := fun b o e => hsb.extBut b o (Nat.ne_of_lt (Heap.lt_size e)) (Heap.get?_push_of_some _ e)
    have S1 : St s.heap.get? (restOf s) [(s.heap.objs.size, FrO binds.reverse)] { s with heap := h', toks := s.toks + binds.length } := by
      have S0 : St s.heap.get? (restOf s) [] s := ⟨rfl, O, (fun _ h => nomatch h), (fun _ h => nomatch h), (fun _ h => nomatch h), List.nodup_nil⟩
      exact S0.new ⟨rfl, keep⟩ ⟨heap_none _, W.glo O, FrO.of_ns hns fun x v e => e⟩
    have W1 : Wd K s.heap.get? := W
    refine ⟨W.nolimit S1.over, ?_⟩
    have S2 := S1.push (o := { cls := .type "generator", data := .fields #[.int s.gens.size 0, .str fd.name (s.toks + binds.length), .str fd.qualname (s.toks + binds.length + 1)] }) (P := GenO s.gens.size) W rfl (by unfold GenO; exact ⟨_, _, rfl, rfl, rfl⟩) (s.toks + binds.length + 1 + 1)
    have S3 := S2.gens (s.gens.push (.fresh (.func body (newEnv fd.scope s.heap.objs.size fd.globals fd.closure (fd.qualname ++ ".<locals>.") (some f) fd.code none fd.builtins))))
    refine h _ _ _ _ ⟨rfl, hg, hb, rfl, hclo, hk⟩ rfl S3
theorem x_join {c : Code} {fs : List Frame} {P : End → Shared → Prop} {Kf : Flow → Sem Fin} {H : Value → Sem Fin} {gd : Bool → Bool} {lv : List Value → List Value} {d : Nat} {st : Stmt} {env : Env} (I : Shared → Prop) (R : Rm A 60) (hfs : FsOk fs d) (hd : d ≤ 20) (hw : c.weight ≤ 1 ∧ c.cUnits ≤ 3)
    (h : Rm (A.over c fs) 30 → wpAny (model prog w) (A.over c fs) (exec st env) (fun f s' => f = .next ∧ I s') Never s) (k : ∀ s', I s' → SegX (model prog w) A c (Kf .next) fs s' P) : SegX (model prog w) A c ((exec st env).wrap Kf H gd lv) fs s P :=
  x_stmtR R hfs hd hw fun R' => wpAny_mono (h R') (fun f s' ⟨e, hi⟩ => e ▸ k s' hi) fun _ _ q => q
theorem addSetS {B : Addr → Option Obj} {r : Rest} {l : Led} {env : Env} {L : Addr} {sc : Scope} {cs : List (Str × Addr)} {x : Str} {xp apos pos spos : Pos} {elt : PySem.Expr} {a : Addr} {xs : List W} {mp : List (Str × Value)} {Q : Flow → Shared → Prop} (e : EnvOk env L sc cs) (S : St B r l s) (hm : (L, FrO mp) ∈ l) (hl : sc.names.lookup x = some .local) (hv : mp.lookup x = some (.ref a))
    (hD : (a, SetO prog w xs) ∈ l) (hb : xs.length ≤ 1000) (hline : (apos.endLine == pos.line) = true) (htrees : backTo pos (starEach [elt] env) = [(false, eval elt env)]) (hd : (x == ("__debug__" : Str)) = false)
    (h : wpAny (model prog w) A (eval elt env) (fun y s₂ => wpAny (model prog w) A (call (.builtin "set.add") [.ref a, y]) (fun v s₃ => v = .none ∧ Q .next s₃) E s₂) E s) :
    wpAny (model prog w) A (exec (.Expr (.Call (.Attribute (.Name x xp) "add" apos) [elt] [] pos) spos) env) Q E s := by
  refine wpAny_Expr ?_ (notInter e) rfl
  refine wpAny_Call_method1_late (name := "add") rfl hline htrees (nmL e S hm hl hv ?_ hd)
  obtain ⟨o, ho, hf⟩ := S.get hD
  have hS := SetO.setOf ho hf (by unfold scanBound; omega)
  refine ⟨"set", _, F.plainAttrs_set, F.slot_set_add, F.type_set_add, hS.typeIs, hS.noDict, ?_⟩
  refine Calls.callWith_builtin rfl (Calls.evalArgs_plain (Calls.spliced_cons (wpAny_mono h (fun y s₂ h₂ => Calls.spliced_nil ?_) fun _ _ q => q)))
  exact wpAny_mono h₂ (fun v s₃ ⟨e1, h₃⟩ => by subst e1; exact h₃) fun _ _ q => q
theorem x_YieldR {c : Code} {fs : List Frame} {P : End → Shared → Prop} {Kf : Flow → Sem Fin} {H : Value → Sem Fin} {gd : Bool → Bool} {lv : List Value → List Value} {d : Nat} {env : Env} {L : Addr} {sc : Scope} {cs : List (Str × Addr)} {e : PySem.Expr} {ypos pos : Pos} (en : EnvOk env L sc cs) (hsc : sc.isCoroutine = false) (R : Rm A 60) (hfs : FsOk fs d) (hd : d ≤ 20) (hw : c.weight ≤ 1 ∧ c.cUnits ≤ 3) (hgd : gd false = false)
    (h : Rm (A.over c fs) 30 → wpAny (model prog w) (A.over c fs) (eval e env) (fun v s' => ∀ l k p, (k (.send .none) = Kf .next) → P (.susp v false l k c p fs) s') Never s) :
    SegX (model prog w) A c ((exec (.Expr (.Yield (some e) ypos) pos) env).wrap Kf H gd lv) fs s P :=
  x_Yield hfs.split hgd hfs.guard (by rw [en.scope]; exact hsc) (notInter en) (h (Rm.over (R.le (by omega)) hfs hw.1 hw.2))
theorem endGen {B : Addr → Option Obj} {r : Rest} {lg lc : Led} {body : List Stmt} {env : Env} {P : End → Shared → Prop} (S : St B r (lg ++ lc) s) (hp : PostE prog w [] B r lc P) :
    SegX (model prog w) A (.func body env) (.pure (.done (.ret .none))) [] s P :=
  s_end prog w A (.func body env) P s (.ok (.ret .none)) _ rfl (hp B s (LeB.refl _) (S.sub (List.sublist_append_right _ _)))
theorem isTNm {x : Str} {xp : Pos} {env : Env} {Q : Bool → Shared → Prop} (h : wpAny (model prog w) A (eval (.Name x xp) env) (fun v s₁ => wpAny (model prog w) A (truthy v) Q E s₁) E s) : wpAny (model prog w) A (isTrue (.Name x xp) env (eval (.Name x xp) env)) Q E s := wpAny_isTrue_value h
theorem truthyL {a : Addr} {vs : List Value} {B : Addr → Option Obj} {r : Rest} {l : Led} {Q : Bool → Shared → Prop} (S : St B r l s) (hm : Has B l a (LsO vs)) (hsz : vs.length ≤ 1000) (h : ∀ s', St B r l s' → Q (decide (vs ≠ [])) s') : wpAny (model prog w) A (truthy (.ref a)) Q E s := by
  obtain ⟨o, ho, hf⟩ := hm.get S
  refine wpAny_truthy_list (LsO.isList ho hf) (by simp; omega) ?_
  have := h _ (S.tok (s.toks + 1 + 1))
  have e : (!vs.toArray.isEmpty) = decide (vs ≠ []) := by cases vs <;> simp
  first | exact this | (rw [e]; exact this) | (simp; simpa using this)
end
local macro_rules | `(tactic| kxs_still) => `(tactic| first
  | ((with_reducible refine' truthyL ?kS ?kM ?kN ?_); (case kS => assumption); (case kM => kcf_all); (case kN => kba_ints); intro _ _)
  | ((with_reducible refine' isTNm ?_))
  | ((with_reducible refine' addSetS ?kE ?kS ?kM ?kA ?kB ?kC ?kD ?kF ?kG ?kH ?_); (case kE => assumption); (case kS => assumption); (case kM => kcj_m); (case kA => exact rfl); (case kB => exact rfl); (case kC => kcj_m); (case kD => kba_ints); (case kF => exact rfl); (case kG => exact rfl); (case kH => decide))
  | ((with_reducible refine' notInS ?kS ?kM ?kN ?_); (case kS => assumption); (case kM => exact Has.mem (by kcj_m)); (case kN => kba_ints); intro _ _)
  | ((with_reducible refine' lenSet ?kS ?kM ?kN ?_); (case kS => assumption); (case kM => exact Has.mem (by kcj_m)); (case kN => kba_ints); intro _ _ _))
-- P1
/-- the edges that the generator tells, from where it stands -/
def childE (cont : List W → List W → List (W × W)) (p : W) : List W → List W → List W → List (W × W)
  | [], seen, next => cont seen next
  | c :: cs, seen, next => if c ∈ seen then childE cont p cs seen next else (p, c) :: childE cont p cs (seen ++ [c]) (next ++ [c])
def parentE (n : Nat) (cont : List W → List W → List (W × W)) : List W → List W → List W → List (W × W)
  | [], seen, next => cont seen next
  | p :: ps, seen, next => childE (fun seen next => if seen.length = n then [] else parentE n cont ps seen next) p (changed p) seen next
def whileE (n : Nat) : Nat → List W → List W → List (W × W)
  | 0, _, _ => []
  | k + 1, seen, parents => if parents = [] then [] else parentE n (fun seen next => whileE n k seen next) parents seen []
def bfsE (n lim : Nat) (src : W) : List (W × W) := whileE n lim [src] [src]
theorem nodup_le : ∀ (l U : List W), l.Nodup → (∀ x ∈ l, x ∈ U) → l.length ≤ U.length
  | [], _, _, _ => Nat.zero_le _
  | x :: l, U, hn, hs => by
    rw [List.nodup_cons] at hn
    have hx := hs x (.head _)
    have ih := nodup_le l (U.erase x) hn.2 fun y hy => by
      have hy' := hs y (.tail _ hy)
      have hne : y ≠ x := fun e => hn.1 (e ▸ hy)
      exact (List.mem_erase_of_ne hne).mpr hy'
    rw [List.length_erase_of_mem hx] at ih
    have : 0 < U.length := List.length_pos_of_mem hx
    rw [List.length_cons]
    omega
-- F7
set_option maxRecDepth 100000
def QAt (U : List W) (B : Addr → Option Obj) (v : Value) (p : W) : Prop := ∃ T o t D o' ys, v = .ref T ∧ B T = some o ∧ TupO [.str (toS p) t, .ref D] o ∧ B D = some o' ∧ LstO ys o' ∧ StrsAre ys ((changed p).map toS) ∧ p ∈ U
theorem QAt.le {U : List W} {B B' : Addr → Option Obj} (x : LeB B B') (v : Value) (p : W) (h : QAt U B v p) : QAt U B' v p := by
  obtain ⟨T, o, t, D, o', ys, e, h1, h2, h3, h4⟩ := h
  exact ⟨T, o, t, D, o', ys, e, x _ _ h1, h2, x _ _ h3, h4⟩
theorem St.backs {B B' : Addr → Option Obj} {r r' : Rest} {l : Led} {s s' : Shared} (S : St B r l s) : ∀ {lx : Led}, St B' r' lx s' → LeB s.heap.get? B' → St B r' (lx ++ l) s'
  | lx, S', hle => by
    have up : ∀ b o, s.heap.get? b = some o → s'.heap.get? b = some o := fun b o e => S'.over _ _ (hle _ _ e)
    have hD : ∀ p ∈ lx, s.heap.get? p.1 = none := by
      intro p hp
      cases q : s.heap.get? p.1 with
      | none => rfl
      | some o =>
        have := S'.off _ hp
        rw [show B' p.1 = some o from hle _ _ q] at this
        cases this
    refine ⟨S'.rest, fun b o e => up _ _ (S.over _ _ e), fun p hp => ?_, fun p hp => ?_, fun p hp => ?_, ?_⟩
    · rcases List.mem_append.mp hp with hp | hp
      · exact S'.get hp
      · obtain ⟨o, ho, h⟩ := S.led p hp
        exact ⟨o, up _ _ ho, h⟩
    · rcases List.mem_append.mp hp with hp | hp
      · cases q : B p.1 with
        | none => rfl
        | some o => have := S.over _ _ q; rw [hD p hp] at this; cases this
      · exact S.off p hp
    · rcases List.mem_append.mp hp with hp | hp
      · exact S'.lo _ hp
      · exact S.lo p hp
    · rw [List.map_append, List.nodup_append]
      refine ⟨S'.nodup, S.nodup, ?_⟩
      intro x hx y hy e
      subst e
      obtain ⟨p, hp, ep⟩ := List.mem_map.mp hx
      obtain ⟨q, hq, eq⟩ := List.mem_map.mp hy
      obtain ⟨o, ho, _⟩ := S.led q hq
      have := hD p hp
      rw [ep, ← eq, ho] at this; cases this
theorem kdsCode_of {K : Frag} {c : Addr} {a : Value} {b : Option Addr} {d : Array Value} {e : Array (Option Value)} (h : K.lookup c = some ⟨a, b, .fields d, e⟩) : kdsCode K (.ref c) = true := by
  show (match K.lookup c with | some ⟨_, _, .fields _, _⟩ => true | _ => false) = true
  rw [h]
structure PX where
  seen : List W
  next : List W
  nv : List Value
structure WX where
  seen : List W
  parents : List W
  nv : List Value
  N : Addr
  d : Nat
  td : Tok
set_option maxHeartbeats 1600000 in
theorem t_bfs {prog : Program} {w : World} {A : Around} {E : Value → Shared → Prop} {s : Shared} {G : Addr} {src : W} {t : Tok} {dl : Value} {B0 : Addr → Option Obj} {r0 : Rest} {l0 : Led} {Q : Value → Shared → Prop} (n lim : Nat) (U : List W)
    (W : Wd (Mine.hd.heap_39 w.params) B0) (S0 : St B0 r0 l0 s) (R : Rm A 20) (hdl : (dl = .none ∧ lim = n) ∨ ∃ u, dl = .int lim u)
    (HG : ∀ {A : Around} {E : Value → Shared → Prop} {s' : Shared} {Q : Value → Shared → Prop}, Over B0 s'.heap → Rm A 10 → (∀ t s'', Ext s' s'' → Q (.int n t) s'') → wpAny (model prog w) A (call (.builtin "len") [.ref G]) Q E s')
    (hUl : U.length ≤ 64) (hU6 : ∀ p ∈ U, p.length ≤ 6) (hUc : ∀ p ∈ U, ∀ c ∈ changed p, c ∈ U) (hsrc : src ∈ U)
    (h : ∀ (body : List Stmt) (env : Env) (L a : Addr) (lg : Led) (s' : Shared), St B0 (s.gens.push (.fresh (.func body env)), s.drawn, s.os) ((a, GenO s.gens.size) :: (lg ++ l0)) s' →
      Spec prog w (bfsE n lim src) (.func body env) (denote table (.func body env)) [] lg B0 → Q (.ref a) s') :
    wpAny (model prog w) A (call (.ref 29) [.ref G, .str (toS src) t, .ref 649, dl]) Q E s := by
  refine' enterG (W.at S0) (R.le (by omega)) ?ho ?hcd ?h1 ?h2 ?h3 ?h4 ?h5 ?h6 ?h7 ?h8 ?h9 ?h10 ?_
  case ho => k_is
  case hcd => k_is
  case h1 => exact rfl
  case h2 => exact binds_K ((W.at S0).in (overGet s)) rfl (by k_is) rfl rfl rfl
  case h3 => exact rfl
  case h4 => exact rfl
  case h5 => exact rfl
  case h6 => exact rfl
  case h7 => exact rfl
  case h8 => exact rfl
  case h9 => decide +kernel
  case h10 => exact rfl
  intro env L a s' e hcode S
  refine h _ _ L a [(L, FrO [("depth_limit", dl), ("neighbors", .ref 649), ("source", .str (toS src) t), ("G", .ref G)])] s' (S0.backs (lx := [_, _]) S (LeB.refl _)) ?_
  dsimp only at e
  have hcK : kdsCode (Mine.hd.heap_39 w.params) env.code = true := by
    rw [hcode]
    refine' kdsCode_of ?hz
    case hz => k_is
  rw [Spec_iff]
  clear S h S0
  intro A P s B r lc R hle S hp
  have W1 := W.le hle
  have H0 := FsOk.nil
  refine x_func ?_
  dsimp only [List.cons_append, List.nil_append] at S
  refine x_cons (x_stmtR R H0 (by omega) (wFunc _ _) fun R1 => ?_)
  repeat kxs_still
  rw [if_neg (show ¬ ((Value.ref 649 == Value.none) = true) from Bool.false_ne_true)]
  repeat kxs_still
  refine x_cons (x_join (fun s => ∃ u, St B r ((L, FrO [("depth_limit", .int lim u), ("neighbors", .ref 649), ("source", .str (toS src) t), ("G", .ref G)]) :: lc) s) R H0 (by omega) (wFunc _ _) (fun R1 => ?_) ?_)
  · rcases hdl with ⟨rfl, rfl⟩ | ⟨u, rfl⟩
    · repeat kxs_still
      rw [if_pos (show ((Value.none == Value.none) = true) from rfl)]
      repeat kxs_still
      refine HG (fun b o e => (St.over ‹St _ _ _ _›) b o (hle b o e)) (R1.le (by omega)) fun t1 s1 x1 => ?_
      have S := St.ext ‹St _ _ _ _› x1
      repeat kxs_still
      exact ⟨rfl, t1, St.weaken ‹St _ _ _ _› .head (FrO.less (by exact ⟨rfl, rfl, rfl, rfl, trivial⟩))⟩
    · repeat kxs_still
      rw [if_neg (show ¬ ((Value.int (lim : Int) u == Value.none) = true) from Bool.false_ne_true)]
      repeat kxs_still
      exact ⟨rfl, u, ‹St _ _ _ _›⟩
  rintro s1 ⟨u, S⟩
  -- seen = {source}
  refine x_cons (x_stmtR R H0 (by omega) (wFunc _ _) fun R1 => ?_)
  kxs_still
  refine setDisp W1 S hcK rfl rfl fun Sg s2 S => ?_
  repeat kxs_still
  refine ⟨src, t, rfl, ‹St _ _ _ _›, fun s3 S => ?_⟩
  repeat kxs_still
  -- n = len(G)
  refine x_cons (x_stmtR R H0 (by omega) (wFunc _ _) fun R1 => ?_)
  repeat kxs_still
  refine HG (fun b o e => (St.over ‹St _ _ _ _›) b o (hle b o e)) (R1.le (by omega)) fun tn s4 x1 => ?_
  have S := St.ext ‹St _ _ _ _› x1
  repeat kxs_still
  -- depth = 0
  refine x_cons (x_stmtR R H0 (by omega) (wFunc _ _) fun R1 => ?_)
  repeat kxs_still
  -- the first queue
  refine x_cons (x_stmtR R H0 (by omega) (wFunc _ _) fun R1 => ?_)
  repeat kxs_still
  refine t_changed (W1.at ‹St _ _ _ _›) (R1.le (by omega)) (hU6 _ hsrc) fun ys D s5 hys x1 x2 => ?_
  have S := St.new ‹St _ _ _ _› x1 x2
  repeat kxs_still
  rename_i td _ _ _ _ T _ _ N _ _ s6 S6
  obtain ⟨oT, hoT, hleT, S⟩ := (S6.perm (l' := (T, _) :: (N, _) :: _) (List.Perm.swap _ _ _)).freeze
  obtain ⟨oD, hoD, hleD, S⟩ := (S.perm (l' := (D, _) :: (N, _) :: _) (List.Perm.swap _ _ _)).freeze
  have hB2 : LeB B (setB (setB B T oT) D oD) := hleT.trans hleD
  have hq : Two (QAt U (setB (setB B T oT) D oD)) [.ref T] [src] := .one ⟨T, oT, _, D, oD, ys, rfl, hleD _ _ (setB_self _ _ _), hoT, setB_self _ _ _, hoD, hys, hsrc⟩
  generalize setB (setB B T oT) D oD = B2 at *
  have W2 := W1.le hB2
  have S := S.weaken (.tail (.tail .head)) (FrO.less (mp' := [("next_parents_children", .ref N), ("depth", .int 0 td), ("n", .int n tn), ("seen", .ref Sg), ("depth_limit", .int lim u), ("neighbors", .ref 649)]) (by exact ⟨rfl, rfl, rfl, rfl, rfl, rfl, trivial⟩))
  refine x_cons (x_WhileR H0 (wFunc _ _) rfl fun pw hF => ?_)
  refine whileSpec hF (by omega) (X := WX) (fun i x => whileE n i x.seen x.parents)
    (fun i x => [(x.N, LstO x.nv), (Sg, SetO prog w x.seen), (L, FrO [("next_parents_children", .ref x.N), ("depth", .int x.d x.td), ("n", .int n tn), ("seen", .ref Sg), ("depth_limit", .int lim u), ("neighbors", .ref 649)])])
    (fun i x B' => LeB B2 B' ∧ Two (QAt U B') x.nv x.parents ∧ x.d + i = lim ∧ x.seen.Nodup ∧ (∀ y ∈ x.seen, y ∈ U) ∧ x.parents.length ≤ x.seen.length) ?turn
    lim ⟨[src], [src], [.ref T], N, 0, td⟩ A P _ B2 r lc ⟨LeB.refl _, hq, by simp, by simp, by intro y hy; rw [List.mem_singleton.mp hy]; exact hsrc, by simp⟩ R S (hp.le hB2)
  case turn =>
    clear hp S hq hle W1 R
    rintro i x A P s B r lc ⟨hle, hq, hd, hnd, hsU, hpl⟩ R S hp hagain R1
    have WB := W2.le hle
    have hsl := Nat.le_trans (nodup_le _ _ hnd hsU) hUl
    have hnl := hq.length
    dsimp only [List.cons_append, List.nil_append] at S
    repeat kxs_still
    by_cases hpe : x.parents = []
    · have hnv : x.nv = [] := List.length_eq_zero_iff.mp (by rw [hnl, hpe]; rfl)
      rw [if_neg (by simp [hnv]), if_neg (by decide)]
      refine x_leave ?_
      refine endGen (lg := [_, _, _]) ‹St _ _ _ _› ?_
      have e0 : whileE n i x.seen x.parents = [] := by
        cases i with
        | zero => rfl
        | succ k => unfold whileE; rw [if_pos hpe]
      rw [e0] at hp
      exact hp
    have hnv : x.nv ≠ [] := fun q => hpe (List.length_eq_zero_iff.mp (by rw [← hnl, q]; rfl))
    rw [if_pos (by simpa using hnv)]
    repeat kxs_still
    by_cases hdl : (x.d : Int) < (lim : Int)
    rotate_left
    · rw [if_neg (by simpa using hdl), if_neg (by decide)]
      refine x_leave ?_
      refine endGen (lg := [_, _, _]) ‹St _ _ _ _› ?_
      have hi0 : i = 0 := by omega
      rw [hi0] at hp
      exact hp
    rw [if_pos (by simpa using hdl)]
    repeat kxs_still
    rw [if_pos rfl]
    obtain ⟨k, rfl⟩ : ∃ k, i = k + 1 := ⟨i - 1, by omega⟩
    have e1 : whileE n (k + 1) x.seen x.parents = parentE n (fun seen next => whileE n k seen next) x.parents x.seen [] := by
      conv => lhs; unfold whileE
      rw [if_neg hpe]
    rw [e1] at hp
    refine x_cons (x_stmtR R hF (by omega) (wWhile _ _ _ _) fun R1 => ?_)
    repeat kxs_still
    refine x_cons (x_stmtR R hF (by omega) (wWhile _ _ _ _) fun R1 => ?_)
    repeat kxs_still
    rename_i N' _ _ s7 S7
    obtain ⟨oN, hoN, hleN, S⟩ := (S7.perm (l' := (x.N, _) :: (N', _) :: _) (List.Perm.swap _ _ _)).freeze
    have hB3 : LeB B (setB B x.N oN) := hleN
    have HN0 : setB B x.N oN x.N = some oN := setB_self _ _ _
    have hq3 := hq.imp (QAt.le hB3)
    generalize setB B x.N oN = B3 at *
    have W3 := WB.le hB3
    have HN : ∀ l : Led, Has B3 l x.N (LsO x.nv) := fun l => .stay HN0 (LstO.ls _ hoN)
    have S := S.weaken (.tail (.tail .head)) (FrO.less (mp' := [("next_parents_children", .ref N'), ("this_parents_children", .ref x.N), ("depth", .int x.d x.td), ("n", .int n tn), ("seen", .ref Sg), ("depth_limit", .int lim u), ("neighbors", .ref 649)]) (by exact ⟨rfl, rfl, rfl, rfl, rfl, rfl, rfl, trivial⟩))
    refine x_cons (x_ForR R hF (by omega) (wWhile _ _ _ _) rfl (fun _ => rfl) fun R1 => ?_)
    repeat kxs_still
    intro pf hF2
    rename_i I1 s8 S8
    have S8 := S8.weaken (.tail (.tail (.tail .head))) (FrO.less (mp' := [("next_parents_children", .ref N'), ("depth", .int x.d x.td), ("n", .int n tn), ("seen", .ref Sg), ("depth_limit", .int lim u), ("neighbors", .ref 649)]) (by exact ⟨rfl, rfl, rfl, rfl, rfl, rfl, trivial⟩))
    refine forSpec (iterList I1 x.N x.nv (small_le (by omega))) trivial hF2 (by omega) (X := PX) (fun j y => parentE n (fun seen next => whileE n k seen next) (x.parents.drop j) y.seen y.next)
      (fun j y => [(N', LstO y.nv), (Sg, SetO prog w y.seen), (L, FrO [("next_parents_children", .ref N'), ("depth", .int x.d x.td), ("n", .int n tn), ("seen", .ref Sg), ("depth_limit", .int lim u), ("neighbors", .ref 649)])])
      (fun j y B' => LeB B3 B' ∧ Two (QAt U B') y.nv y.next ∧ y.seen.Nodup ∧ (∀ z ∈ y.seen, z ∈ U) ∧ y.next.length ≤ y.seen.length) ?glo ?need ?body ?done
      ⟨x.seen, [], []⟩ A P _ B3 r lc ⟨LeB.refl _, .nil, hnd, hsU, by simp⟩ R S8 (hp.le hB3)
    case glo => rintro j y B' r l s ⟨hle', -⟩ S; exact (W3.le hle').glo S.over
    case need => rintro j y B' lc ⟨hle', -⟩; exact (HN _).le hle'
    case done =>
      clear hp S R
      rintro y A P s B' r lc ⟨hle', hqy, hny, hyU, hyl⟩ R S hp
      have W4 := W3.le hle'
      rw [List.drop_of_length_le (show x.parents.length ≤ x.nv.length by omega)] at hp
      dsimp only [List.cons_append, List.nil_append] at S
      refine x_leave ?_
      refine x_cons (x_stmtR R hF (by omega) (wWhile _ _ _ _) fun R1 => ?_)
      repeat kxs_still
      rename_i s9 S9
      refine x_nil ?_
      exact hagain k ⟨y.seen, y.next, y.nv, N', x.d + 1, _⟩ A P _ B' r lc (by omega) (hB3.trans hle') ⟨(hle.trans hB3).trans hle', hqy, by simp only; omega, hny, hyU, hyl⟩ R
        (S9.weaken (.tail (.tail .head)) (FrO.less (by exact ⟨rfl, rfl, rfl, rfl, rfl, rfl, trivial⟩))) hp
    case body =>
      clear hp S R
      rintro j y v A P s B4 r lc hj hv ⟨hle4, hqy, hny, hyU, hyl⟩ R S hp hagain2 R1
      have W4 := W3.le hle4
      obtain ⟨p, hpj, T, oT, tp, D, oD, cs, rfl, hBT, hT, hBD, hD, hcs, hpU⟩ := hq3.get hv
      have HT : ∀ l : Led, Has B4 l T (TupO [.str (toS p) tp, .ref D]) := fun l => .stay (hle4 _ _ hBT) hT
      have HD : ∀ l : Led, Has B4 l D (LsO cs) := fun l => .stay (hle4 _ _ hBD) (LstO.ls _ hD)
      have hp6 := hU6 p hpU
      have hcl : cs.length ≤ 10 := by
        rw [StrsAre.length hcs, List.length_map]
        exact Nat.le_trans (changedTo_le _ _) (by omega)
      have hdrop : x.parents.drop j = p :: x.parents.drop (j + 1) := by
        have hj' : j < x.parents.length := by omega
        rw [List.drop_eq_getElem_cons hj']
        congr 1
        rw [List.getElem?_eq_getElem hj'] at hpj
        exact Option.some.inj hpj
      rw [hdrop] at hp
      have hp : PostE prog w (childE (fun seen next => if seen.length = n then [] else parentE n (fun seen next => whileE n k seen next) (x.parents.drop (j + 1)) seen next) p (changed p) y.seen y.next) B4 r lc P := hp
      dsimp only [List.cons_append, List.nil_append] at S
      repeat kxs_still
      refine x_cons (x_ForR R hF2 (by omega) (wFor _ _ _ _ _) rfl (fun _ => rfl) fun R1 => ?_)
      repeat kxs_still
      intro pf2 hF3
      rename_i I2 s8 S8
      have S8 := S8.weaken (.tail (.tail (.tail (.tail .head)))) (FrO.less (mp' := [("parent", .str (toS p) tp), ("next_parents_children", .ref N'), ("depth", .int x.d x.td), ("n", .int n tn), ("seen", .ref Sg), ("depth_limit", .int lim u), ("neighbors", .ref 649)]) (by exact ⟨rfl, rfl, rfl, rfl, rfl, rfl, rfl, trivial⟩))
      refine forSpec (iterList I2 D cs (small_le (by omega))) trivial hF3 (by omega) (X := PX) (fun m z => childE (fun seen next => if seen.length = n then [] else parentE n (fun seen next => whileE n k seen next) (x.parents.drop (j + 1)) seen next) p ((changed p).drop m) z.seen z.next)
        (fun m z => [(I1, LitO x.N (j + 1)), (N', LstO z.nv), (Sg, SetO prog w z.seen), (L, FrO [("parent", .str (toS p) tp), ("next_parents_children", .ref N'), ("depth", .int x.d x.td), ("n", .int n tn), ("seen", .ref Sg), ("depth_limit", .int lim u), ("neighbors", .ref 649)])])
        (fun m z B' => LeB B4 B' ∧ Two (QAt U B') z.nv z.next ∧ z.seen.Nodup ∧ (∀ z' ∈ z.seen, z' ∈ U) ∧ z.next.length ≤ z.seen.length) ?glo2 ?need2 ?body2 ?done2
        ⟨y.seen, y.next, y.nv⟩ A P _ B4 r lc ⟨LeB.refl _, hqy, hny, hyU, hyl⟩ R S8 hp
      case glo2 => rintro m z B' r l s ⟨hle', -⟩ S; exact (W4.le hle').glo S.over
      case need2 => rintro m z B' lc ⟨hle', -⟩; exact (HD _).le hle'
      case done2 =>
        clear hp S R
        rintro z A P s B5 r lc ⟨hle5, hqz, hnz, hzU, hzl⟩ R S hp
        have W5 := W4.le hle5
        have hzs := Nat.le_trans (nodup_le _ _ hnz hzU) hUl
        rw [List.drop_of_length_le (show (changed p).length ≤ cs.length by rw [StrsAre.length hcs, List.length_map]; omega)] at hp
        dsimp only [List.cons_append, List.nil_append] at S
        refine x_leave ?_
        refine x_cons (x_IfR R hF2 (by omega) (wFor _ _ _ _ _) fun R1 => ?_)
        repeat kxs_still
        by_cases hfull : z.seen.length = n
        · rw [if_pos (by rw [beq_iff_eq]; omega)]
          refine x_cons (x_stmtR R hF2 (by omega) (wFor _ _ _ _ _) fun R1 => ?_)
          repeat kxs_still
          refine x_leave ?_
          refine x_leave ?_
          refine endGen (lg := [_, _, _, _]) ‹St _ _ _ _› ?_
          have e2 : childE (fun seen next => if seen.length = n then [] else parentE n (fun seen next => whileE n k seen next) (x.parents.drop (j + 1)) seen next) p [] z.seen z.next = [] := if_pos hfull
          rw [e2] at hp
          exact hp
        · rw [if_neg (by rw [beq_iff_eq]; omega)]
          have e2 : childE (fun seen next => if seen.length = n then [] else parentE n (fun seen next => whileE n k seen next) (x.parents.drop (j + 1)) seen next) p [] z.seen z.next = parentE n (fun seen next => whileE n k seen next) (x.parents.drop (j + 1)) z.seen z.next := if_neg hfull
          rw [e2] at hp
          refine x_nil ?_
          refine x_nil ?_
          exact hagain2 ⟨z.seen, z.next, z.nv⟩ A P _ B5 r lc hle5 ⟨hle4.trans hle5, hqz, hnz, hzU, hzl⟩ R (St.weaken ‹St _ _ _ _› (.tail (.tail (.tail .head))) (FrO.less (by exact ⟨rfl, rfl, rfl, rfl, rfl, rfl, trivial⟩))) hp
      case body2 =>
        clear hp S R
        rintro m z v A P s B5 r lc hm hv ⟨hle5, hqz, hnz, hzU, hzl⟩ R S hp hagain3 R1
        have W5 := W4.le hle5
        have hzs := Nat.le_trans (nodup_le _ _ hnz hzU) hUl
        obtain ⟨c', tc, rfl, hc'⟩ := StrsAre.item hcs m v hv
        rw [List.getElem?_map] at hc'
        obtain ⟨c, hcm, rfl⟩ := Option.map_eq_some_iff.mp hc'
        have hcU : c ∈ U := hUc p hpU c (List.mem_of_getElem? hcm)
        have hc6 := hU6 c hcU
        have hm' : m < (changed p).length := (List.getElem?_eq_some_iff.mp hcm).1
        have hdropc : (changed p).drop m = c :: (changed p).drop (m + 1) := by
          rw [List.drop_eq_getElem_cons hm']
          congr 1
          rw [List.getElem?_eq_getElem hm'] at hcm
          exact Option.some.inj hcm
        rw [hdropc] at hp
        have hnl5 := hqz.length
        dsimp only [List.cons_append, List.nil_append] at S
        repeat kxs_still
        refine x_cons (x_IfR R hF3 (by omega) (wFor _ _ _ _ _) fun R1 => ?_)
        repeat kxs_still
        by_cases hcn : c ∈ z.seen
        · rw [if_neg (by simpa using hcn)]
          have e2 : ∀ (ct : List Mine.W → List Mine.W → List Edge) (rest : List Mine.W), childE ct p (c :: rest) z.seen z.next = childE ct p rest z.seen z.next := fun ct rest => by
            conv => lhs; unfold childE
            rw [if_pos hcn]
          rw [e2] at hp
          refine x_nil ?_
          refine x_nil ?_
          exact hagain3 z A P _ B5 r lc (LeB.refl _) ⟨hle5, hqz, hnz, hzU, hzl⟩ R (St.weaken ‹St _ _ _ _› (.tail (.tail (.tail (.tail .head)))) (FrO.less (by exact ⟨rfl, rfl, rfl, rfl, rfl, rfl, rfl, trivial⟩))) hp
        · rw [if_pos (by simpa using hcn)]
          have e2 : ∀ (ct : List Mine.W → List Mine.W → List Edge) (rest : List Mine.W), childE ct p (c :: rest) z.seen z.next = (p, c) :: childE ct p rest (z.seen ++ [c]) (z.next ++ [c]) := fun ct rest => by
            conv => lhs; unfold childE
            rw [if_neg hcn]
          rw [e2] at hp
          refine x_cons (x_stmtR R hF3 (by omega) (wFor _ _ _ _ _) fun R1 => ?_)
          repeat kxs_still
          refine callAddS ‹St _ _ _ _› (by kcf_m) hcn (by omega) fun s9 S9 => ⟨rfl, ?_⟩
          refine x_cons (x_stmtR R hF3 (by omega) (wFor _ _ _ _ _) fun R1 => ?_)
          repeat kxs_still
          refine t_changed (W5.at ‹St _ _ _ _›) (R1.le (by omega)) hc6 fun ys D' s5 hys x1 x2 => ?_
          have S := St.new ‹St _ _ _ _› x1 x2
          repeat kxs_still
          rename_i Tq _ _ s6 S6
          obtain ⟨oT', hoT', hleT, S⟩ := S6.freeze
          obtain ⟨oD', hoD', hleD, S⟩ := S.freeze
          have hB6 : LeB B5 (setB (setB B5 Tq oT') D' oD') := hleT.trans hleD
          have hq6 : Two (QAt U (setB (setB B5 Tq oT') D' oD')) (z.nv ++ [.ref Tq]) (z.next ++ [c]) := (hqz.imp (QAt.le hB6)).append (.one ⟨Tq, oT', _, D', oD', ys, rfl, hleD _ _ (setB_self _ _ _), hoT', setB_self _ _ _, hoD', hys, hcU⟩)
          generalize setB (setB B5 Tq oT') D' oD' = B6 at *
          have W6 := W5.le hB6
          refine x_cons (x_YieldR e rfl R hF3 (by omega) (wFor _ _ _ _ _) rfl fun R1 => ?_)
          repeat kxs_still
          intro ly ky py hky
          rename_i Ty sy Sy
          have Sy := Sy.weaken (.tail (.tail (.tail (.tail (.tail .head))))) (FrO.less (mp' := [("parent", .str (toS p) tp), ("next_parents_children", .ref N'), ("depth", .int x.d x.td), ("n", .int n tn), ("seen", .ref Sg), ("depth_limit", .int lim u), ("neighbors", .ref 649)]) (by exact ⟨rfl, rfl, rfl, rfl, rfl, rfl, rfl, trivial⟩))
          refine hp B6 Ty _ _ [(I2, LitO D (m + 1)), (I1, LitO x.N (j + 1)), (N', LstO (z.nv ++ [.ref Tq])), (Sg, SetO prog w (z.seen ++ [c])), (L, FrO [("parent", .str (toS p) tp), ("next_parents_children", .ref N'), ("depth", .int x.d x.td), ("n", .int n tn), ("seen", .ref Sg), ("depth_limit", .int lim u), ("neighbors", .ref 649)])] sy ly ky _ py _ hB6 ?spec Sy hF3.guard
          rw [Spec_iff]
          intro A' P' s' B' r' lc' R' hle' S' hp'
          rw [hky]
          refine x_nil ?_
          refine x_nil ?_
          exact hagain3 ⟨z.seen ++ [c], z.next ++ [c], z.nv ++ [Value.ref Tq]⟩ A' P' s' B' r' lc' (hB6.trans hle') ⟨(hle5.trans hB6).trans hle', hq6.imp (QAt.le hle'), List.nodup_append.mpr ⟨hnz, by simp, by
              intro a ha b hb hab
              rw [List.mem_singleton] at hb
              exact hcn (by rw [← hb, ← hab]; exact ha)⟩, by
              intro a ha
              rcases List.mem_append.mp ha with ha | ha
              · exact hzU a ha
              · rw [List.mem_singleton.mp ha]; exact hcU, by simp; omega⟩ R' S' hp'
-- L10
set_option maxRecDepth 10000

@[irreducible] def NsX (m : Str → Option Value) : Obj → Prop := fun o => ∃ es ep, o.data = .dict es ep ∧ StrKeys es ∧ UniqKeys es ∧ ∀ name, nsFind es name = m name
@[irreducible] def InsO (C dx : Addr) : Obj → Prop := fun o => o = instObj C dx
@[irreducible] def DctO (prog : Program) (w : World) (kvs : List (Str × Value)) : Obj → Prop := fun o => o.IsDictOf (PySem.strKind prog w) kvs

theorem Put.same {a : Addr} {P : Obj → Prop} : ∀ {l : Led}, (a, P) ∈ l → Put a P P l l
  | _ :: _, .head _ => .head
  | _ :: _, .tail _ h => .tail (Put.same h)
theorem NsX.ns {h : Heap} {a : Addr} {m : Str → Option Value} {o : Obj} (ho : h.get? a = some o) (hf : NsX m o) : h.Ns1 a m := by
  unfold NsX at hf
  obtain ⟨es, ep, x, y, z⟩ := hf
  exact ⟨o, es, ep, ho, x, y, z⟩
theorem NsX.of {h : Heap} {a : Addr} {m : Str → Option Value} (hn : h.Ns1 a m) : ∃ o, h.get? a = some o ∧ NsX m o := by
  obtain ⟨o, es, ep, ho, x, y, z⟩ := hn
  exact ⟨o, ho, by unfold NsX; exact ⟨es, ep, x, y, z⟩⟩
theorem NsX.look {m : Str → Option Value} {o : Obj} {name : Str} (hf : NsX m o) : lookIn name o = some (m name) := by
  unfold NsX at hf
  obtain ⟨es, ep, hd, hk, -, hn⟩ := hf
  unfold lookIn
  rw [hd]
  dsimp only
  have h1 := hn name
  unfold nsFind findBy at h1
  have hf : es.toList.find? (fun e => e.key.isStr name) = es.find? (fun e => e.key.isStr name) := by rw [Array.find?_toList]
  have hnr : es.toList.any (·.refKey) = false := by
    rw [List.any_eq_false]
    intro e he
    obtain ⟨n, t, ek⟩ := hk e (by simpa using he)
    unfold DictEntry.refKey
    rw [ek]
    simp
  cases hq : es.toList.find? (fun e => e.key.isStr name) with
  | some e =>
    rw [hf] at hq
    first
      | (rw [hq] at h1; rw [← h1]; rfl)
      | (simp [hq] at h1; simp [← h1])
  | none =>
    rw [hnr, if_neg (by decide)]
    rw [hf] at hq
    first
      | (rw [hq] at h1; rw [← h1]; rfl)
      | (simp [hq] at h1; simp [← h1])

section
variable {prog : Program} {w : World} {A : Around} {E : Value → Shared → Prop} {s : Shared} {B : Addr → Option Obj} {r : Rest} {l l' : Led} {K : Frag} {env : Env} {L : Addr} {Q : Value → Shared → Prop} {C x dx d : Addr} {m : Str → Option Value}

theorem instAt (S : St B r l s) (hx : Has B l x (InsO C dx)) (hd : Has B l dx (NsX m)) : ∃ ox od, InstAt s.heap x ox C (some od) ∧ NsX m od ∧ ox.dict = some dx ∧ s.heap.get? dx = some od := by
  obtain ⟨ox, ho, hf⟩ := hx.get S
  obtain ⟨od, hod, hfd⟩ := hd.get S
  unfold InsO at hf
  subst hf
  exact ⟨_, od, ⟨ho, rfl, rfl, hod⟩, hfd, rfl, hod⟩

theorem findObj_own {od : Obj} {name : Str} {v : Value} {cd : ClassData} (hc : clsIn K C = some cd) (hh : cd.hasDict = true) (hf : findIn K (.ref C) name = some none) (hl : lookIn name od = some (some v)) : findObj K C (some od) name = some (.value v) := by
  unfold findObj
  rw [hc, Option.bind_some, hf, Option.bind_some]
  dsimp only
  rw [Option.bind_some, Option.bind_some]
  dsimp only
  unfold PySem.W.ownOf
  rw [if_pos hh]
  dsimp only
  rw [hl]
  rfl
theorem findObj_cls {od : Obj} {name : Str} {a : Value} {cd : ClassData} (hc : clsIn K C = some cd) (hh : cd.hasDict = true) (hf : findIn K (.ref C) name = some (some a)) (hs : specialIn K a "__get__" = some none) (hl : lookIn name od = some none)
    (hcop : copiedNames.contains name = false) (ha : handedIn a = true) : findObj K C (some od) name = some (.value a) := by
  unfold findObj
  rw [hc, Option.bind_some, hf, Option.bind_some]
  dsimp only
  rw [hs, Option.bind_some]
  dsimp only
  rw [Option.bind_some]
  dsimp only
  unfold PySem.W.ownOf
  rw [if_pos hh]
  dsimp only
  rw [hl, Option.bind_some]
  dsimp only
  rw [hcop, Bool.false_and, if_neg (by decide), if_pos ha]

theorem getA_own {name : Str} {v : Value} {cd : ClassData} {expr : Bool} (W : Wd K B) (S : St B r l s) (hx : Has B l x (InsO C dx)) (hd : Has B l dx (NsX m)) (hga : findIn K (.ref C) "__getattribute__" = some (some (.builtin "object.__getattribute__")))
    (hc : clsIn K C = some cd) (hh : cd.hasDict = true) (hf : findIn K (.ref C) name = some none) (hv : m name = some v) (hhd : handedIn v = true) (h : ∀ s', St B r l s' → Q v s') : wpAny (model prog w) A (getAttr (.ref x) name expr) Q E s := by
  obtain ⟨ox, od, I, hfd, -, -⟩ := instAt S hx hd
  refine get_value (W.in S.over) I hga (findObj_own hc hh hf ?_) hhd (h _ (S.tok _))
  rw [hfd.look, hv]
theorem getA_cls {name : Str} {a : Value} {cd : ClassData} {expr : Bool} (W : Wd K B) (S : St B r l s) (hx : Has B l x (InsO C dx)) (hd : Has B l dx (NsX m)) (hga : findIn K (.ref C) "__getattribute__" = some (some (.builtin "object.__getattribute__")))
    (hc : clsIn K C = some cd) (hh : cd.hasDict = true) (hf : findIn K (.ref C) name = some (some a)) (hs : specialIn K a "__get__" = some none) (hv : m name = none) (hcop : copiedNames.contains name = false) (ha : handedIn a = true)
    (h : ∀ s', St B r l s' → Q a s') : wpAny (model prog w) A (getAttr (.ref x) name expr) Q E s := by
  obtain ⟨ox, od, I, hfd, -, -⟩ := instAt S hx hd
  refine get_value (W.in S.over) I hga (findObj_cls hc hh hf hs ?_ hcop ha) ha (h _ (S.tok _))
  rw [hfd.look, hv]
theorem setA {name : Str} {v : Value} {cd : ClassData} {ns : List Str} {Q : Unit → Shared → Prop} (hw : Within m ns) (hnl : ns.length ≤ 100) (W : Wd K B) (S : St B r l s) (hx : Has B l x (InsO C dx)) (hp : Put dx (NsX m) (NsX fun y => if y = name then some v else m y) l l')
    (hs : findIn K (.ref C) "__setattr__" = some (some (.builtin "object.__setattr__"))) (hpl : plainOver K C = true) (ht : takerIn K C name = some none) (hc : clsIn K C = some cd) (hh : cd.hasDict = true)
    (h : ∀ s', St B r l' s' → Q () s') : wpAny (model prog w) A (setAttr (.ref x) name v) Q E s := by
  obtain ⟨ox, od, I, hfd, hdx, hod⟩ := instAt S hx (Has.mem hp.mem)
  have X := W.in S.over
  refine set_plain X I hs (osa_open (s := { s with toks := s.toks + 1 }) X I hpl ht fun b => ?_)
  have hn : s.heap.Ns1 dx m := NsX.ns hod hfd
  obtain ⟨hx2, hcl, -, -⟩ := I
  obtain ⟨oc, odi, oda, osl⟩ := ox
  dsimp only at hdx hcl
  subst hdx hcl
  refine wpAny_bind (wpAny_pure (wpAny_bind (wpAny_bind (wpAny_loadPart (s := { s with toks := s.toks + 1 }) hx2 (wpAny_bind (Looks.here (s := { s with toks := s.toks + 1 }) (looks_clsIn (h := s.heap) X hc) ?_))))))
  rw [hh]
  refine wpAny_pure (a := some dx) ?_
  show wpAny _ _ (Builtin.ObjectAttr.storeInDict dx (.str name s.toks) name v) _ _ _
  unfold Builtin.ObjectAttr.storeInDict Builtin.ObjectAttr.newKeyGuard
  refine wpAny_bind (wpAny_pure (wpAny_bind (wpAny_nsSet1 (s := { s with toks := s.toks + 1 }) hn fun h' hn' hsb => ?_)))
  obtain ⟨oD, esD, epD, hoD, hdD, hcD⟩ := hn'.count (Within.cons name v hw)
  refine wpAny_bind (wpAny_lookBehind hoD (by rw [hdD]; exact pastItsLine_dict (Nat.le_trans hcD (by rw [List.length_cons, sizeLine_eq]; omega))) ?_)
  obtain ⟨o', ho', hf'⟩ := NsX.of hn'
  have S' : St B r l' { s with heap := h', toks := s.toks + 1 + 1 } := S.upd hp rfl (fun b ob hb e => (hsb.2 b hb).trans e) ho' hf'
  exact wpAny_pure (h _ S')

theorem DctO.dictOf {h : Heap} {a : Addr} {kvs : List (Str × Value)} {o : Obj} (ho : h.get? a = some o) (hf : DctO prog w kvs o) : h.DictOf (PySem.strKind prog w) a kvs := by
  unfold DctO at hf
  exact Heap.dictOf_iff.mpr ⟨o, ho, hf⟩
theorem DctO.of {h : Heap} {a : Addr} {kvs : List (Str × Value)} (hd : h.DictOf (PySem.strKind prog w) a kvs) : ∃ o, h.get? a = some o ∧ DctO prog w kvs o := by
  obtain ⟨o, ho, hf⟩ := Heap.dictOf_iff.mp hd
  exact ⟨o, ho, by unfold DctO; exact hf⟩
theorem notMod {d : Addr} (h : mainGlobals < d) : (d == sysModules) = false := beq_eq_false_iff_ne.mpr (Nat.ne_of_gt (Nat.lt_trans (by decide) h))

theorem dNotIn {kvs : List (Str × Value)} {k : Str} {t : Tok} (S : St B r l s) (hm : (d, DctO prog w kvs) ∈ l) (h : ∀ s', St B r l s' → Q (.bool (!(valueAt kvs k).isSome)) s') : wpAny (model prog w) A (compareOp .NotIn (.str k t) (.ref d)) Q E s := by
  obtain ⟨o, ho, hf⟩ := S.get hm
  exact wpAny_notIn_of (knd := PySem.strKind prog w) (strKind_is prog w k t) (notMod (S.lo _ hm)) (DctO.dictOf ho hf).mapOf (h _ (S.tok _))
theorem dIn {kvs : List (Str × Value)} {k : Str} {t : Tok} (S : St B r l s) (hm : (d, DctO prog w kvs) ∈ l) (h : ∀ s', St B r l s' → Q (.bool (valueAt kvs k).isSome) s') : wpAny (model prog w) A (compareOp .In (.str k t) (.ref d)) Q E s := by
  obtain ⟨o, ho, hf⟩ := S.get hm
  exact wpAny_in_of (knd := PySem.strKind prog w) (strKind_is prog w k t) (notMod (S.lo _ hm)) (DctO.dictOf ho hf).mapOf (h _ (S.tok _))
theorem dGet {kvs : List (Str × Value)} {k : Str} {t : Tok} {v : Value} (S : St B r l s) (hm : Has B l d (DctO prog w kvs)) (hv : valueAt kvs k = some v) (h : ∀ s', St B r l s' → Q v s') : wpAny (model prog w) A (getItem (.ref d) (.str k t)) Q E s := by
  obtain ⟨o, ho, hf⟩ := hm.get S
  exact wpAny_getItem_of (knd := PySem.strKind prog w) (strKind_is prog w k t) (DctO.dictOf ho hf).mapOf hv (h _ (S.tok _))
theorem dSet {kvs : List (Str × Value)} {k : Str} {t : Tok} {v : Value} {Q : Unit → Shared → Prop} (S : St B r l s) (hp : Put d (DctO prog w kvs) (DctO prog w (stored kvs k v)) l l') (hsz : kvs.length ≤ 1000) (h : ∀ s', St B r l' s' → Q () s') :
    wpAny (model prog w) A (setItem (.ref d) (.str k t) v) Q E s := by
  obtain ⟨o, ho, hf⟩ := S.get hp.mem
  refine wpAny_setItem_pairs (knd := PySem.strKind prog w) (strKind_is prog w k t) (DctO.dictOf ho hf) (fun h' hm' hsb => ?_) (small_le hsz)
  obtain ⟨o', ho', hf'⟩ := DctO.of hm'
  exact h _ (S.upd hp rfl (fun b ob hb e => (hsb.2 b hb).trans e) ho' hf')
theorem dLen {kvs : List (Str × Value)} (S : St B r l s) (hm : Has B l d (DctO prog w kvs)) (hlo : mainGlobals < d) (hsz : kvs.length ≤ 1000) (h : ∀ t s', St B r l s' → Q (.int kvs.length t) s') : wpAny (model prog w) A (call (.builtin "len") [.ref d]) Q E s := by
  obtain ⟨o, ho, hf⟩ := hm.get S
  exact call_len_dict (knd := PySem.strKind prog w) (notMod hlo) (DctO.dictOf ho hf) (by omega) (h _ _ (S.tok _))
theorem dUpd0 {kvs : List (Str × Value)} {e : Addr} (S : St B r l s) (hm : (d, DctO prog w kvs) ∈ l) (he : Has B l e (DctO prog w [])) (hlo : mainGlobals < e) (hne : d ≠ e) (hsz : kvs.length ≤ 1000) (h : ∀ s', St B r l s' → Q .none s') :
    wpAny (model prog w) A (call (.builtin "dict.update") [.ref d, .ref e]) Q E s := by
  obtain ⟨o, ho, hf⟩ := S.get hm
  obtain ⟨o2, ho2, hf2⟩ := he.get S
  have hD := DctO.dictOf ho hf
  refine call_meetsIn PySem.F.slot_dict_update hD.typeIs PySem.F.entry_dict_update (PySem.F.args_dict_update_2 _ _) (meets_dict_update (PySem.strKind prog w) d e hne (notMod hlo))
    ⟨kvs, [], hD, DctO.dictOf ho2 hf2, small_le (by simpa using hsz), fun h' hmm _ hs => ?_⟩
  obtain ⟨o', ho', hf'⟩ := DctO.of hmm
  have S' : St B r l { s with heap := h' } := S.upd (Put.same hm) rfl (fun b ob hb e => (hs.2 b hb).trans e) ho' hf'
  exact h _ S'
end
-- L11
set_option maxRecDepth 10000
section
variable {prog : Program} {w : World} {A : Around} {E : Value → Shared → Prop} {s : Shared} {B : Addr → Option Obj} {r : Rest} {l l' : Led} {K : Frag} {env : Env} {L : Addr} {Q : Value → Shared → Prop}

theorem dct_new' (h : Heap) : DctO prog w [] emptyDict := by
  unfold DctO
  obtain ⟨o', ho', hf⟩ := Heap.dictOf_iff.mp (Heap.DictOf.new (knd := PySem.strKind prog w) h)
  have e : (h.push emptyDict).get? h.objs.size = some emptyDict := Heap.get?_push_size _ rfl
  have : some emptyDict = some o' := e.symm.trans ho'
  cases this
  exact hf
theorem dct_new {o : Obj} (h : o = emptyDict) : DctO prog w [] o := h ▸ dct_new' { objs := #[] }
theorem enterB {f : Addr} {oc : Value} {od : Option Addr} {osl : Array (Option Value)} {fd : FuncData} {body : List Stmt} {args : Args} {binds : Addr → List (Str × Value)} {n : Nat} {R : Result → Shared → Prop}
    (W : Wd K B) (S : St B r l s) (Rr : Rm A (n + 1)) (ho : K.lookup f = some ⟨oc, od, .func fd, osl⟩) (hcd : codeIn K fd.code fd.qualname = true) (hbody : fd.body = .stmts body)
    (hbind : ∀ (M : Model) (A : Around) (E : Value → Shared → Prop) (Q : List (Str × Value) → Shared → Prop) (s : Shared), K.In s.heap → Q (binds s.heap.objs.size) { s with heap := s.heap.push emptyDict } → wpAny M A (bindArgs fd args) Q E s)
    (hclo : fd.closure = []) (hg : fd.globals = mainGlobals) (hb : fd.builtins = builtinsNs) (hco : fd.scope.isCoroutine = false) (hgen : fd.scope.isGenerator = false) (hk : fd.scope.kind = .function)
    (hcell : ∀ x ∈ fd.scope.names, x.2 ≠ .cell) (hl : ∀ D, ((binds D).all fun y => fd.scope.names.lookup y.1 == some .local) = true)
    (h : ∀ env s₁ L D, EnvOk env L fd.scope [] → St B r ((L, FrO (binds D).reverse) :: (D, DctO prog w []) :: l) s₁ → Rm (A.deeper env) n →
      wpAny (model prog w) (A.deeper env) (execs body env) (fun f s' => R (.ok (.ret (match f with | .ret v => v | _ => .none))) s') (fun _ _ => False) s₁) :
    codeAny (model prog w) A (.call (.ref f) args) R s := by
  have O := S.over
  refine codeAny_call_function Rr.room (W.in O _ _ ho) rfl hco hgen hbody (codeRec_of (W.in O) hcd) ?_
  refine hbind _ _ _ _ _ (W.in O) ?_
  have S1 : St B r ((s.heap.objs.size, DctO prog w []) :: l) { s with heap := s.heap.push emptyDict, toks := s.toks } := S.push W rfl (dct_new rfl) s.toks
  refine wpAny_newFunctionEnv (s := { s with heap := s.heap.push emptyDict }) hcell (fun x hx => ?_) (fun h' hns hsb => ?_) hk
  · exact beq_iff_eq.mp (List.all_eq_true.mp (hl s.heap.objs.size) x hx)
  · have keep : ∀ b o, (s.heap.push emptyDict).get? b = some o → h'.get? b = some o := fun b o e => hsb.extBut b o (Nat.ne_of_lt (Heap.lt_size e)) (Heap.get?_push_of_some _ e)
    have S2 : St B r (((s.heap.push emptyDict).objs.size, FrO (binds s.heap.objs.size).reverse) :: (s.heap.objs.size, DctO prog w []) :: l) { s with heap := h', toks := s.toks + (binds s.heap.objs.size).length } :=
      S1.new (s' := { s with heap := h', toks := s.toks + (binds s.heap.objs.size).length }) ⟨rfl, keep⟩ ⟨heap_none _, W.glo S1.over, FrO.of_ns hns fun x v e => e⟩
    refine ⟨W.nolimit S2.over, codeAny_func ?_⟩
    refine wpAny_mono (h (newEnv fd.scope (s.heap.push emptyDict).objs.size fd.globals fd.closure (fd.qualname ++ ".<locals>.") (some f) fd.code none fd.builtins) _ _ _ ⟨rfl, hg, hb, rfl, hclo, hk⟩ S2 (Rr.deeper _)) (fun _ _ q => q) fun _ _ q => q.elim

theorem dNew0 (S : St B r l s) (W : Wd K B) (h : ∀ d s', St B r ((d, DctO prog w []) :: l) s' → Q (.ref d) s') : wpAny (model prog w) A (call (.type "dict") []) Q E s := by
  have hct : checkTypeCall "dict" ⟨[], []⟩ = pure () := by kernel_rfl
  have hnc : checkBuiltinCall "dict.__new__" ⟨[.type "dict"], []⟩ = pure () := by kernel_rfl
  have hcode : ∀ {A : Around} {Q₁ : Value → Shared → Prop} {E : Value → Shared → Prop} {s : Shared}, Q₁ (.ref s.heap.objs.size) { s with heap := s.heap.push { cls := .type "dict", data := .dict #[] } } →
      codeAny (model prog w) A (.call (.builtin "dict.__new__") ⟨[.type "dict"], []⟩) (wants Q₁ E) s := by
    intro A Q₁ E s h
    refine codeAny_call_builtin F.kt_plain_dict_new F.kt_entry_dict_new (wpAny_of_eq hnc ?_)
    have hsub := F.kt_sub_dict
    have hmro := F.kt_mro_dict
    obtain ⟨hp, g, d, tk, os⟩ := s
    unfold Builtin.«dict.__new__»
    wp_walk
    exact h
  have hargs : ∀ d, argsOk "dict.__init__" ⟨[d], []⟩ := by intro d; unfold argsOk; kernel_rfl
  refine callType_codes (Q₁ := fun obj s₁ => obj = .ref s.heap.objs.size ∧ s₁ = { s with heap := s.heap.push { cls := .type "dict", data := .dict #[] } }) F.kt_called_dict hct F.entry_dict_init (hcode ⟨rfl, rfl⟩) ?_
  rintro obj s₁ ⟨rfl, rfl⟩
  have hnew : (s.heap.push { cls := .type "dict", data := .dict #[] }).DictOf (PySem.strKind prog w) s.heap.objs.size [] := Heap.DictOf.new s.heap
  refine ⟨hnew.typeIs, hargs _, ?_⟩
  unfold Builtin.«dict.__init__»
  refine wpAny_bind ?_
  unfold Builtin.Dict.selfAndRest
  refine wpAny_bind (wpAny_notOrdered_dict hnew.typeIs ?_)
  show wpAny _ _ (pure (s.heap.objs.size, [])) _ _ _
  refine wpAny_pure ?_
  have S1 := S.push (P := DctO prog w []) W rfl (dct_new rfl) s.toks
  first
    | exact wpAny_pure ⟨rfl, h _ _ S1⟩
    | exact wpAny_bind (wpAny_pure (wpAny_pure ⟨rfl, h _ _ S1⟩))
theorem Rm.under {c : Code} {n : Nat} (R : Rm A (n + 1)) (hw : c.weight ≤ 1) (hu : c.cUnits ≤ 10) : Rm (A.under c) n := by
  refine ⟨R.handled, ?_, ?_⟩
  · show A.depth + c.weight + n < 900
    have := R.depth
    omega
  · show A.units + c.cUnits + 10 * n < 9000
    have := R.units
    omega
/-- a class of the text is called -/
theorem makeC {C fI : Addr} {n : Nat} (W : Wd K B) (S : St B r l s) (R : Rm A (n + 1)) (hm : makesIn K C = true) (hi : findIn K (.ref C) "__init__" = some (some (.ref fI))) (hf : typeIn K (.ref fI) = some (.type "function"))
    (h : ∀ A' x dx s', Rm A' n → St B r ((x, InsO C dx) :: (dx, NsX fun _ => none) :: l) s' → codeAny (model prog w) A' (.call (.ref fI) ⟨[.ref x], []⟩) (InitBack x (fun r s' => match r with | .ok (.ret v) => Q v s' | .ok _ => False | .error e => E e s')) s') :
    wpAny (model prog w) A (call (.ref C) []) Q E s := by
  have X := W.in S.over
  have S1 : St B r ((s.heap.objs.size, NsX fun _ => none) :: l) { s with heap := s.heap.push emptyDict, toks := s.toks } := S.push W rfl (by
    unfold NsX
    refine ⟨#[], _, rfl, fun e he => ?_, ?_, fun name => rfl⟩
    · simp at he
    · unfold UniqKeys; simp) s.toks
  have S2 := S1.push (o := instObj C s.heap.objs.size) (P := InsO C s.heap.objs.size) W rfl (by unfold InsO; rfl) s.toks
  obtain ⟨hh, g, d, t, os⟩ := s
  refine wpAny_call (codeAny_mono (make_core (rest := []) (kw := []) (makes_of X hm) (looks_findIn X hi) (fun self => bind_fn X self hf) (.inl rfl) (R := fun r s' => match r with | .ok (.ret v) => Q v s' | .ok _ => False | .error e => E e s') ?_) fun r s' q => ?_)
  · have := h (A.under (.builtin "type.__call__" ⟨[.ref C], []⟩)) (hh.objs.size + 1) hh.objs.size ⟨(hh.push emptyDict).push (instObj C hh.objs.size), g, d, t, os⟩ (Rm.under R (Nat.le_of_ble_eq_true rfl) (Nat.le_of_ble_eq_true rfl)) (by
      have e : (hh.push emptyDict).objs.size = hh.objs.size + 1 := Heap.size_push ..
      have S3 := S2
      dsimp only at S3
      rw [e] at S3
      exact S3)
    exact this
  · rcases r with e | (v | _ | _ | _) <;> exact q
theorem gmFn {C x dx f : Addr} {m : Str → Option Value} {name : Str} {pl : Sem Bool} {Q : Value × List Value → Shared → Prop} (W : Wd K B) (S : St B r l s) (hx : Has B l x (InsO C dx)) (hd : Has B l dx (NsX m)) (hga : findIn K (.ref C) "__getattribute__" = some (some (.builtin "object.__getattribute__"))) (hk : findIn K (.ref C) "__getattr__" = some none)
    (hf : findIn K (.ref C) name = some (some (.ref f))) (ht : typeIn K (.ref f) = some (.type "function")) (hn : m name = none) (h : Q (.ref f, [.ref x]) s) : wpAny (model prog w) A (getMethod (.ref x) name pl) Q E s := by
  obtain ⟨ox, od, I, hfd, -, -⟩ := instAt S hx hd
  refine method_fn (W.in S.over) I hga hk hf ht ?_ h
  unfold shadowIn
  dsimp only
  rw [hfd.look, hn]
  rfl
theorem typeOf_dict {M : Model} {h : Heap} : Looks M h (typeOf (.type "dict")) (.type "type") := Looks.of_pure (by first | rfl | kernel_rfl)
theorem special_dict {M : Model} {h : Heap} : Looks M h (specialOf (.type "dict") "__get__") none := typeOf_dict.andThen (Looks.of_pure (by rw [typeLookup_type, builtinLookup_eq_fast]; kernel_rfl))
theorem find_dict {M : Model} {h : Heap} {C x dx : Addr} {ox od : Obj} {name : Str} {cd : ClassData} (X : K.In h) (I : InstAt h x ox C (some od)) (hc : clsIn K C = some cd) (hh : cd.hasDict = true) (hf : findIn K (.ref C) name = some (some (.type "dict"))) (hl : lookIn name od = some none) (hcop : copiedNames.contains name = false) :
    Looks M h (Builtin.ObjectAttr.find (.ref x) (.ref C) name) (.value (.type "dict")) := by
  have hown : PySem.W.ownOf cd (some od) name = some none := by
    unfold PySem.W.ownOf
    rw [if_pos hh]
    exact hl
  have G : Looks M h (Builtin.ObjectAttr.copiedAttributeGuard name (.ref x)) () := by
    unfold Builtin.ObjectAttr.copiedAttributeGuard
    dsimp only
    split
    · rename_i q2
      have q2 : copiedNames.contains name = true := q2
      rw [hcop] at q2; cases q2
    · exact .now
  refine (looks_findIn X hf).andThen ((show Looks M h (Builtin.ObjectAttr.getOf (some (.type "dict"))) none from special_dict).andThen ?_)
  refine Looks.now.andThen ?_
  refine (looks_own X I hc hown).andThen ?_
  refine G.andThen ?_
  exact Looks.tag ((Looks.of_pure (handedOut_of rfl)).andThen .now)
theorem getA_dict {C x dx : Addr} {m : Str → Option Value} {name : Str} {cd : ClassData} {expr : Bool} (W : Wd K B) (S : St B r l s) (hx : Has B l x (InsO C dx)) (hd : Has B l dx (NsX m)) (hga : findIn K (.ref C) "__getattribute__" = some (some (.builtin "object.__getattribute__")))
    (hc : clsIn K C = some cd) (hh : cd.hasDict = true) (hf : findIn K (.ref C) name = some (some (.type "dict"))) (hv : m name = none) (hcop : copiedNames.contains name = false)
    (h : ∀ s', St B r l s' → Q (.type "dict") s') : wpAny (model prog w) A (getAttr (.ref x) name expr) Q E s := by
  obtain ⟨ox, od, I, hfd, -, -⟩ := instAt S hx hd
  have X := W.in S.over
  refine get_open X I hga ?_
  have S' := S.tok (s.toks + 1)
  obtain ⟨hh', g, d, t, os⟩ := s
  have L0 := I.type (M := model prog w)
  have L1 := find_dict (M := model prog w) (dx := dx) X I hc hh hf (by rw [hfd.look, hv]) hcop
  refine wpAny_bind (wpAny_pure (wpAny_bind (L0.at (wpAny_bind (L1.at ?_)))))
  refine wpAny_pure ?_
  show wpAny _ _ (handedOut (.type "dict")) _ _ _
  rw [handedOut_of rfl]; exact wpAny_pure (h _ S')
/-- a factory kept in the class: dict -/
theorem factory {C x dx : Addr} {m : Str → Option Value} {name : Str} {pos : Pos} {cd : ClassData} (W : Wd K B) (S : St B r l s) (hx : Has B l x (InsO C dx)) (hd : Has B l dx (NsX m)) (hga : findIn K (.ref C) "__getattribute__" = some (some (.builtin "object.__getattribute__"))) (hk : findIn K (.ref C) "__getattr__" = some none)
    (hf : findIn K (.ref C) name = some (some (.type "dict"))) (hc : clsIn K C = some cd) (hh : cd.hasDict = true) (hv : m name = none) (hcop : copiedNames.contains name = false)
    (h : ∀ s', St B r l s' → wpAny (model prog w) A (call (.type "dict") []) Q E s') {pl : Sem Bool} :
    wpAny (model prog w) A (getMethod (.ref x) name pl) (fun fx s₂ => wpAny (model prog w) A (callWith pos fx.1 fx.2 (backTo pos (starEach [] env)) []) Q E s₂) E s := by
  have u : wpAny (model prog w) A (do return (← getAttr (.ref x) name, ([] : List Value))) (fun fx s₂ => wpAny (model prog w) A (callWith pos fx.1 fx.2 (backTo pos (starEach [] env)) []) Q E s₂) E s :=
    wpAny_bind (getA_dict W S hx hd hga hc hh hf hv hcop fun s' S' => wpAny_pure (PyProof.Rows.callWith_type0 (h s' S')))
  obtain ⟨ox, od, I, hfd, -, -⟩ := instAt S hx hd
  have X := W.in S.over
  have hcan := PySem.F.canon_object_ga
  unfold getMethod specialOf
  refine wpAny_bind (wpAny_bind (I.type.here ((looks_findIn X hga).here ?_)))
  dsimp only
  rw [hcan, if_neg (by decide)]
  refine wpAny_bind (wpAny_bind (I.type.here ((looks_findIn X hk).here ?_)))
  refine wpAny_bind (wpAny_bind (I.type.here ((looks_findIn X hf).here ?_)))
  refine wpAny_bind (typeOf_dict.here ?_)
  rw [if_pos (by decide)]
  exact u
theorem updCall {o e1 : PySem.Expr} {apos pos : Pos} {d e : Addr} (hline : (apos.endLine == pos.line) = true) (htrees : backTo pos (starEach [e1] env) = [(false, eval e1 env)]) (hbase : attributeBase o "update" env (eval o env) = eval o env)
    (h : wpAny (model prog w) A (eval o env) (fun ov s₁ => ∃ B r l kvs, ov = .ref d ∧ St B r l s₁ ∧ (d, DctO prog w kvs) ∈ l ∧ kvs.length ≤ 1000 ∧
      wpAny (model prog w) A (eval e1 env) (fun v s₂ => v = .ref e ∧ St B r l s₂ ∧ Has B l e (DctO prog w []) ∧ mainGlobals < e ∧ d ≠ e ∧ ∀ s', St B r l s' → Q .none s') E s₁) E s) :
    wpAny (model prog w) A (eval (.Call (.Attribute o "update" apos) [e1] [] pos) env) Q E s := by
  refine wpAny_Call_method1_late (name := "update") hbase hline htrees (wpAny_mono h (fun ov s₁ h₁ => ?_) fun _ _ q => q)
  obtain ⟨B, r, l, kvs, rfl, S, hm, hk, h₁⟩ := h₁
  obtain ⟨ob, ho, hf⟩ := S.get hm
  have hD := DctO.dictOf ho hf
  refine ⟨"dict", _, PySem.F.plainAttrs_dict, PySem.F.slot_dict_update, PySem.F.type_dict_update, hD.mapOf.typeIs, hD.mapOf.noDict, ?_⟩
  refine Calls.callWith_builtin rfl (Calls.evalArgs_plain (Calls.spliced_cons (wpAny_mono h₁ (fun v s₂ h₂ => Calls.spliced_nil ?_) fun _ _ q => q)))
  obtain ⟨rfl, S2, he, hlo, hne, hQ⟩ := h₂
  exact dUpd0 S2 hm he hlo hne hk hQ
end
-- F8
set_option maxRecDepth 100000
local macro_rules | `(tactic| kd_all) => `(tactic| (refine plainObj_wpAny_Assign_Attribute (MethodCall_ ?_); kxs_still; (refine' factory ‹Wd _ _› ‹St _ _ _ _› (Has.mem (by kcj_m)) (Has.mem (by kcj_m)) ?f1 ?f2 ?f3 ?f4 ?f5 ?f6 ?f7 fun _ _ => dNew0 ‹St _ _ _ _› ‹Wd _ _› fun _ _ _ => ?_); (case f1 => k_is); (case f2 => k_is); (case f3 => k_is); (case f4 => k_is); (case f5 => exact rfl); (case f6 => exact rfl); (case f7 => decide +kernel)))
local macro_rules | `(tactic| kd_facts) => `(tactic| ((case p1 => kcf_m); (case p2 => k_is); (case p3 => k_is); (case p4 => k_is); (case p5 => k_is); (case p6 => exact rfl)))
def gNames (dg dn da : Addr) : Str → Option Value := fun y => if y = "_adj" then some (.ref da) else if y = "_node" then some (.ref dn) else if y = "graph" then some (.ref dg) else none
set_option maxHeartbeats 1600000 in
theorem t_Graph {prog : Program} {w : World} {A : Around} {E : Value → Shared → Prop} {s : Shared} {B : Addr → Option Obj} {r : Rest} {l : Led} {Q : Value → Shared → Prop}
    (W : Wd (Mine.hd.heap_39 w.params) B) (S : St B r l s) (R : Rm A 20)
    (h : ∀ x dx dg dn da s', St B r ((x, InsO 626 dx) :: (dx, NsX (gNames dg dn da)) :: (dn, DctO prog w []) :: (da, DctO prog w []) :: l) s' → Q (.ref x) s') : wpAny (model prog w) A (call (.ref 626) []) Q E s := by
  refine' makeC W S (R.le (m := 19 + 1) (by omega)) ?a ?b ?c ?_
  case a => k_is
  case b => k_is
  case c => k_is
  intro A' x dx s' R S
  refine' enterB (binds := fun D => [("self", .ref x), ("incoming_graph_data", .none), ("attr", .ref D)]) W S (R.le (m := 10 + 1) (by omega)) ?ho ?hcd ?h1 ?h2 ?h3 ?h4 ?h5 ?h6 ?h7 ?h8 ?h9 ?h10 ?_
  case ho => k_is
  case hcd => k_is
  case h1 => exact rfl
  case h2 =>
    intro M A E Q s X hq
    have hx : ∀ {o : Obj}, (Mine.hd.heap_39 w.params).lookup 424 = some o → s.heap.get? 424 = some o := fun e => X _ _ e
    show wpAny M A (seqItems? (.ref 424) >>= _) Q E s
    refine wpAny_bind (wpAny_seqItems (hx (by k_is)) rfl ?_)
    show wpAny M A (Sem.alloc emptyDict fun d => pure ([(Str.ofString "self", Value.ref x), (Str.ofString "incoming_graph_data", Value.none), (Str.ofString "attr", Value.ref d)] : List (Str × Value))) Q E s
    exact nd_alloc (wpAny_pure hq)
  case h3 => exact rfl
  case h4 => exact rfl
  case h5 => exact rfl
  case h6 => exact rfl
  case h7 => exact rfl
  case h8 => exact rfl
  case h9 => decide +kernel
  case h10 => intro D; exact rfl
  intro env s₁ L D e S R
  dsimp only at e
  replace S : St B r ((L, FrO [("attr", .ref D), ("incoming_graph_data", .none), ("self", .ref x)]) :: (D, DctO prog w []) :: (x, InsO 626 dx) :: (dx, NsX fun _ => none) :: l) s₁ := S
  -- self.graph = self.graph_attr_dict_factory()
  kxs_still
  kd_all
  rename_i dg s2 S2
  kxs_still
  refine' setA Within.nil (by decide) W S2 (Has.mem (by kcj_m)) ?p1 ?p2 ?p3 ?p4 ?p5 ?p6 fun s3 S => ?_
  kd_facts
  kxs_still
  kd_all
  rename_i dn s4 S4
  kxs_still
  refine' setA (Within.cons "graph" (.ref dg) Within.nil) (by decide) W S4 (Has.mem (by kcj_m)) ?p1 ?p2 ?p3 ?p4 ?p5 ?p6 fun s5 S => ?_
  kd_facts
  kxs_still
  kd_all
  rename_i da s6 S6
  kxs_still
  refine' setA (Within.cons "_node" (.ref dn) (Within.cons "graph" (.ref dg) Within.nil)) (by decide) W S6 (Has.mem (by kcj_m)) ?p1 ?p2 ?p3 ?p4 ?p5 ?p6 fun s7 S => ?_
  kd_facts
  replace S : St B r ((da, DctO prog w []) :: (dn, DctO prog w []) :: (dg, DctO prog w []) :: (L, FrO [("attr", .ref D), ("incoming_graph_data", .none), ("self", .ref x)]) :: (D, DctO prog w []) :: (x, InsO 626 dx) :: (dx, NsX (gNames dg dn da)) :: l) s7 := S
  repeat kxs_still
  refine PySem.isNot_none ?_
  repeat kxs_still
  rw [if_neg (show ¬ ((!(Value.none == Value.none)) = true) from Bool.false_ne_true)]
  repeat kxs_still
  refine wpAny_Expr (updCall (d := dg) (e := D) rfl rfl rfl (Attribute_any_ ?_)) (notInter e) rfl
  kxs_still
  refine' getA_own W ‹St _ _ _ _› (Has.mem (by kcj_m)) (Has.mem (by kcj_m)) ?q1 ?q2 ?q3 ?q4 ?q5 ?q6 fun s8 S => ?_
  case q1 => k_is
  case q2 => k_is
  case q3 => exact rfl
  case q4 => k_is
  case q5 => exact rfl
  case q6 => exact rfl
  refine ⟨B, r, _, [], rfl, S, by kcj_m, by simp, ?_⟩
  kxs_still
  have hlo := S.lo (D, DctO prog w []) (by kcj_m)
  have hne : dg ≠ D := by
    have := S.nodup
    simp only [List.map_cons, List.nodup_cons, List.mem_cons, not_or] at this
    exact this.2.2.1.2.1
  refine ⟨rfl, S, Has.mem (by kcj_m), hlo, hne, fun s9 S => ?_⟩
  repeat kxs_still
  refine ⟨rfl, h x dx dg dn da _ ?_⟩
  refine St.perm (l := (x, InsO 626 dx) :: (dx, NsX (gNames dg dn da)) :: (dn, DctO prog w []) :: (da, DctO prog w []) :: l) ?_ (List.Perm.refl _)
  have S' := S.sub (l' := (da, DctO prog w []) :: (dn, DctO prog w []) :: (x, InsO 626 dx) :: (dx, NsX (gNames dg dn da)) :: l) (.cons_cons _ (.cons_cons _ (.cons _ (.cons _ (.cons _ (.refl _))))))
  refine S'.perm ?_
  have p1 : ((x, InsO 626 dx) :: (dx, NsX (gNames dg dn da)) :: (dn, DctO prog w []) :: (da, DctO prog w []) :: l).Perm ((dn, DctO prog w []) :: (x, InsO 626 dx) :: (dx, NsX (gNames dg dn da)) :: (da, DctO prog w []) :: l) := List.perm_middle (l₁ := [_, _])
  have p2 : ((dn, DctO prog w []) :: (x, InsO 626 dx) :: (dx, NsX (gNames dg dn da)) :: (da, DctO prog w []) :: l).Perm ((da, DctO prog w []) :: (dn, DctO prog w []) :: (x, InsO 626 dx) :: (dx, NsX (gNames dg dn da)) :: l) := List.perm_middle (l₁ := [_, _, _])
  exact p1.trans p2
-- F9
set_option maxRecDepth 100000
local macro_rules | `(tactic| kd_adr) => `(tactic| ((refine' getA_own ‹Wd _ _› ‹St _ _ _ _› (Has.mem (by kcj_m)) (Has.mem (by kcj_m)) ?q1 ?q2 ?q3 ?q4 ?q5 ?q6 fun _ _ => ?_); (case q1 => k_is); (case q2 => k_is); (case q3 => exact rfl); (case q4 => k_is); (case q5 => exact rfl); (case q6 => exact rfl)))
local macro_rules | `(tactic| kd_subs) => `(tactic| ((refine' factory ‹Wd _ _› ‹St _ _ _ _› (Has.mem (by kcj_m)) (Has.mem (by kcj_m)) ?f1 ?f2 ?f3 ?f4 ?f5 ?f6 ?f7 fun _ _ => dNew0 ‹St _ _ _ _› ‹Wd _ _› fun _ _ _ => ?_); (case f1 => k_is); (case f2 => k_is); (case f3 => k_is); (case f4 => k_is); (case f5 => exact rfl); (case f6 => exact rfl); (case f7 => decide +kernel)))
theorem valueAt_none {kvs : List (Str × Value)} {k : Str} (h : k ∉ kvs.map (·.1)) : valueAt kvs k = none := by
  unfold valueAt
  rw [List.find?_eq_none.mpr]
  · rfl
  · intro p hp e
    exact h (List.mem_map.mpr ⟨p, hp, by simpa using e⟩)
theorem stored_new {kvs : List (Str × Value)} {k : Str} {v : Value} (h : k ∉ kvs.map (·.1)) : stored kvs k v = kvs ++ [(k, v)] := by
  unfold stored
  rw [if_neg]
  intro e
  obtain ⟨p, hp, e⟩ := List.any_eq_true.mp e
  exact h (List.mem_map.mpr ⟨p, hp, by simpa using e⟩)
theorem valueAt_last {kvs : List (Str × Value)} {k : Str} {v : Value} (h : k ∉ kvs.map (·.1)) : valueAt (kvs ++ [(k, v)]) k = some v := by
  unfold valueAt
  rw [List.find?_append, List.find?_eq_none.mpr]
  · simp
  · intro p hp e
    exact h (List.mem_map.mpr ⟨p, hp, by simpa using e⟩)
theorem dTail {prog : Program} {w : World} {A : Around} {E : Value → Shared → Prop} {s : Shared} {B : Addr → Option Obj} {r : Rest} {l : Led} {d : Addr} {Q : Value → Shared → Prop} {value slice : PySem.Expr} {kvs : List (Str × Value)} {k : Str} {t : Tok} {v : Value} (S : St B r l s) (hm : Has B l d (DctO prog w kvs)) (hv : valueAt kvs k = some v) (h : ∀ s', St B r l s' → Q v s')
    (hs : subscripted slice false (.ref d) (.str k t) = operate [.ref d, .str k t] (getItem (.ref d) (.str k t)) := by with_unfolding_all rfl) : wpAny (model prog w) A (subscriptTail value slice (.ref d) (.str k t)) Q E s := by
  obtain ⟨o, ho, hf⟩ := hm.get S
  exact tail_any (DctO.dictOf ho hf).typeIs slot_dict_getitem.lookup (dGet S hm hv h) hs
set_option maxHeartbeats 1600000 in
theorem t_addNodes {prog : Program} {w : World} {A : Around} {E : Value → Shared → Prop} {s : Shared} {B : Addr → Option Obj} {r : Rest} {l : Led} {x dx dg dn da a : Addr} {vs : List Value} {ws : List W} {Q : Value → Shared → Prop}
    (W : Wd (Mine.hd.heap_39 w.params) B) (S : St B r ((x, InsO 626 dx) :: (dx, NsX (gNames dg dn da)) :: (dn, DctO prog w []) :: (da, DctO prog w []) :: l) s) (R : Rm A 20)
    (ha : (a, LstO vs) ∈ l) (hv : StrsAre vs (ws.map toS)) (hn : ws.Nodup) (hl : ws.length ≤ 64)
    (h : ∀ kvs s', kvs.map (·.1) = ws.map toS → St B r ((x, InsO 626 dx) :: (dx, NsX (gNames dg dn da)) :: (dn, DctO prog w kvs) :: l) s' → Q .none s') : wpAny (model prog w) A (call (.ref 483) [.ref x, .ref a]) Q E s := by
  refine wpAny_call ?_
  refine' enterB (binds := fun D => [("self", .ref x), ("nodes_for_adding", .ref a), ("attr", .ref D)]) W S (R.le (m := 10 + 1) (by omega)) ?ho ?hcd ?h1 ?h2 ?h3 ?h4 ?h5 ?h6 ?h7 ?h8 ?h9 ?h10 ?_
  case ho => k_is
  case hcd => k_is
  case h1 => exact rfl
  case h2 =>
    intro M A E Q s X hq
    show wpAny M A (Sem.alloc emptyDict fun d => pure ([(Str.ofString "self", Value.ref x), (Str.ofString "nodes_for_adding", Value.ref a), (Str.ofString "attr", Value.ref d)] : List (Str × Value))) Q E s
    exact nd_alloc (wpAny_pure hq)
  case h3 => exact rfl
  case h4 => exact rfl
  case h5 => exact rfl
  case h6 => exact rfl
  case h7 => exact rfl
  case h8 => exact rfl
  case h9 => decide +kernel
  case h10 => intro D; exact rfl
  intro env s₁ L D e S R
  dsimp only at e
  replace S : St B r ((L, FrO [("attr", .ref D), ("nodes_for_adding", .ref a), ("self", .ref x)]) :: (D, DctO prog w []) :: (x, InsO 626 dx) :: (dx, NsX (gNames dg dn da)) :: (dn, DctO prog w []) :: (da, DctO prog w []) :: l) s₁ := S
  have hvl := StrsAre.length hv
  rw [List.length_map] at hvl
  have HA : ∀ (p1 p2 p3 p4 p5 p6 : Addr × (Obj → Prop)), Has B (p1 :: p2 :: p3 :: p4 :: p5 :: p6 :: l) a (LsO vs) := fun p1 p2 p3 p4 p5 p6 => .memW (.tail _ (.tail _ (.tail _ (.tail _ (.tail _ (.tail _ ha)))))) LstO.ls
  repeat kxs_still
  refine forIter R.handled ?_
  kxs_still
  refine iterL S W (HA _ _ _ _ _ _) fun I s2 S => ?_
  refine ⟨_, _, _, _, _, _, _, _, _, fun i B₁ l₁ => B₁ = B ∧ ∃ kn ka, kn.map (·.1) = (ws.take i).map toS ∧ ka.map (·.1) = (ws.take i).map toS ∧ l₁ = (L, FrO [("attr", .ref D), ("nodes_for_adding", .ref a), ("self", .ref x)]) :: (D, DctO prog w []) :: (x, InsO 626 dx) :: (dx, NsX (gNames dg dn da)) :: (dn, DctO prog w kn) :: (da, DctO prog w ka) :: l,
    rfl, iterList _ a vs (small_le (by omega)), trivial, ?d1, ?d2, ⟨_, _, ⟨rfl, [], [], rfl, rfl, rfl⟩, S⟩, ?d5, ?d6⟩
  case d1 => rintro B₁ l₁ s' i ⟨rfl, -⟩ S'; exact W.glo S'.over
  case d2 => rintro i B₁ l₁ ⟨rfl, kn, ka, -, -, rfl⟩; exact HA _ _ _ _ _ _
  case d5 =>
    rintro i v B₁ l₁ s hi hv' ⟨eB, kn, ka, hkn, hka, rfl⟩ S
    rw [eB] at S
    clear eB
    obtain ⟨n', tn, rfl, hn'⟩ := StrsAre.item hv i v hv'
    rw [List.getElem?_map] at hn'
    obtain ⟨n, hni, rfl⟩ := Option.map_eq_some_iff.mp hn'
    have hi' : i < ws.length := by omega
    have hnew : n ∉ ws.take i := by
      intro hm
      have hd : n ∈ ws.drop i := by
        rw [List.drop_eq_getElem_cons hi']
        rw [List.getElem?_eq_getElem hi'] at hni
        rw [Option.some.inj hni]
        exact .head _
      have hn' : (ws.take i ++ ws.drop i).Nodup := by rw [List.take_append_drop]; exact hn
      exact (List.nodup_append.mp hn').2.2 _ hm _ hd rfl
    have hnk : toS n ∉ kn.map (·.1) := by rw [hkn]; intro hm; exact hnew (mem_toS.mp hm)
    have hna : toS n ∉ ka.map (·.1) := by rw [hka]; intro hm; exact hnew (mem_toS.mp hm)
    have hknl : kn.length ≤ 64 := by
      have := congrArg List.length hkn
      simp only [List.length_map, List.length_take] at this
      omega
    have hkal : ka.length ≤ 64 := by
      have := congrArg List.length hka
      simp only [List.length_map, List.length_take] at this
      omega
    dsimp only [List.cons_append, List.nil_append] at S
    repeat kxs_still
    refine wpAny_Try_except (wpAny_never ?_)
    repeat kxs_still
    refine Attribute_any_ ?_
    kxs_still
    kd_adr
    refine dNotIn ‹St _ _ _ _› (by kcj_m) fun s3 S => ?_
    rw [valueAt_none hnk]
    repeat kxs_still
    rw [if_pos (show ((!(none : Option Value).isSome) = true) from rfl)]
    repeat kxs_still
    rw [if_neg (show ¬ ((Value.str (toS n) tn == Value.none) = true) from Bool.false_ne_true)]
    repeat kxs_still
    refine wpAny_Assign_Subscript (MethodCall_ ?_)
    kxs_still
    kd_subs
    rename_i ia s4 S4
    refine Attribute_any_ ?_
    kxs_still
    kd_adr
    kxs_still
    refine dSet ‹St _ _ _ _› (by kcf_m) (by omega) fun s5 S5 => ?_
    rw [stored_new hna] at S5
    repeat kxs_still
    refine wpAny_Assign_Subscript (MethodCall_ ?_)
    kxs_still
    kd_subs
    rename_i ib s6 S6
    refine Attribute_any_ ?_
    kxs_still
    kd_adr
    kxs_still
    refine dSet ‹St _ _ _ _› (by kcf_m) (by omega) fun s7 S7 => ?_
    rw [stored_new hnk] at S7
    repeat kxs_still
    refine wpAny_Expr (updCall (d := ib) (e := D) rfl rfl rfl (PyProof.Rows.Subscript_ ?_)) (notInter e) rfl
    refine Attribute_any_ ?_
    kxs_still
    kd_adr
    kxs_still
    refine dTail ‹St _ _ _ _› (Has.mem (by kcj_m)) (valueAt_last hnk) fun s8 S8 => ?_
    refine ⟨B, r, _, [], rfl, S8, by kcj_m, by simp, ?_⟩
    kxs_still
    have hlo := S8.lo (D, DctO prog w []) (by kcj_m)
    have hne : ib ≠ D := by
      have := S8.nodup
      simp only [List.map_cons, List.nodup_cons, List.mem_cons, not_or] at this
      exact this.1.2.2.2.1
    refine ⟨rfl, S8, Has.mem (by kcj_m), hlo, hne, fun s9 S9 => ?_⟩
    repeat kxs_still
    have S10 := S9.sub (.cons _ (.cons _ (.refl _)))
    have e1 : (ws.take (i + 1)).map toS = (ws.take i).map toS ++ [toS n] := by rw [List.take_add_one, hni, List.map_append]; rfl
    refine ⟨_, _, ⟨rfl, kn ++ [(toS n, .ref ib)], ka ++ [(toS n, .ref ia)], by rw [List.map_append, hkn, e1]; rfl, by rw [List.map_append, hka, e1]; rfl, rfl⟩, S10.weaken (.tail .head) (FrO.less (by exact ⟨rfl, rfl, rfl, trivial⟩))⟩
  case d6 =>
    rintro B₁ l₁ s ⟨eB, kn, ka, hkn, hka, rfl⟩ S
    rw [eB] at S
    clear eB
    repeat kxs_still
    rw [List.take_of_length_le (by omega)] at hkn
    refine h kn _ hkn ?_
    exact S.sub (.cons _ (.cons _ (.cons_cons _ (.cons_cons _ (.cons_cons _ (.cons _ (.refl _)))))))
-- F10
set_option maxRecDepth 100000
set_option maxHeartbeats 1600000 in
theorem t_len {prog : Program} {w : World} {A : Around} {E : Value → Shared → Prop} {s : Shared} {x dx dg dn da : Addr} {ox od on' : Obj} {kvs : List (Str × Value)} {Q : Value → Shared → Prop}
    (W : Wd (Mine.hd.heap_39 w.params) s.heap.get?) (R : Rm A 8) (hx : s.heap.get? x = some ox) (hxo : InsO 626 dx ox) (hd : s.heap.get? dx = some od) (hdo : NsX (gNames dg dn da) od) (hn : s.heap.get? dn = some on') (hno : DctO prog w kvs on')
    (hlo : mainGlobals < dn) (hl : kvs.length ≤ 100) (h : ∀ t s', Ext s s' → Q (.int kvs.length t) s') : wpAny (model prog w) A (call (.builtin "len") [.ref x]) Q E s := by
  have HX : ∀ l : Led, Has s.heap.get? l x (InsO 626 dx) := fun l => .stay hx hxo
  have HD : ∀ l : Led, Has s.heap.get? l dx (NsX (gNames dg dn da)) := fun l => .stay hd hdo
  have HN : ∀ l : Led, Has s.heap.get? l dn (DctO prog w kvs) := fun l => .stay hn hno
  have S0 : St s.heap.get? (restOf s) [] s := ⟨rfl, overGet s, (fun _ h => nomatch h), (fun _ h => nomatch h), (fun _ h => nomatch h), List.nodup_nil⟩
  obtain ⟨ox', od', I, -, -, -⟩ := instAt S0 (HX _) (HD _)
  have body : ∀ {A : Around} {E : Value → Shared → Prop} {Q : Value → Shared → Prop}, Rm A 6 → (∀ t s', Ext s s' → Q (.int kvs.length t) s') → wpAny (model prog w) A (call (.ref 462) [.ref x]) Q E s := by
    intro A E Q R h
    kd_addB
    intro env s₁ L e S R
    dsimp only at e S
    replace S : St _ _ [(L, FrO [("self", .ref x)])] s₁ := S
    repeat kxs_still
    refine Attribute_any_ ?_
    kxs_still
    refine' getA_own W ‹St _ _ _ _› (HX _) (HD _) ?q1 ?q2 ?q3 ?q4 ?q5 ?q6 fun s2 S => ?_
    case q1 => k_is
    case q2 => k_is
    case q3 => exact rfl
    case q4 => k_is
    case q5 => exact rfl
    case q6 => exact rfl
    repeat kxs_still
    refine dLen S (HN _) hlo (by omega) fun t s3 S => ?_
    exact h t _ (S.ext1 (LeB.refl _))
  refine Calls.call_function_entry kind_len plain_len entry_len (args_len1 _) ?_
  unfold Builtin.«len»
  refine wpAny_bind (m := oneArg "len" _) (wpAny_pure ?_)
  refine wpAny_bind (m := callSpecial? (.ref x) (Str.ofString "__len__")) ?_
  refine' special_fn (W.in (overGet s)) I ?hs ?hf (body (R.in1.le (by omega)) fun t s' x => ?_)
  case hs => k_is
  case hf => k_is
  refine wpAny_bind (wpAny_holding (wpAny_pure ?_))
  refine wpAny_bind (wpAny_letGo ?_)
  show wpAny _ _ (if ((kvs.length : Nat) : Int) < 0 then _ else _) _ _ _
  rw [if_neg (by omega)]
  show wpAny _ _ (if ((kvs.length : Nat) : Int) ≥ 2 ^ 63 then _ else _) _ _ _
  rw [if_neg (by omega)]
  exact wpAny_bind (wpAny_mkInt (wpAny_pure ⟨_, rfl, h _ _ (x.trans (Ext.tok _ _))⟩))
-- G5
set_option maxRecDepth 10000
def GsAt (gs : GenState) (c : Code) (t : Sem Fin) (fs : List Frame) : Prop :=
  (gs = .fresh c ∧ t = denote table c ∧ fs = []) ∨ (∃ k₀ l₀ p₀ cl, gs = .suspended k₀ l₀ c p₀ fs cl ∧ t = k₀ (.send .none))
theorem St.back {B B' : Addr → Option Obj} {r r' : Rest} {l lx : Led} {s s' : Shared} {D : Addr} {P : Obj → Prop} (S : St B r l s) (S' : St B' r' ((D, P) :: lx) s') (hle : LeB s.heap.get? B') : St B r' ((D, P) :: l) s' := by
  have up : ∀ b o, s.heap.get? b = some o → s'.heap.get? b = some o := fun b o e => S'.over _ _ (hle _ _ e)
  have hD : s.heap.get? D = none := by
    cases q : s.heap.get? D with
    | none => rfl
    | some o =>
      have := S'.off _ (.head _)
      rw [show B' (D, P).1 = some o from hle _ _ q] at this
      cases this
  refine ⟨S'.rest, fun b o e => up _ _ (S.over _ _ e), fun p hp => ?_, fun p hp => ?_, fun p hp => ?_, ?_⟩
  · rcases List.mem_cons.mp hp with rfl | hp
    · exact S'.get (.head _)
    · obtain ⟨o, ho, h⟩ := S.led p hp
      exact ⟨o, up _ _ ho, h⟩
  · rcases List.mem_cons.mp hp with rfl | hp
    · cases q : B D with
      | none => rfl
      | some o => have := S.over _ _ q; rw [hD] at this; cases this
    · exact S.off p hp
  · rcases List.mem_cons.mp hp with rfl | hp
    · exact S'.lo _ (.head _)
    · exact S.lo p hp
  · rw [List.map_cons, List.nodup_cons]
    refine ⟨fun hm => ?_, S.nodup⟩
    obtain ⟨q, hq, e⟩ := List.mem_map.mp hm
    obtain ⟨o, ho, _⟩ := S.led q hq
    have e' : q.1 = D := e
    rw [e', hD] at ho; cases ho
theorem push_set {α : Type} (g : Array α) (a b : α) : (g.push a).setIfInBounds g.size b = g.push b := by
  apply Array.toList_inj.mp
  rw [Array.toList_setIfInBounds, Array.toList_push, Array.toList_push, List.set_append_right _ _ (by simp)]
  simp
section
variable {prog : Program} {w : World} {A : Around} {E : Value → Shared → Prop} {s : Shared} {K : Frag} {env : Env}
theorem genFor {target iter : PySem.Expr} {body : List Stmt} {pos : Pos} {g0 : Array GenState} {r2 : Drawn × OsState} {Q : Flow → Shared → Prop} (R : Rm A 65)
    (J : Addr → List Edge → (Addr → Option Obj) → Led → Prop)
    (h : wpAny (model prog w) A (eval iter env) (fun xv s₁ => ∃ a, xv = .ref a ∧ ∃ B lc lg es gs c t fs, J a es B lc ∧ St B (g0.push gs, r2) (lc ++ lg) s₁ ∧ GsAt gs c t fs ∧ Spec prog w es c t fs lg B) E s)
    (hJ : ∀ a es B lc, J a es B lc → (a, GenO g0.size) ∈ lc ∧ Wd K B ∧ ∀ B', LeB B B' → J a es B' lc)
    (turn : ∀ a e es B lc lg r T t1 t2 s, J a (e :: es) B lc → St B r ((T, TupO [.str (toS e.1) t1, .str (toS e.2) t2]) :: (lc ++ lg)) s → wpAny (model prog w) A (assign target env (.ref T)) (fun _ s => wpAny (model prog w) A (execs body env) (fun f s => match f with
        | .next | .cont => ∃ B' lc', LeB B B' ∧ J a es B' lc' ∧ St B' r (lc' ++ lg) s
        | _ => False) Never s) Never s)
    (done : ∀ a B lc s, J a [] B lc → St B (g0.push .finished, r2) lc s → Q .next s)
    (hs : ∀ x, foldedSetIterable iter env x = pure x := by intro _; rfl) :
    wpAny (model prog w) A (exec (.For target iter body [] pos) env) Q E s := by
  refine wpAny_For (wpAny_mono h (fun xv s₁ h₁ => ?_) fun _ _ e => e) hs
  obtain ⟨a, rfl, B, lc, lg, es, gs, c, t, fs, hj, S, hgs, hsp⟩ := h₁
  have hm := (hJ _ _ _ _ hj).1
  obtain ⟨o, ho, hf⟩ := S.get (List.mem_append_left _ hm)
  refine wpAny_pyIter_gen (GenO.is ho hf) ?_
  refine codeAny_forLoop_any (fun k s => ∃ es B lc lg gs c t fs, k = es.length ∧ J a es B lc ∧ St B (g0.push gs, r2) (lc ++ lg) s ∧ GsAt gs c t fs ∧ Spec prog w es c t fs lg B) ?_ es.length ⟨es, B, lc, lg, gs, c, t, fs, rfl, hj, S, hgs, hsp⟩
  rintro k s ⟨es, B, lc, lg, gs, c, t, fs, rfl, hj, S, hgs, hsp⟩
  refine wpAny_never ?_
  obtain ⟨hm, W, -⟩ := hJ _ _ _ _ hj
  obtain ⟨o, ho, hf⟩ := S.get (List.mem_append_left _ hm)
  have hsg : s.gens = g0.push gs := by have := S.rest; exact congrArg Prod.fst this
  have hat : s.gens[g0.size]? = some gs := by rw [hsg]; simp
  have Srun : St B (g0.push .running, r2) (lg ++ lc) (s.setGen g0.size .running) := by
    have S1 := (S.gens (g0.push .running)).perm (List.perm_append_comm (l₁ := lg) (l₂ := lc))
    have e : s.setGen g0.size .running = { s with gens := g0.push .running } := by
      unfold Shared.setGen
      rw [hsg, push_set]
    rw [e]; exact S1
  refine pyNextX R.handled (W.nolimit S.over) (R.room) (GenO.is ho hf) hat hgs ?_
  rw [Spec_iff] at hsp
  refine hsp A.in1 _ _ B _ lc (Rm.in1 (R.le (m := 60 + 1) (by omega))) (LeB.refl _) Srun ?_
  cases es with
  | nil =>
    intro B' s' hle S'
    refine ⟨rfl, fun h' hk => ?_⟩
    have hsg' : s'.gens = g0.push .running := congrArg Prod.fst S'.rest
    have S2 : St B' (g0.push .finished, r2) lc { s'.setGen g0.size .finished with heap := h' } := by
      have S1 := (S'.gens (g0.push .finished)).ext (s' := { s' with gens := g0.push .finished, heap := h' }) ⟨rfl, hk⟩
      have e : ({ s'.setGen g0.size .finished with heap := h' } : Shared) = { s' with gens := g0.push .finished, heap := h' } := by
        unfold Shared.setGen
        rw [hsg', push_set]
      rw [e]; exact S1
    exact wpAny_execs_nil (done a B' lc _ ((hJ _ _ _ _ hj).2.2 _ hle) S2)
  | cons e es =>
    intro B' T t1 t2 lg' s' ly ky c' p' fs' hle hsp' S' hgd
    have hj' := (hJ _ _ _ _ hj).2.2 _ hle
    have hsg' : s'.gens = g0.push .running := congrArg Prod.fst S'.rest
    have S2 : St B' (g0.push (.suspended ky ly c' p' fs' (false || fs'.any Frame.guarded)), r2) ((T, TupO [.str (toS e.1) t1, .str (toS e.2) t2]) :: (lc ++ lg')) (s'.setGen g0.size (.suspended ky ly c' p' fs' (false || fs'.any Frame.guarded))) := by
      have S1 := (S'.gens (g0.push (.suspended ky ly c' p' fs' (false || fs'.any Frame.guarded)))).perm (List.Perm.cons _ (List.perm_append_comm (l₁ := lc) (l₂ := lg')))
      have e : s'.setGen g0.size (.suspended ky ly c' p' fs' (false || fs'.any Frame.guarded)) = { s' with gens := g0.push (.suspended ky ly c' p' fs' (false || fs'.any Frame.guarded)) } := by
        unfold Shared.setGen
        rw [hsg', push_set]
      rw [e]; exact S1
    obtain ⟨o2, ho2, hf2⟩ := S2.get (.tail _ (List.mem_append_left _ (hJ _ _ _ _ hj').1))
    have hcls : o2.cls = .type "generator" := by unfold GenO at hf2; exact hf2.choose_spec.choose_spec.1
    refine letOwned_other ho2 hcls (by decide) ?_
    refine wpAny_mono (turn a e es B' lc lg' _ T t1 t2 _ hj' S2) (fun _ s₂ h₂ => wpAny_never (wpAny_mono h₂ (fun f s₃ h₃ => ?_) fun _ _ q => q.elim)) fun _ _ q => q.elim
    have fin : ∀ B3 lc', LeB B' B3 → J a es B3 lc' → St B3 (g0.push (.suspended ky ly c' p' fs' (false || fs'.any Frame.guarded)), r2) (lc' ++ lg') s₃ →
        ∃ m, m < (e :: es).length ∧ ∃ es B lc lg gs c t fs, m = es.length ∧ J a es B lc ∧ St B (g0.push gs, r2) (lc ++ lg) s₃ ∧ GsAt gs c t fs ∧ Spec prog w es c t fs lg B := by
      intro B3 lc' hle3 hj3 S3
      refine ⟨es.length, Nat.lt_succ_self _, es, B3, lc', lg', _, c', ky (.send .none), fs', rfl, hj3, S3, .inr ⟨ky, ly, p', _, rfl, rfl⟩, ?_⟩
      rw [Spec_iff] at hsp' ⊢
      exact fun A P s B r lc R hle4 S hp => hsp' A P s B r lc R (hle3.trans hle4) S hp
    cases f with
    | next => obtain ⟨B3, lc', h1, h2, h3⟩ := h₃; exact fin B3 lc' h1 h2 h3
    | cont => obtain ⟨B3, lc', h1, h2, h3⟩ := h₃; exact fin B3 lc' h1 h2 h3
    | brk => exact h₃.elim
    | ret v => exact h₃.elim
end
-- L12
set_option maxRecDepth 10000
def DKV (kv : Str × Value) (d : W × Int) : Prop := kv.1 = toS d.1 ∧ ∃ t, kv.2 = .int d.2 t
def DAre (kvs : List (Str × Value)) (D : List (W × Int)) : Prop := Two DKV kvs D
theorem DAre.none {kvs : List (Str × Value)} {D : List (W × Int)} (h : DAre kvs D) {p : W} (hp : p ∉ D.map (·.1)) : toS p ∉ kvs.map (·.1) := by
  unfold DAre at h
  induction h with
  | nil => simp
  | cons a _ ih =>
    simp only [List.map_cons, List.mem_cons, not_or] at hp ⊢
    refine ⟨fun e => hp.1 ?_, ih hp.2⟩
    rw [a.1] at e
    exact toS_inj e
theorem DAre.keys {kvs : List (Str × Value)} {D : List (W × Int)} (h : DAre kvs D) : kvs.map (·.1) = (D.map (·.1)).map toS := by
  unfold DAre at h
  induction h with
  | nil => rfl
  | cons a _ ih => simp only [List.map_cons, ih, a.1]
theorem DAre.some {kvs : List (Str × Value)} {D : List (W × Int)} (h : DAre kvs D) {p : W} {k : Int} (hp : D.lookup p = some k) : ∃ t, valueAt kvs (toS p) = some (.int k t) := by
  unfold DAre at h
  induction h with
  | nil => cases hp
  | cons a _ ih =>
    rename_i kv d _ _ _
    obtain ⟨d1, d2⟩ := d
    obtain ⟨k1, k2⟩ := kv
    obtain ⟨e, t, ev⟩ := a
    dsimp only at e ev
    subst e ev
    rw [List.lookup_cons] at hp
    by_cases q : p = d1
    · subst q
      rw [beq_self_eq_true] at hp
      cases hp
      exact ⟨t, by unfold valueAt; rw [List.find?_cons_of_pos (by simp)]; rfl⟩
    · rw [show (p == d1) = false from by simpa using q] at hp
      obtain ⟨t', ht⟩ := ih hp
      refine ⟨t', ?_⟩
      unfold valueAt at ht ⊢
      rw [List.find?_cons_of_neg (by simp only [decide_eq_true_eq]; exact fun e => q (toS_inj e).symm)]
      exact ht
theorem valueAt_isNone {kvs : List (Str × Value)} {D : List (W × Int)} (h : DAre kvs D) {p : W} (hp : D.lookup p = none) : valueAt kvs (toS p) = none := by
  refine valueAt_none (h.none fun hm => ?_)
  obtain ⟨d, hd, e⟩ := List.mem_map.mp hm
  rw [List.lookup_eq_none_iff] at hp
  have := hp d hd
  simp [e] at this
section
variable {prog : Program} {w : World} {A : Around} {E : Value → Shared → Prop} {s : Shared} {B : Addr → Option Obj} {r : Rest} {l l' : Led} {K : Frag} {env : Env} {L : Addr} {Q : Value → Shared → Prop} {d : Addr}
/-- {k: v} with a str key -/
theorem dDisp {kE vE : PySem.Expr} {pos : Pos} (W : Wd K B) (S : St B r l s)
    (h : ∀ d s', St B r ((d, DctO prog w []) :: l) s' → wpAny (model prog w) A (eval kE env) (fun kv s₁ => wpAny (model prog w) A (eval vE env) (fun vv s₂ => ∃ x t, kv = .str (toS x) t ∧ St B r ((d, DctO prog w []) :: l) s₂ ∧
      ∀ s₃, St B r ((d, DctO prog w [(toS x, vv)]) :: l) s₃ → Q (.ref d) s₃) E s₁) E s') :
    wpAny (model prog w) A (eval (.Dict [some kE] [vE] pos) env) Q E s := by
  have S1 : St B r ((s.heap.objs.size, DctO prog w []) :: l) { s with heap := s.heap.push emptyDict } := S.push W rfl (dct_new rfl) s.toks
  refine wpAny_Dict_pairs (knd := PySem.strKind prog w) (pairs := [(eval kE env, do let x ← eval vE env; standAt pos; pure x)]) (by with_unfolding_all rfl) (by simp) (by simp) ?_
  refine evalPairs_cons (wpAny_mono (h _ _ S1) (fun kv s₁ h₁ => ?_) fun _ _ x => x)
  refine wpAny_bind (wpAny_mono h₁ (fun vv s₂ h₂ => wpAny_bind (wpAny_standAt (wpAny_pure ?_))) fun _ _ x => x)
  obtain ⟨x, t, rfl, S2, hQ⟩ := h₂
  refine evalPairs_nil ?_
  obtain ⟨o, ho, hf⟩ := S2.get (.head _)
  refine display_done_str (by rfl) (by simp [strPairs]) (DctO.dictOf ho hf) fun h' hd hsb => ?_
  obtain ⟨o', ho', hf'⟩ := DctO.of hd
  exact hQ _ (S2.upd .head rfl (fun b ob hb e => (hsb.2 b hb).trans e) ho' hf')
theorem notInL {a : Addr} {vs : List Value} {ys : List W} {k : W} {t : Tok} (S : St B r l s) (hm : Has B l a (LsO vs)) (hi : StrsAre vs (ys.map toS)) (h : Q (.bool (decide (k ∉ ys))) s) : wpAny (model prog w) A (compareOp .NotIn (.str (toS k) t) (.ref a)) Q E s := by
  obtain ⟨o, ho, hf⟩ := hm.get S
  refine SeqInW.notIn_listW (isStrOf (toS k)) (fun y hy => eq_isStrOf (toS k) t hi y (by simpa using hy)) (LsO.isList ho hf) ?_
  rw [← Array.any_toList, show vs.toArray.toList = vs from rfl, any_isStrOf _ hi]
  have e : (!((ys.map toS).any (· == toS k))) = decide (k ∉ ys) := by
    by_cases hk : k ∈ ys
    · have : (ys.map toS).any (· == toS k) = true := List.any_eq_true.mpr ⟨toS k, mem_toS.mpr hk, by simp⟩
      simp [this, hk]
    · have : (ys.map toS).any (· == toS k) = false := by
        rw [List.any_eq_false]
        intro x hx e
        rw [beq_iff_eq] at e
        exact hk (mem_toS.mp (e ▸ hx))
      simp [this, hk]
  rw [e]; exact h
end
-- F11
set_option maxRecDepth 100000
theorem St.less {B B' : Addr → Option Obj} {r : Rest} {l : Led} {s : Shared} (S : St B' r l s) (h : LeB B B') : St B r l s :=
  ⟨S.rest, fun b o e => S.over _ _ (h _ _ e), S.led, fun p hp => (Option.eq_none_iff_forall_ne_some.mpr fun o q => by have := S.off p hp; rw [h _ _ q] at this; cases this), S.lo, S.nodup⟩
def foldD : List Edge → List (W × Int) → Option (List (W × Int))
  | [], D => some D
  | e :: es, D => match D.lookup e.1 with
    | none => none
    | some k => if (D.lookup e.2).isSome ∨ e.2 ∉ changed e.1 then none else foldD es (D ++ [(e.2, k + 1)])
set_option maxHeartbeats 1600000 in
theorem t_depths {prog : Program} {w : World} {A : Around} {E : Value → Shared → Prop} {s : Shared} {G : Addr} {src : W} {t : Tok} {dl : Value} {B0 : Addr → Option Obj} {r0 : Rest} {l0 : Led} {Q : Value → Shared → Prop} (n lim : Nat) (U : List W) (Df : List (W × Int))
    (W : Wd (Mine.hd.heap_39 w.params) B0) (S0 : St B0 r0 l0 s) (R : Rm A 90) (hdl : (dl = .none ∧ lim = n) ∨ ∃ u, dl = .int lim u)
    (HG : ∀ {A : Around} {E : Value → Shared → Prop} {s' : Shared} {Q : Value → Shared → Prop}, Over B0 s'.heap → Rm A 10 → (∀ t s'', Ext s' s'' → Q (.int n t) s'') → wpAny (model prog w) A (call (.builtin "len") [.ref G]) Q E s')
    (hUl : U.length ≤ 64) (hU6 : ∀ p ∈ U, p.length ≤ 6) (hUc : ∀ p ∈ U, ∀ c ∈ changed p, c ∈ U) (hsrc : src ∈ U)
    (hD : foldD (bfsE n lim src) [(src, 0)] = some Df) (hlen : (bfsE n lim src).length ≤ 100)
    (h : ∀ d kvs s', DAre kvs Df → St B0 (s.gens.push .finished, s.drawn, s.os) ((d, DctO prog w kvs) :: l0) s' → Q (.ref d) s') :
    wpAny (model prog w) A (call (.ref 671) [.ref G, .str (toS src) t, dl]) Q E s := by
  have S00 := S0
  have W00 := W
  replace W := W.at S0
  kd_addB
  intro env s₁ L e S R
  dsimp only at e S
  replace S : St _ _ [(L, FrO [("limit", dl), ("first", .str (toS src) t), ("G", .ref G)])] s₁ := S
  have S := S00.backs S (LeB.refl _)
  clear W
  have W := W00
  clear S0 W00
  dsimp only [List.cons_append, List.nil_append] at S
  kxs_still
  kxs_still
  refine dDisp W S fun dd s2 S => ?_
  repeat kxs_still
  refine ⟨src, t, rfl, ‹St _ _ _ _›, fun s3 S => ?_⟩
  repeat kxs_still
  rename_i t0 _ _ s4 S4
  refine genFor (K := Mine.hd.heap_39 w.params) (g0 := s.gens) (r2 := (s.drawn, s.os)) (Rm.le R (m := 65) (by omega))
    (fun a es B' lc => LeB B0 B' ∧ ∃ D kvs, foldD es D = some Df ∧ DAre kvs D ∧ D.length + es.length ≤ 200 ∧ (∀ x ∈ D, x.1 ∈ U) ∧
      lc = (dd, DctO prog w kvs) :: (a, GenO s.gens.size) :: (L, FrO [("depth", .ref dd), ("limit", dl), ("first", .str (toS src) t), ("G", .ref G)]) :: l0) ?_ ?_ ?_ ?_
  · repeat kxs_still
    have hr := S4.rest
    have hg : s4.gens = s.gens := congrArg Prod.fst hr
    have hdr : (s4.drawn, s4.os) = (s.drawn, s.os) := congrArg Prod.snd hr
    refine t_bfs (n := n) (lim := lim) (U := U) W S4 (R.le (by omega)) hdl HG hUl hU6 hUc hsrc fun body benv BL a lg s5 S5 hsp => ?_
    rw [hg] at S5
    refine ⟨a, rfl, B0, _, lg, _, _, _, _, _, ⟨LeB.refl _, [(src, 0)], _, hD, Two.one (R := DKV) (a := (toS src, Value.int 0 t0)) (b := (src, 0)) ⟨rfl, t0, rfl⟩, by simp only [List.length_cons, List.length_nil]; omega, by intro x hx; rw [List.mem_singleton.mp hx]; exact hsrc, rfl⟩, ?_, .inl ⟨rfl, rfl, rfl⟩, hsp⟩
    rw [hdr] at S5
    refine S5.perm (List.Perm.symm ?_)
    have p1 := List.perm_append_comm (l₁ := (a, GenO s.gens.size) :: lg) (l₂ := (dd, DctO prog w [(toS src, Value.int 0 t0)]) :: (L, FrO [("depth", .ref dd), ("limit", dl), ("first", .str (toS src) t), ("G", .ref G)]) :: l0)
    refine p1.trans ?_
    show List.Perm ((dd, _) :: ((L, _) :: l0 ++ (a, _) :: lg)) ((dd, _) :: ((a, _) :: ((L, _) :: l0 ++ lg)))
    exact (List.perm_middle).cons _
  · rintro a es B' lc ⟨hle, D, kvs, h1, h2, h3, h4, rfl⟩
    exact ⟨.tail _ (.head _), W.le hle, fun B'' x => ⟨hle.trans x, D, kvs, h1, h2, h3, h4, rfl⟩⟩
  · rintro a e1 es B' lc lg r T t1 t2 s5 ⟨hle, D, kvs, h1, h2, h3, h4, rfl⟩ S5
    have W' := W.le hle
    clear S4
    dsimp only [List.cons_append] at S5
    obtain ⟨k, hk, hn2, hc, h1'⟩ : ∃ k, D.lookup e1.1 = some k ∧ D.lookup e1.2 = none ∧ e1.2 ∈ changed e1.1 ∧ foldD es (D ++ [(e1.2, k + 1)]) = some Df := by
      unfold foldD at h1
      cases hk : D.lookup e1.1 with
      | none => rw [hk] at h1; cases h1
      | some k =>
        rw [hk] at h1
        dsimp only at h1
        by_cases hb : (D.lookup e1.2).isSome ∨ e1.2 ∉ changed e1.1
        · rw [if_pos hb] at h1; cases h1
        · rw [if_neg hb] at h1
          simp only [not_or, Decidable.not_not] at hb
          exact ⟨k, rfl, by cases q : D.lookup e1.2 with
            | none => rfl
            | some z => rw [q] at hb; exact absurd rfl hb.1, hb.2, h1⟩
    obtain ⟨tk, hvk⟩ := DAre.some h2 hk
    have hvn := valueAt_isNone h2 hn2
    have h1U : e1.1 ∈ U := by
      have := List.lookup_eq_some_iff.mp hk
      obtain ⟨x1, x2, e, -⟩ := this
      exact h4 (e1.1, k) (by rw [e]; simp)
    have hkl : kvs.length = D.length := Two.length h2
    repeat kxs_still
    refine dNotIn ‹St _ _ _ _› (by kcj_m) fun s6 S6 => ?_
    rw [hvk]
    repeat kxs_still
    rw [if_neg (show ¬ ((!(some (Value.int k tk)).isSome) = true) from Bool.false_ne_true)]
    repeat kxs_still
    refine dIn ‹St _ _ _ _› (by kcj_m) fun s7 S7 => ?_
    rw [hvn]
    repeat kxs_still
    rw [if_neg (show ¬ ((none : Option Value).isSome = true) from Bool.false_ne_true)]
    repeat kxs_still
    refine t_changed (W'.at ‹St _ _ _ _›) (R.le (by omega)) (hU6 _ h1U) fun ys D1 s8 hys x1 x2 => ?_
    have S8 := St.new ‹St _ _ _ _› x1 x2
    refine notInL S8 (Has.ls (by kcj_m)) hys ?_
    rw [decide_eq_false (by simpa using hc)]
    repeat kxs_still
    rw [if_neg Bool.false_ne_true]
    repeat kxs_still
    rw [if_neg Bool.false_ne_true]
    repeat kxs_still
    refine wpAny_Assign_Subscript ?_
    repeat kxs_still
    refine dTail ‹St _ _ _ _› (Has.mem (by kcj_m)) hvk fun s9 S9 => ?_
    repeat kxs_still
    refine dSet ‹St _ _ _ _› (by kcf_m) (by rw [List.length_cons] at h3; omega) fun s10 S10 => ?_
    rw [stored_new (h2.none (by
      intro hm
      obtain ⟨d, hd, e⟩ := List.mem_map.mp hm
      rw [List.lookup_eq_none_iff] at hn2
      have := hn2 d hd
      simp [e] at this))] at S10
    repeat kxs_still
    have S11 := (S10.sub (.cons _ (.cons _ (.refl _)))).weaken (.tail (.tail .head)) (FrO.less (mp' := [("depth", .ref dd), ("limit", dl), ("first", .str (toS src) t), ("G", .ref G)]) (by exact ⟨rfl, rfl, rfl, rfl, trivial⟩))
    refine ⟨B', _, LeB.refl _, ⟨hle, D ++ [(e1.2, k + 1)], _, h1', Two.append h2 (Two.one (R := DKV) (a := (toS e1.2, Value.int (k + 1) _)) (b := (e1.2, k + 1)) ⟨rfl, _, rfl⟩), ?_, ?_, rfl⟩, S11⟩
    · simp only [List.length_append, List.length_cons, List.length_nil] at h3 ⊢
      omega
    · intro x hx
      rcases List.mem_append.mp hx with hx | hx
      · exact h4 x hx
      · rw [List.mem_singleton.mp hx]; exact hUc _ h1U _ hc
  · rintro a B' lc s5 ⟨hle, D, kvs, h1, h2, h3, h4, rfl⟩ S5
    have W' := W.le hle
    clear S4
    repeat kxs_still
    cases h1
    refine h dd kvs _ h2 ?_
    exact (S5.sub (.cons_cons _ (.cons _ (.cons _ (.refl _))))).less hle
-- L13
set_option maxRecDepth 10000
theorem strs_same (xs ys : List W) : decide (xs.map toS = ys.map toS) = decide (xs = ys) := by
  have : xs.map toS = ys.map toS ↔ xs = ys := by
    constructor
    · intro h
      exact (List.map_inj_right (fun _ _ => toS_inj)).mp h
    · intro h; rw [h]
  exact decide_eq_decide.mpr this
theorem canLayAll0_strs : ∀ ns : List Str, (∀ n ∈ ns, PyData.strOk n = true) → PyData.canLayAll0 (ns.map PyData.str) = true
  | [], _ => by simp [PyData.canLayAll0]
  | n :: r, h => by simp [PyData.canLayAll0, PyData.canLay0, canLayAll0_strs r (fun x hx => h x (.tail _ hx)), h n (.head _)]
theorem depthAll_strs : ∀ ns : List Str, PyData.depthAll (ns.map PyData.str) ≤ 1
  | [] => by simp [PyData.depthAll]
  | n :: r => by
    have := depthAll_strs r
    simp only [List.map_cons, PyData.depthAll, PyData.depth]
    omega
theorem shaped_strs (ns : List Str) (hok : ∀ n ∈ ns, PyData.strOk n = true) : SeqAt.shaped (.list (ns.map PyData.str)) = true := by
  have h1 := depthAll_strs ns
  have h2 : PyData.depth (.list (ns.map PyData.str)) ≤ 64 := by simp only [PyData.depth]; omega
  show (PyData.canLay0 (.list (ns.map PyData.str)) && decide (PyData.depth (.list (ns.map PyData.str)) ≤ 64)) = true
  rw [Bool.and_eq_true]
  exact ⟨by simp only [PyData.canLay0]; exact canLayAll0_strs ns hok, decide_eq_true h2⟩
theorem noMix_strs : ∀ ns ms : List Str, SeqAt.noMixAll (ns.map PyData.str) (ms.map PyData.str) = true
  | [], [] => by simp [SeqAt.noMixAll]
  | [], _ :: _ => by simp [SeqAt.noMixAll]
  | _ :: _, [] => by simp [SeqAt.noMixAll]
  | _ :: r, _ :: q => by simp [SeqAt.noMixAll, SeqAt.noMix, noMix_strs r q]
theorem same_strs : ∀ ns ms : List Str, PySem.Spec.sameAll (ns.map PyData.str) (ms.map PyData.str) = decide (ns = ms)
  | [], [] => by simp [PySem.Spec.sameAll]
  | [], _ :: _ => by simp [PySem.Spec.sameAll]
  | _ :: _, [] => by simp [PySem.Spec.sameAll]
  | n :: r, k :: q => by
    simp only [List.map_cons, PySem.Spec.sameAll, PySem.Spec.same, same_strs r q]
    by_cases h : n = k <;> simp [h]
theorem strsAre_of : ∀ {vs : List Value} {ys : List Str}, vs.length = ys.length → (∀ (i : Nat) (v : Value), vs[i]? = some v → ∃ k t, v = .str k t ∧ ys[i]? = some k) → StrsAre vs ys
  | [], [], _, _ => .nil
  | v :: vs, y :: ys, hl, h => by
    obtain ⟨k, t, rfl, e⟩ := h 0 v rfl
    have e : some y = some k := e
    cases e
    exact .cons _ _ (strsAre_of (Nat.succ.inj hl) fun i v hv => h (i + 1) v hv)
  | [], _ :: _, hl, _ => by cases hl
  | _ :: _, [], hl, _ => by cases hl
theorem size_keep {h h' : Heap} (hk : ∀ b o, h.get? b = some o → h'.get? b = some o) {g : Addr} {o : Obj} (hg : h.get? g = some o) : h.objs.size ≤ h'.objs.size ∨ True := .inr trivial
section
variable {prog : Program} {w : World} {A : Around} {E : Value → Shared → Prop} {s : Shared} {B : Addr → Option Obj} {r : Rest} {l l' : Led} {K : Frag} {env : Env} {L : Addr} {Q : Value → Shared → Prop} {d a b : Addr} {vs us : List Value}

theorem sort_keep {D : Addr} {out : Array Value} {h' : Heap} {e : Nat} (S : St B r l s) (hk : ∀ b o, s.heap.get? b = some o → h'.get? b = some o) (hn : s.heap.get? D = none) (hlo : mainGlobals < D) (ho : h'.get? D = some (seqObj "list" out e)) {tk : Nat} :
    St B r ((D, LstO out.toList) :: l) { s with heap := h', toks := tk } :=
  S.new (s' := { s with heap := h', toks := tk }) ⟨rfl, hk⟩ ⟨hn, hlo, _, ho, by unfold LstO; exact ⟨e, rfl⟩⟩
theorem sortStrs {ys : List W} (W : Wd K B) (S : St B r l s) (hm : Has B l a (LsO vs)) (hs : StrsAre vs (ys.map toS)) (h64 : ys.length < 64)
    (h : ∀ D vs' ss' s', StrsAre vs' ss' → ss'.Perm (ys.map toS) → sortedS ss' = true → St B r ((D, LstO vs') :: l) s' → Q (.ref D) s') : wpAny (model prog w) A (call (.builtin "sorted") [.ref a]) Q E s := by
  obtain ⟨o, ho, hf⟩ := hm.get S
  have hl := StrsAre.length hs
  rw [List.length_map] at hl
  refine sorted_strs (LsO.isList ho hf) hs (by omega) fun out ss' h1 h2 h3 => ?_
  obtain ⟨e, he⟩ := sortedAll_at s.heap vs out
  exact h _ _ _ _ h1 h2 h3 (sort_keep (tk := s.toks) S (fun _ _ => sortedAll_old) (Heap.get?_none_of_le (Nat.le_succ _)) (Nat.lt_succ_of_lt (W.glo S.over)) he)
theorem sortInts {ys : List Int} (W : Wd K B) (S : St B r l s) (hm : Has B l a (LsO vs)) (hs : IntsAre vs ys) (h64 : ys.length < 64)
    (h : ∀ D vs' ss' s', IntsAre vs' ss' → ss'.Perm ys → ss'.Pairwise (· ≤ ·) → St B r ((D, LstO vs') :: l) s' → Q (.ref D) s') : wpAny (model prog w) A (call (.builtin "sorted") [.ref a]) Q E s := by
  obtain ⟨o, ho, hf⟩ := hm.get S
  have hl := IntsAre.length hs
  refine sorted_ints (LsO.isList ho hf) hs (by omega) fun out ss' h1 h2 h3 => ?_
  obtain ⟨e, he⟩ := sortedAll_at s.heap vs out
  exact h _ _ _ _ h1 h2 h3 (sort_keep (tk := s.toks) S (fun _ _ => sortedAll_old) (Heap.get?_none_of_le (Nat.le_succ _)) (Nat.lt_succ_of_lt (W.glo S.over)) he)
theorem neInts {ns ms : List Int} (S : St B r l s) (h1 : Has B l a (LsO vs)) (h2 : Has B l b (LsO us)) (i1 : IntsAre vs ns) (i2 : IntsAre us ms) (hu : A.units + 64 < cLine) (h : Q (.bool (!decide (ns = ms))) s) : wpAny (model prog w) A (compareOp .NotEq (.ref a) (.ref b)) Q E s := by
  obtain ⟨o1, ho1, hf1⟩ := h1.get S
  obtain ⟨o2, ho2, hf2⟩ := h2.get S
  exact ne_intsK (LsO.isList ho1 hf1) i1 (LsO.isList ho2 hf2) i2 hu h
theorem neStrs {ns ms : List Str} (S : St B r l s) (h1 : Has B l a (LsO vs)) (h2 : Has B l b (LsO us)) (i1 : StrsAre vs ns) (i2 : StrsAre us ms) (k1 : ∀ n ∈ ns, PyData.strOk n = true) (k2 : ∀ n ∈ ms, PyData.strOk n = true) (hu : A.units + 64 < cLine) (h : Q (.bool (!decide (ns = ms))) s) : wpAny (model prog w) A (compareOp .NotEq (.ref a) (.ref b)) Q E s := by
  obtain ⟨o1, ho1, hf1⟩ := h1.get S
  obtain ⟨o2, ho2, hf2⟩ := h2.get S
  have rd : ∀ {a : Addr} {vs : List Value} {ns : List Str} {o : Obj}, s.heap.get? a = some o → LsO vs o → StrsAre vs ns → Reads s.heap (.ref a) (.list (ns.map PyData.str)) [a] := by
    intro a vs ns o ho hf hi
    obtain ⟨o, ho, hc, n, hd⟩ := LsO.isList ho hf
    exact Reads.list ho hc hd (by simpa using StrsAre.reads s.heap hi)
  exact ne_dataH_same (rd ho1 hf1 i1) (rd ho2 hf2 i2) (shaped_strs ns k1) (shaped_strs ms k2) hu (by simp only [SeqAt.noMix]; exact noMix_strs ns ms) (by simp only [PySem.Spec.same]; rw [same_strs]; exact h)
theorem sortDict {kvs : List (Str × Value)} (W : Wd K B) (S : St B r l s) (hh : A.handled = none) (hm : Has B l d (DctO prog w kvs)) (hlo : mainGlobals < d) (h64 : kvs.length < 64)
    (h : ∀ D vs' ss' s', StrsAre vs' ss' → ss'.Perm (kvs.map (·.1)) → sortedS ss' = true → St B r ((D, LstO vs') :: l) s' → Q (.ref D) s') : wpAny (model prog w) A (call (.builtin "sorted") [.ref d]) Q E s := by
  obtain ⟨o, ho, hf⟩ := hm.get S
  obtain ⟨ep, hat⟩ := (DctO.dictOf ho hf).dictAt
  refine call_function_entry kind_sorted plain_sorted entry_sorted (args_sorted1 _) ?_
  unfold Builtin.«sorted»
  refine wpAny_bind (m := checkCount "sorted" 1 1 _) (wpAny_pure ?_)
  refine wpAny_bind (kdu_collect (A := A.in1) (kdl_dict (knd := PySem.strKind prog w) (kvs := kvs) (ep := ep) (notMod hlo)) hh hat (kdl_size (by omega)) fun h' tk acc hk hacc => ?_)
  have hl : acc.toList.length = kvs.length := by rw [Array.length_toList]; exact hacc.1
  have hS : StrsAre acc.toList (kvs.map (·.1)) := by
    refine strsAre_of (by rw [hl, List.length_map]) fun i v hi => ?_
    obtain ⟨k, x, hx, hk⟩ := hacc.2 i v (by rw [← Array.getElem?_toList]; exact hi)
    obtain ⟨t, rfl⟩ := Value.isStrOf_shape hk
    exact ⟨k, t, rfl, by rw [List.getElem?_map, hx]; rfl⟩
  refine wpAny_bind (wpAny_newList ?_ (by rw [hl]; exact kdl_size (by omega)))
  have hoL : (h'.push { cls := .type "list", data := .seq acc.toList.toArray }).get? h'.objs.size = some (seqObj "list" acc.toList.toArray 0) := Heap.get?_push_size _ rfl
  refine wpAny_bind (wpAny_holding (wpAny_call_entry slot_list_sort ⟨_, hoL, rfl⟩ entry_list_sort (list_sort_treeK strKind_oneLt hoL hS.keysOf (fun v₁ v₂ rest e => keyKind_strs (by rw [← e]; exact hS)) (by omega) fun st' hp hs => ⟨_, rfl, ?_⟩) (args_list_sort _)))
  obtain ⟨ss', h1, h2, h3⟩ := sorted_out_str hS hp hs
  obtain ⟨e, he⟩ := sortedHeap_at (out := (arrOf st').map (·.2)) hoL
  refine wpAny_pure ⟨_, rfl, h _ _ _ _ h1 h2 h3 (sort_keep S (fun b o hb => ?_) ?_ ?_ he)⟩
  · have hb' := hk b o hb
    rw [sortedHeap_old (Nat.ne_of_lt (Heap.lt_size hb')) (by rw [size_push']; exact Nat.lt_succ_of_lt (Heap.lt_size hb'))]
    exact Heap.get?_push_of_some _ hb'
  · cases q : s.heap.get? h'.objs.size with
    | none => rfl
    | some o => exact absurd (Heap.lt_size (hk _ _ q)) (Nat.lt_irrefl _)
  · exact W.glo (h := h') fun b o e => hk b o (S.over b o e)
theorem hitsD {ka kb : List (Str × Value)} {Da Db : List (W × Int)} (i1 : DAre ka Da) (i2 : DAre kb Db) (hd : ∀ x ∈ Da, Db.lookup x.1 = some x.2) : KeqHits A s kb ka true := by
  unfold DAre at i1
  induction i1 with
  | nil => exact .nil
  | cons a _ ih =>
    rename_i kv dd kvs' D' _
    obtain ⟨k, v⟩ := kv
    obtain ⟨e, t, ev⟩ := a
    dsimp only at e ev
    obtain ⟨t', hv⟩ := DAre.some i2 (hd _ (.head _))
    subst e ev
    have := KeqHits.hit (A := A) (s := s) hv (SeqAt.EqAt.int_int dd.2 t dd.2 t') (ih fun x hx => hd x (.tail _ hx))
    rw [beq_self_eq_true] at this
    exact this
theorem eqD {ka kb : List (Str × Value)} {Da Db : List (W × Int)} (S : St B r l s) (h1 : Has B l a (DctO prog w ka)) (h2 : Has B l b (DctO prog w kb)) (la : mainGlobals < a) (lb : mainGlobals < b) (i1 : DAre ka Da) (i2 : DAre kb Db) (hu : A.units < cLine)
    (hd : ∀ x ∈ Da, Db.lookup x.1 = some x.2) (hlen : Da.length = Db.length) (h : Q (.bool true) s) : wpAny (model prog w) A (compareOp .Eq (.ref a) (.ref b)) Q E s := by
  obtain ⟨o1, ho1, hf1⟩ := h1.get S
  obtain ⟨o2, ho2, hf2⟩ := h2.get S
  refine keq_eq (notMod la) (notMod lb) (DctO.dictOf ho1 hf1) (DctO.dictOf ho2 hf2) hu (r := true) (fun _ => hitsD i1 i2 hd) ?_
  rw [show ka.length = kb.length from (Two.length i1).trans (hlen.trans (Two.length i2).symm)]
  simpa using h
theorem neD {ka kb : List (Str × Value)} {Da Db : List (W × Int)} (S : St B r l s) (h1 : Has B l a (DctO prog w ka)) (h2 : Has B l b (DctO prog w kb)) (la : mainGlobals < a) (lb : mainGlobals < b) (i1 : DAre ka Da) (i2 : DAre kb Db) (hu : A.units < cLine)
    (hd : ∀ x ∈ Da, Db.lookup x.1 = some x.2) (hlen : Da.length = Db.length) (h : Q (.bool false) s) : wpAny (model prog w) A (compareOp .NotEq (.ref a) (.ref b)) Q E s := by
  obtain ⟨o1, ho1, hf1⟩ := h1.get S
  obtain ⟨o2, ho2, hf2⟩ := h2.get S
  refine keq_ne (notMod la) (notMod lb) (DctO.dictOf ho1 hf1) (DctO.dictOf ho2 hf2) hu (r := true) (fun _ => hitsD i1 i2 hd) ?_
  rw [show ka.length = kb.length from (Two.length i1).trans (hlen.trans (Two.length i2).symm)]
  simpa using h
end
-- L14
set_option maxRecDepth 100000
theorem miss_keys : typeLookup (.type "list") "keys" = pure none := am_miss_of_fast (by kernel_rfl)
theorem sub_attr : isSubtype (.type "AttributeError") (.type "AttributeError") = pure true := sub_AttributeError
section
variable {prog : Program} {w : World} {A : Around} {E : Value → Shared → Prop} {s : Shared}
theorem noKeys {a : Addr} {o : Obj} {xs : Array Value} {k : Nat} {Q : Option Value → Shared → Prop}
    (hx : s.heap.get? a = some o) (hc : o.cls = .type "list") (hdat : o.data = .seq xs k) (hd : o.dict = none) (hA : A.handled = none)
    (h : ∀ h' tk, (∀ b ob, s.heap.get? b = some ob → h'.get? b = some ob) → Q none { s with heap := h', toks := tk }) :
    wpAny (model prog w) A (getAttr? (.ref a) "keys") Q E s := by
  obtain ⟨c, dct, dat, sl⟩ := o
  simp only at hc hdat hd
  subst hc hdat hd
  obtain ⟨hp, g, d, tk, os⟩ := s
  have hT : ∀ tk', (⟨hp, g, d, tk', os⟩ : Shared).TypeIs (.ref a) "list" := fun _ => ⟨_, hx, rfl⟩
  have f1 := sub_AttributeError
  have f3 := F.slot_list_getattribute.lookup
  have f4 := F.slot_list_getattribute.bind (.ref a)
  have f5 := am_list_getattr_none
  unfold getAttr? getAttrBy? getAttrBy
  repeat (any_goals (first | assumption | exact hT _ | ((with_reducible show wpAny _ _ (call (Value.builtin "list.__getattribute__") _ _) _ _ _); refine call_meets F.slot_list_getattribute (hT _) am_entry_list_getattribute (F.args_list_getattribute_2 _ _) (meets_getattribute_miss_list a xs k sl "keys" _ miss_keys (by decide +kernel) (by decide +kernel)) ⟨hx, hA, fun h' tk' e hx' => ?_⟩) | wp_step))
  obtain ⟨t', u', he⟩ := hx'.there
  show wpAny _ _ (getattributeRaised _ _ _ _ _ _ _) _ _ _
  unfold getattributeRaised
  repeat (any_goals (first | assumption | wp_step))
  exact h _ _ hx'.keeps
end
-- L15
set_option maxRecDepth 100000
section
variable {prog : Program} {w : World} {A : Around} {E : Value → Shared → Prop} {s : Shared}
theorem entry_dul : entryFor table "dict.update.loop" = some Builtin.«dict.update.loop» := entryFor_of_fast (by kernel_rfl)
theorem plain_dul : plainId "dict.update.loop" = true := by decide +kernel
def PairAt (B : Addr → Option Obj) (v : Value) (x : W × Int) : Prop := ∃ T o t u, v = .ref T ∧ B T = some o ∧ TupO [.str (toS x.1) t, .int x.2 u] o
theorem PairAt.le {B B' : Addr → Option Obj} (x : LeB B B') (v : Value) (p : W × Int) (h : PairAt B v p) : PairAt B' v p := by
  obtain ⟨T, o, t, u, e, h1, h2⟩ := h
  exact ⟨T, o, t, u, e, x _ _ h1, h2⟩
variable {B : Addr → Option Obj} {r : Rest} {l l' : Led} {K : Frag} {env : Env} {L : Addr} {d a b : Addr} {vs us : List Value}
theorem dul_loop {R : Result → Shared → Prop} {I : Addr} {D : List (W × Int)} (hh : A.handled = none) (hT : Two (PairAt B) vs D) (hn : (D.map (·.1)).Nodup) (hlen : D.length ≤ 100) :
    ∀ (n i : Nat) (A : Around) (s : Shared) (kvs : List (Str × Value)), A.handled = none → n + i = D.length → Has B l a (LsO vs) → St B r ((I, LitO a i) :: (d, DctO prog w kvs) :: l) s → DAre kvs (D.take i) →
      (∀ kvs s', DAre kvs D → St B r ((d, DctO prog w kvs) :: l) s' → R (.ok (.ret .none)) s') → codeAny (model prog w) A (.builtin "dict.update.loop" ⟨[.ref d, .ref I, rawInt i, .none], []⟩) R s := by
  intro n
  induction n with
  | zero =>
    intro i A s kvs hh hi hm S hk hR
    refine codeAny_builtin entry_dul ?_
    rw [Around.under_plainId plain_dul _]
    unfold Builtin.«dict.update.loop»
    dsimp only
    obtain ⟨o, ho, hf⟩ := S.get (.head _)
    obtain ⟨oa, hoa, hfa⟩ := Has.get ((hm.cons (p := (d, DctO prog w kvs))).cons (p := (I, LitO a i))) S
    have hvl := hT.length
    refine wpAny_bind (wpAny_pyNext_list_end hh (LitO.is ho hf) (LsO.isList hoa hfa) (by simp; omega) fun h' hs => ?_)
    have S' := S.rid (s' := { s with heap := h' }) rfl fun b ob hb e => hs b ob hb e
    refine wpAny_bind (wpAny_pure (wpAny_pure ?_))
    rw [List.take_of_length_le (by omega)] at hk
    exact hR kvs _ hk S'
  | succ n ih =>
    intro i A s kvs hh hi hm S hk hR
    refine codeAny_builtin entry_dul ?_
    rw [Around.under_plainId plain_dul _]
    unfold Builtin.«dict.update.loop»
    dsimp only
    obtain ⟨o, ho, hf⟩ := S.get (.head _)
    obtain ⟨oa, hoa, hfa⟩ := Has.get ((hm.cons (p := (d, DctO prog w kvs))).cons (p := (I, LitO a i))) S
    have hvl := hT.length
    have hiv : i < vs.length := by omega
    have hiD : i < D.length := by omega
    obtain ⟨x, hx, T, oT, t, u, ev, hBT, hTup⟩ := hT.get (i := i) (a := vs[i]) (List.getElem?_eq_getElem hiv)
    refine wpAny_bind (wpAny_pyNext_list_item (LitO.is ho hf) (LsO.isList hoa hfa) (x := vs[i]'hiv) (by simp) fun h' hit hs => ?_)
    obtain ⟨o', ho', hf'⟩ := LitO.of hit
    have S1 := S.upd (s' := { s with heap := h' }) .head rfl (fun b ob hb e => (hs.2 b hb).trans e) ho' hf'
    rw [ev]
    dsimp only
    have hT1 := S1.over _ _ hBT
    have hTup' : oT = ({ cls := .type "tuple", data := .seq [Value.str (toS x.1) t, .int x.2 u].toArray } : Obj) := by unfold TupO at hTup; exact hTup
    have hTT : Shared.TypeIs { s with heap := h' } (.ref T) "tuple" := ⟨_, hT1, by rw [hTup']⟩
    refine wpAny_bind (wpAny_holding ?_)
    refine wpAny_bind (wpAny_tryCatch ?_)
    unfold Builtin.Dict.pairItems
    refine wpAny_bind (wpAny_typeOf hTT ?_)
    rw [if_pos (by decide)]
    refine wpAny_bind (wpAny_seqItems hT1 (by rw [hTup']) ?_)
    refine wpAny_pure ?_
    have hxm : toS x.1 ∉ kvs.map (·.1) := by
      refine hk.none fun hm' => ?_
      have e := List.nodup_append.mp (by rw [← List.map_append, List.take_append_drop]; exact hn : ((D.take i).map (·.1) ++ (D.drop i).map (·.1)).Nodup)
      refine e.2.2 _ hm' _ ?_ rfl
      rw [List.drop_eq_getElem_cons hiD]
      have : D[i] = x := by rw [List.getElem?_eq_getElem hiD] at hx; exact Option.some.inj hx
      rw [this]
      exact .head _
    have hkl : kvs.length = (D.take i).length := Two.length hk
    rw [List.length_take] at hkl
    obtain ⟨od, hod, hfd⟩ := S1.get (.tail _ (.head _))
    show wpAny _ _ (holding [Value.str (toS x.1) t, .int x.2 u] (dictSet d (.str (toS x.1) t) (.int x.2 u))) _ _ _
    refine (wpAny_holding (wpAny_dictSet_pairs (s := { s with heap := h' }) (knd := PySem.strKind prog w) (strKind_is prog w (toS x.1) t) (DctO.dictOf hod hfd) (fun h2 hd2 hsb2 => ?_) (small_le (by omega))))
    obtain ⟨o2, ho2, hf2⟩ := DctO.of hd2
    have S2 := S1.upd (s' := { s with heap := h2, toks := s.toks + 1 }) (.tail .head) rfl (fun b ob hb e => (hsb2.2 b hb).trans e) ho2 hf2
    rw [stored_new hxm] at S2
    refine wpAny_pure ⟨Code.quiet_builtin _ (by decide +kernel), ?_⟩
    have e1 : D.take (i + 1) = D.take i ++ [x] := by rw [List.take_add_one, hx]; rfl
    have := ih (i + 1) A _ (kvs ++ [(toS x.1, .int x.2 u)]) hh (by omega) hm S2 (by rw [e1]; exact Two.append hk (Two.one (R := DKV) (a := (toS x.1, Value.int x.2 u)) (b := x) ⟨rfl, u, rfl⟩)) hR
    exact this
theorem dOfPairs {D : List (W × Int)} {Q : Value → Shared → Prop} (W : Wd K B) (S : St B r l s) (hh : A.handled = none) (hm : (a, LstO vs) ∈ l) (hT : Two (PairAt B) vs D) (hn : (D.map (·.1)).Nodup) (hlen : D.length ≤ 100)
    (h : ∀ d kvs s', DAre kvs D → St B r ((d, DctO prog w kvs) :: l) s' → Q (.ref d) s') : wpAny (model prog w) A (call (.type "dict") [.ref a]) Q E s := by
  refine callType_codes (Q₁ := fun obj s₁ => obj = .ref s.heap.objs.size ∧ s₁ = { s with heap := s.heap.push { cls := .type "dict", data := .dict #[] } }) F.kt_called_dict (F.kt_typeCall_dict_1 _) F.entry_dict_init (kt_code_dict_new _ ⟨rfl, rfl⟩) ?_
  rintro obj s₁ ⟨rfl, rfl⟩
  have hnew : (s.heap.push { cls := .type "dict", data := .dict #[] }).DictOf (PySem.strKind prog w) s.heap.objs.size [] := Heap.DictOf.new s.heap
  have S1 := S.push (P := DctO prog w []) W rfl (dct_new rfl) s.toks
  refine ⟨hnew.typeIs, F.args_dict_init_2 _ _, ?_⟩
  unfold Builtin.«dict.__init__»
  refine wpAny_bind ?_
  unfold Builtin.Dict.selfAndRest
  refine wpAny_bind (wpAny_notOrdered_dict hnew.typeIs ?_)
  show wpAny _ _ (pure (s.heap.objs.size, [Value.ref a])) _ _ _
  refine wpAny_pure ?_
  show wpAny _ _ (Builtin.Dict.updateFrom "dict.__init__" s.heap.objs.size (.ref a) [] .none) _ _ _
  unfold Builtin.Dict.updateFrom
  obtain ⟨oa, hoa, hfa⟩ := S1.get (.tail _ hm)
  obtain ⟨n, hfa'⟩ : ∃ n, oa = ({ cls := .type "list", data := .seq vs.toArray n } : Obj) := by unfold LstO at hfa; exact hfa
  refine wpAny_bind (wpAny_typeOf (T := "list") ⟨_, hoa, by rw [hfa']⟩ ?_)
  rw [if_pos (by decide)]
  refine wpAny_bind (noKeys hoa (by rw [hfa']) (by rw [hfa']) (by rw [hfa']) hh fun h' tk hk => ?_)
  have S2 := S1.ext (s' := { s with heap := h', toks := tk }) ⟨rfl, hk⟩
  dsimp only
  rw [if_pos (by decide)]
  refine wpAny_bind (wpAny_rule ?_)
  obtain ⟨oa2, hoa2, hfa2⟩ := S2.get (.tail _ hm)
  refine wpAny_bind (wpAny_pyIter_list (LsO.isList hoa2 (LstO.ls _ hfa2)) ?_)
  have S3 := S2.push (P := LitO a 0) (o := { cls := .type "list_iterator", data := .fields #[.ref a, .int 0 0] }) W rfl (by unfold LitO; exact ⟨rfl, rfl⟩) tk
  refine wpAny_pure ⟨Code.quiet_builtin _ (by decide +kernel), ?_⟩
  exact dul_loop hh hT hn hlen D.length 0 _ _ [] hh rfl (Has.ls hm) S3 .nil fun kvs s' hk S' => ⟨rfl, h _ _ _ hk S'⟩
end
-- L16
set_option maxRecDepth 100000
@[irreducible] def KitO (d : Addr) (i n ep : Nat) : Obj → Prop := fun o => o.cls = .type "dict_keyiterator" ∧ o.data = .fields #[.ref d, .int i 0, .int n 0, .int ep 0]
theorem KitO.is {h : Heap} {a d : Addr} {i n ep : Nat} {o : Obj} (ho : h.get? a = some o) (hp : KitO d i n ep o) : h.IsKeyIter a d i n ep := by
  unfold KitO at hp
  exact ⟨o, ho, hp.1, hp.2⟩
theorem KitO.of {h : Heap} {a d : Addr} {i n ep : Nat} (hp : h.IsKeyIter a d i n ep) : ∃ o, h.get? a = some o ∧ KitO d i n ep o := by
  obtain ⟨o, ho, h1, h2⟩ := hp
  exact ⟨o, ho, by unfold KitO; exact ⟨h1, h2⟩⟩
def DctE (prog : Program) (w : World) (kvs : List (Str × Value)) (ep : Nat) (o : Obj) : Prop := ∀ (h : Heap) (d : Addr), h.get? d = some o → h.DictAt (PySem.strKind prog w) d kvs ep
theorem DctO.ep {prog : Program} {w : World} {kvs : List (Str × Value)} {o : Obj} (hf : DctO prog w kvs o) : ∃ ep, DctE prog w kvs ep o := by
  unfold DctO at hf
  obtain ⟨es, ep, h⟩ := hf
  exact ⟨ep, fun h' d hd => ⟨_, es, hd, h⟩⟩
section
variable {prog : Program} {w : World} {A : Around} {E : Value → Shared → Prop} {s : Shared} {B : Addr → Option Obj} {r : Rest} {l l' : Led} {K : Frag} {env : Env} {L : Addr} {Q : Value → Shared → Prop} {a b : Addr} {vs us : List Value}
theorem iterKeys (I d : Addr) (kvs : List (Str × Value)) (ep : Nat) (od : Obj) (hat : DctE prog w kvs ep od) : Iter prog w I kvs.length (fun i v => ∃ t, v = .str ((kvs.map (·.1)).getD i default) t) (fun i => [(I, KitO d i kvs.length ep)]) (fun i _ => [(I, KitO d (i + 1) kvs.length ep)]) (fun i _ => [(I, KitO d (i + 1) kvs.length ep)]) (fun _ => True) (fun B _ => B d = some od) where
  next := fun {A E B r l s i Q} hh hi S _ hn hQ => by
    obtain ⟨o, ho, hf⟩ := S.get (.head _)
    have hx : kvs[i]? = some (kvs[i]'hi) := List.getElem?_eq_getElem hi
    refine wpAny_pyNext_dict_item (knd := PySem.strKind prog w) (KitO.is ho hf) (hat _ _ (S.over _ _ hn)) (k := (kvs[i]'hi).1) (v := (kvs[i]'hi).2) hx fun key h' hk hit hs => ?_
    obtain ⟨t, rfl⟩ := Value.isStrOf_shape hk
    refine hQ _ _ ⟨t, ?_⟩ ?_
    · rw [List.getD_eq_getElem?_getD, List.getElem?_map, hx]; rfl
    obtain ⟨o', ho', hf'⟩ := KitO.of hit
    exact S.upd .head rfl (fun b ob hb e => (hs.2 b hb).trans e) ho' hf'
  done := fun {A E B r l s Q} hh S hn hQ => by
    obtain ⟨o, ho, hf⟩ := S.get (.head _)
    exact wpAny_pyNext_dict_end (knd := PySem.strKind prog w) hh (KitO.is ho hf) (hat _ _ (S.over _ _ hn)) (by simp) fun h' hs => hQ _ (S.rid rfl fun b ob hb e => hs b ob hb e)
  own := fun {A E B r l s i v target Q} _ _ S hq => by
    obtain ⟨o, ho, hf⟩ := S.get (.head _)
    obtain ⟨o, ho, hc, _⟩ := KitO.is ho hf
    exact letOwned_other ho hc (by decide) (hq _ S)
  self := fun {A E B r l s i Q} S hq => by
    obtain ⟨o, ho, hf⟩ := S.get (.head _)
    exact wpAny_pyIter_keyiter (KitO.is ho hf) hq
theorem iterD {d : Addr} {kvs : List (Str × Value)} {ep : Nat} {od : Obj} (W : Wd K B) (S : St B r l s) (hB : B d = some od) (hat : DctE prog w kvs ep od) (hlo : mainGlobals < d) (h : ∀ I s', St B r ((I, KitO d 0 kvs.length ep) :: l) s' → Q (.ref I) s') : wpAny (model prog w) A (pyIter (.ref d)) Q E s :=
  wpAny_pyIter_dict (knd := PySem.strKind prog w) (notMod hlo) (hat _ _ (S.over _ _ hB)) (h _ _ (S.push W rfl (by unfold KitO; exact ⟨rfl, rfl⟩) s.toks))
theorem slL_rev {t : Tok} (S : St B r l s) (W : Wd K B) (hm : Has B l a (LsO vs)) (hsz : vs.length ≤ 1000)
    (h : ∀ D s', St B r ((D, LstO vs.reverse) :: l) s' → Q (.ref D) s') :
    ItemOn (model prog w) A E (.ref a) (.ref s.heap.objs.size) Q { s with heap := s.heap.push { cls := .type "slice", data := .fields #[.none, .none, .int (-1) t] } } := by
  obtain ⟨o, ho, hf⟩ := hm.get S
  have hl := LsO.isList ho hf
  have hp : slicePick vs.toArray none none (some (-1)) = vs.reverse.toArray := krv_pick _
  refine ⟨"list", _, list_getitem_lookup, (hl.push _).typeIs, wpAny_getItem_list_slice (hl.push _) (Heap.IsSliceOf.new ..) .none .none (.int (-1) t) (by simp) ?_ (by simp; exact small_le hsz)⟩
  rw [hp]
  have S' : St B r l { s with heap := s.heap.push { cls := .type "slice", data := .fields #[.none, .none, .int (-1) t] } } := S.pushOnly s.toks
  exact h _ _ (S'.push W rfl (by unfold LstO; exact ⟨0, rfl⟩) s.toks)
end
-- L17
section
open PySem.Spec
set_option maxRecDepth 100000
section
variable {prog : Program} {w : World} {A : Around} {E : Value → Shared → Prop} {s : Shared} {B : Addr → Option Obj} {r : Rest} {l l' : Led} {K : Frag} {env : Env} {L : Addr} {Q : Value → Shared → Prop} {a b : Addr} {vs us : List Value}
theorem callC0 {C : Addr} {pos : Pos} (X : K.In s.heap) (hm : makesIn K C = true) (h : wpAny (model prog w) A (call (.ref C) []) Q E s) : wpAny (model prog w) A (callWith pos (.ref C) [] (backTo pos (starEach [] env)) []) Q E s := by
  have M := makes_of (M := model prog w) X hm
  obtain ⟨oc, od, cd, sl, hC, -⟩ := M.obj
  unfold callWith
  refine wpAny_bind (wpAny_holding (PySem.evalArgs_none ?_))
  refine wpAny_bind (wpAny_standAt ?_)
  refine wpAny_bind (m := keeperOf (.ref C)) ?_
  unfold keeperOf
  refine wpAny_bind (wpAny_load hC ?_)
  refine wpAny_bind (M.call.here ?_)
  rw [if_pos (by rfl)]
  refine wpAny_pure ?_
  show wpAny _ _ (call (.ref C) [] [] >>= fun r => do holding [r] point; pure r) _ _ _
  exact wpAny_bind (wpAny_mono h (fun r s' hr => wpAny_bind (wpAny_holding (wpAny_point (wpAny_pure hr)))) fun _ _ x => x)
theorem callFnM {f : Addr} {oc : Value} {od : Option Addr} {osl : Array (Option Value)} {fd : FuncData} {first : List Value} {e : PySem.Expr} {rest : List PySem.Expr} {pos : Pos} (W : Wd K B) (ho : K.lookup f = some ⟨oc, od, .func fd, osl⟩)
    (h : wpAny (model prog w) A (spliced (backTo pos (starEach (e :: rest) env))) (fun vs s₁ => K.In s₁.heap ∧ wpAny (model prog w) A (call (.ref f) (first ++ vs)) Q E s₁) E s)
    (he : starEach (e :: rest) env = (false, eval e env) :: starEach rest env := by rfl) :
    wpAny (model prog w) A (callWith pos (.ref f) first (backTo pos (starEach (e :: rest) env)) []) Q E s := by
  rw [he] at h ⊢
  exact callWith_function (o := ⟨oc, od, .func fd, osl⟩) (fd := fd) (evalArgs_plain (wpAny_mono h (fun vs s₁ h₁ => ⟨⟨h₁.1 _ _ ho, rfl⟩, h₁.2⟩) fun _ _ x => x))
end
theorem ltCps_le {a b : List Nat} : ltCps b a = false ↔ a ≤ b := by
  rw [ltCps_eq, decide_eq_false_iff_not]
  exact List.not_lt
theorem risingS_pair : ∀ (l : List Str) (p : Str), risingS p l = true → (p :: l).Pairwise (fun a b => a.cps.toList ≤ b.cps.toList)
  | [], p, _ => by simp
  | x :: r, p, h => by
    have h' : (!ltCps x.cps.toList p.cps.toList && risingS x r) = true := h
    rw [Bool.and_eq_true, Bool.not_eq_true'] at h'
    have ih := risingS_pair r x h'.2
    have hpx := ltCps_le.mp h'.1
    refine List.pairwise_cons.mpr ⟨fun y hy => ?_, ih⟩
    rcases List.mem_cons.mp hy with rfl | hy
    · exact hpx
    · exact List.le_trans hpx ((List.pairwise_cons.mp ih).1 y hy)
theorem sortedS_pair : ∀ {l : List Str}, sortedS l = true → l.Pairwise (fun a b => a.cps.toList ≤ b.cps.toList)
  | [], _ => .nil
  | x :: r, h => risingS_pair r x h
theorem str_ext {a b : Str} (h : a.cps.toList = b.cps.toList) : a = b := by
  cases a; cases b
  simp only [Str.mk.injEq]
  exact Array.toList_inj.mp h
theorem sortedS_one {l1 l2 : List Str} (hp : l1.Perm l2) (h1 : sortedS l1 = true) (h2 : sortedS l2 = true) : l1 = l2 :=
  List.Perm.eq_of_pairwise (le := fun a b => a.cps.toList ≤ b.cps.toList) (fun a b _ _ x y => str_ext (List.le_antisymm x y)) (sortedS_pair h1) (sortedS_pair h2) hp
theorem sortedZ_one {l1 l2 : List Int} (hp : l1.Perm l2) (h1 : l1.Pairwise (· ≤ ·)) (h2 : l2.Pairwise (· ≤ ·)) : l1 = l2 :=
  List.Perm.eq_of_pairwise (fun a b _ _ x y => Int.le_antisymm x y) h1 h2 hp
end
-- P2
def firstW (m o : Nat) : W := (List.replicate m [97]).flatten ++ (List.replicate o [98]).flatten
def layAt (ws : List W) (D : List (W × Int)) (n : Nat) : List Int := (List.range n).map fun (k : Nat) => (((ws.filter fun p => D.lookup p == some (k : Int)).length : Nat) : Int)
def partAt (m o n : Nat) : List Int := (List.range n).map fun (k : Nat) => ((partedN o k m : Nat) : Int)
structure FirstOK (m o : Nat) (ws : List W) (src : W) (D : List (W × Int)) : Prop where
  fold : foldD (bfsE ws.length ws.length src) [(src, 0)] = some D
  short : (bfsE ws.length ws.length src).length ≤ 100
  keys : (D.map (·.1)).Perm ws
  rise : (D.map (·.2)).Pairwise (· ≤ ·)
  lay : layAt ws D (m * o + 2) = partAt m o (m * o + 2)
  sym : (partAt m o (m * o + 2)).take (m * o + 1) = ((partAt m o (m * o + 2)).take (m * o + 1)).reverse
def nearW (ws : List W) (D : List (W × Int)) (lim : Int) : List W := ws.filter fun p => decide ((D.lookup p).getD 0 ≤ lim)
structure BeginOK (ws : List W) (src : W) (D : List (W × Int)) : Prop where
  fold : foldD (bfsE ws.length ws.length src) [(src, 0)] = some D
  short : (bfsE ws.length ws.length src).length ≤ 100
  keys : (D.map (·.1)).Perm ws
  steps : ∀ x ∈ D, x.2 = steps src x.1
  near : ∀ lim, lim < 4 → ∃ D', foldD (bfsE ws.length lim src) [(src, 0)] = some D' ∧ (bfsE ws.length lim src).length ≤ 100 ∧ D'.length = (nearW ws D lim).length ∧ ∀ x ∈ D', x.1 ∈ nearW ws D lim ∧ D.lookup x.1 = some x.2
structure Facts (m o : Nat) : Prop where
  pos : 0 < (wordsW m o).length
  len : (wordsW m o).length ≤ 20
  nodup : (wordsW m o).Nodup
  six : ∀ p ∈ wordsW m o, p.length ≤ 6
  shut : ∀ p ∈ wordsW m o, ∀ c ∈ changed p, c ∈ wordsW m o
  letters : ∀ p ∈ wordsW m o, ∀ c ∈ p, c < 0x110000
  first : firstW m o ∈ wordsW m o
  places : ∀ p ∈ wordsW m o, ∀ q ∈ wordsW m o, (places p).length = (places q).length
  one : ∃ D, FirstOK m o (wordsW m o) (firstW m o) D
  two : ∀ b ∈ wordsW m o, ∃ D, BeginOK (wordsW m o) b D
-- P3
def pwZ : List Int → Bool
  | [] => true
  | x :: r => r.all (fun y => decide (x ≤ y)) && pwZ r
theorem pwZ_sound : ∀ {l : List Int}, pwZ l = true → l.Pairwise (· ≤ ·)
  | [], _ => .nil
  | x :: r, h => by
    have h' : (r.all (fun y => decide (x ≤ y)) && pwZ r) = true := h
    rw [Bool.and_eq_true, List.all_eq_true] at h'
    exact List.pairwise_cons.mpr ⟨fun y hy => by simpa using h'.1 y hy, pwZ_sound h'.2⟩
def chkFirst (m o : Nat) (ws : List W) (src : W) : Bool := match foldD (bfsE ws.length ws.length src) [(src, 0)] with
  | none => false
  | some D => decide ((bfsE ws.length ws.length src).length ≤ 100) && List.isPerm (D.map (·.1)) ws && pwZ (D.map (·.2)) && (layAt ws D (m * o + 2) == partAt m o (m * o + 2)) && ((partAt m o (m * o + 2)).take (m * o + 1) == ((partAt m o (m * o + 2)).take (m * o + 1)).reverse)
theorem chkFirst_sound {m o : Nat} {ws : List W} {src : W} (h : chkFirst m o ws src = true) : ∃ D, FirstOK m o ws src D := by
  unfold chkFirst at h
  cases hf : foldD (bfsE ws.length ws.length src) [(src, 0)] with
  | none => rw [hf] at h; cases h
  | some D =>
    rw [hf] at h
    simp only [Bool.and_eq_true, beq_iff_eq, decide_eq_true_eq] at h
    obtain ⟨⟨⟨⟨h1, h2⟩, h3⟩, h4⟩, h5⟩ := h
    exact ⟨D, hf, h1, List.isPerm_iff.mp h2, pwZ_sound h3, h4, h5⟩
def chkNear (ws : List W) (src : W) (D : List (W × Int)) (lim : Nat) : Bool := match foldD (bfsE ws.length lim src) [(src, 0)] with
  | none => false
  | some D' => decide ((bfsE ws.length lim src).length ≤ 100) && (D'.length == (nearW ws D lim).length) && D'.all fun x => decide (x.1 ∈ nearW ws D lim) && (D.lookup x.1 == some x.2)
theorem chkNear_sound {ws : List W} {src : W} {D : List (W × Int)} {lim : Nat} (h : chkNear ws src D lim = true) : ∃ D', foldD (bfsE ws.length lim src) [(src, 0)] = some D' ∧ (bfsE ws.length lim src).length ≤ 100 ∧ D'.length = (nearW ws D lim).length ∧ ∀ x ∈ D', x.1 ∈ nearW ws D lim ∧ D.lookup x.1 = some x.2 := by
  unfold chkNear at h
  cases hf : foldD (bfsE ws.length lim src) [(src, 0)] with
  | none => rw [hf] at h; cases h
  | some D' =>
    rw [hf] at h
    simp only [Bool.and_eq_true, beq_iff_eq, decide_eq_true_eq, List.all_eq_true] at h
    obtain ⟨⟨h1, h2⟩, h3⟩ := h
    exact ⟨D', rfl, h1, h2, h3⟩
def chkBegin (ws : List W) (src : W) : Bool := match foldD (bfsE ws.length ws.length src) [(src, 0)] with
  | none => false
  | some D => decide ((bfsE ws.length ws.length src).length ≤ 100) && List.isPerm (D.map (·.1)) ws && (D.all fun x => x.2 == steps src x.1) && chkNear ws src D 0 && chkNear ws src D 1 && chkNear ws src D 2 && chkNear ws src D 3
theorem chkBegin_sound {ws : List W} {src : W} (h : chkBegin ws src = true) : ∃ D, BeginOK ws src D := by
  unfold chkBegin at h
  cases hf : foldD (bfsE ws.length ws.length src) [(src, 0)] with
  | none => rw [hf] at h; cases h
  | some D =>
    rw [hf] at h
    simp only [Bool.and_eq_true, beq_iff_eq, decide_eq_true_eq, List.all_eq_true] at h
    obtain ⟨⟨⟨⟨⟨⟨h1, h2⟩, h3⟩, n0⟩, n1⟩, n2⟩, n3⟩ := h
    refine ⟨D, hf, h1, List.isPerm_iff.mp h2, h3, fun lim hl => ?_⟩
    match lim, hl with
    | 0, _ => exact chkNear_sound n0
    | 1, _ => exact chkNear_sound n1
    | 2, _ => exact chkNear_sound n2
    | 3, _ => exact chkNear_sound n3
def chkAll (m o : Nat) : Bool :=
  let ws := wordsW m o
  decide (0 < ws.length) && decide (ws.length ≤ 20) && decide ws.Nodup && (ws.all fun p => decide (p.length ≤ 6)) && (ws.all fun p => (changed p).all fun c => decide (c ∈ ws)) && (ws.all fun p => p.all fun c => decide (c < 0x110000)) && decide (firstW m o ∈ ws) &&
  (ws.all fun p => (places p).length == m) && chkFirst m o ws (firstW m o) && ws.all fun b => chkBegin ws b
theorem chkAll_sound {m o : Nat} (h : chkAll m o = true) : Facts m o := by
  unfold chkAll at h
  simp only [Bool.and_eq_true, beq_iff_eq, decide_eq_true_eq, List.all_eq_true] at h
  obtain ⟨⟨⟨⟨⟨⟨⟨⟨⟨h1, h2⟩, h3⟩, h4⟩, h5⟩, h6⟩, h7⟩, h8⟩, h9⟩, h10⟩ := h
  exact ⟨h1, h2, h3, h4, h5, h6, h7, fun p hp q hq => (h8 p hp).trans (h8 q hq).symm, chkFirst_sound h9, fun b hb => chkBegin_sound (h10 b hb)⟩
-- P4
set_option maxRecDepth 100000
theorem c00 : chkAll 0 0 = true := by decide +kernel
theorem c01 : chkAll 0 1 = true := by decide +kernel
theorem c02 : chkAll 0 2 = true := by decide +kernel
theorem c03 : chkAll 0 3 = true := by decide +kernel
theorem c10 : chkAll 1 0 = true := by decide +kernel
theorem c11 : chkAll 1 1 = true := by decide +kernel
theorem c12 : chkAll 1 2 = true := by decide +kernel
theorem c13 : chkAll 1 3 = true := by decide +kernel
theorem c20 : chkAll 2 0 = true := by decide +kernel
theorem c21 : chkAll 2 1 = true := by decide +kernel
theorem c22 : chkAll 2 2 = true := by decide +kernel
theorem c23 : chkAll 2 3 = true := by decide +kernel
theorem c30 : chkAll 3 0 = true := by decide +kernel
theorem c31 : chkAll 3 1 = true := by decide +kernel
theorem c32 : chkAll 3 2 = true := by decide +kernel
theorem c33 : chkAll 3 3 = true := by decide +kernel
theorem allFacts (m o : Nat) (hm : m ≤ 3) (ho : o ≤ 3) : Facts m o := by
  refine chkAll_sound ?_
  match m, o, hm, ho with
  | 0, 0, _, _ => exact c00
  | 0, 1, _, _ => exact c01
  | 0, 2, _, _ => exact c02
  | 0, 3, _, _ => exact c03
  | 1, 0, _, _ => exact c10
  | 1, 1, _, _ => exact c11
  | 1, 2, _, _ => exact c12
  | 1, 3, _, _ => exact c13
  | 2, 0, _, _ => exact c20
  | 2, 1, _, _ => exact c21
  | 2, 2, _, _ => exact c22
  | 2, 3, _, _ => exact c23
  | 3, 0, _, _ => exact c30
  | 3, 1, _, _ => exact c31
  | 3, 2, _, _ => exact c32
  | 3, 3, _, _ => exact c33
-- L18
section
open PySem.Spec
set_option maxRecDepth 100000
theorem lookup_mem : ∀ {D : List (W × Int)}, (D.map (·.1)).Nodup → ∀ {x}, x ∈ D → D.lookup x.1 = some x.2
  | (a, b) :: D, hn, x, hx => by
    rw [List.map_cons, List.nodup_cons] at hn
    rcases List.mem_cons.mp hx with rfl | hx
    · rw [List.lookup_cons, beq_self_eq_true]
    · have hne : x.1 ≠ a := fun e => hn.1 (List.mem_map.mpr ⟨x, hx, e⟩)
      rw [List.lookup_cons, show (x.1 == a) = false from by simpa using hne]
      exact lookup_mem hn.2 hx
theorem strOk_toS {p : W} (h : ∀ c ∈ p, c < 0x110000) : PyData.strOk (toS p) = true := by
  unfold PyData.strOk toS
  rw [← Array.all_toList, List.all_eq_true]
  intro c hc
  exact decide_eq_true (h c hc)
theorem strOk_perm {ws : List W} {ss : List Str} (hp : ss.Perm (ws.map toS)) (h : ∀ p ∈ ws, ∀ c ∈ p, c < 0x110000) : ∀ n ∈ ss, PyData.strOk n = true := by
  intro n hn
  obtain ⟨p, hp', rfl⟩ := List.mem_map.mp (hp.mem_iff.mp hn)
  exact strOk_toS (h p hp')
theorem Rm.eqRoom {A : Around} {n : Nat} (R : Rm A n) (h : 10 ≤ n) : A.units + 64 < cLine := by
  have := R.units
  have h9 : 9000 ≤ cLine := by decide
  omega
theorem keyAt {kvs : List (Str × Value)} {D : List (W × Int)} (h : DAre kvs D) {i : Nat} (hi : i < kvs.length) : ∃ x, D[i]? = some x ∧ (kvs.map (·.1)).getD i default = toS x.1 := by
  have hl := Two.length h
  have hx : D[i]? = some (D[i]'(by omega)) := List.getElem?_eq_getElem (by omega)
  refine ⟨_, hx, ?_⟩
  rw [List.getD_eq_getElem?_getD, h.keys, List.getElem?_map, List.getElem?_map, hx]
  rfl
end
-- L19
set_option maxRecDepth 10000
@[irreducible] def CellA : Obj → Prop := fun o => ∃ v, CellO v o
section
variable {prog : Program} {w : World} {A : Around} {E : Value → Shared → Prop} {s : Shared}
theorem St.openCell {B : Addr → Option Obj} {r : Rest} {l l1 : Led} {c : Addr} (S : St B r (l1 ++ (c, CellA) :: l) s) : ∃ v, St B r (l1 ++ (c, CellO v) :: l) s := by
  obtain ⟨o, ho, h⟩ := S.get (a := c) (P := CellA) (List.mem_append_right _ (.head _))
  unfold CellA at h
  obtain ⟨v, hv⟩ := h
  refine ⟨v, S.rest, S.over, fun p hp => ?_, fun p hp => ?_, fun p hp => ?_, ?_⟩
  · rcases List.mem_append.mp hp with hp | hp
    · exact S.led p (List.mem_append_left _ hp)
    · rcases List.mem_cons.mp hp with rfl | hp
      · exact ⟨o, ho, hv⟩
      · exact S.led p (List.mem_append_right _ (.tail _ hp))
  · rcases List.mem_append.mp hp with hp | hp
    · exact S.off p (List.mem_append_left _ hp)
    · rcases List.mem_cons.mp hp with rfl | hp
      · exact S.off (c, CellA) (List.mem_append_right _ (.head _))
      · exact S.off p (List.mem_append_right _ (.tail _ hp))
  · rcases List.mem_append.mp hp with hp | hp
    · exact S.lo p (List.mem_append_left _ hp)
    · rcases List.mem_cons.mp hp with rfl | hp
      · exact S.lo (c, CellA) (List.mem_append_right _ (.head _))
      · exact S.lo p (List.mem_append_right _ (.tail _ hp))
  · have := S.nodup
    simpa using this
theorem CellO.any {v : Option Value} (o : Obj) (h : CellO v o) : CellA o := by unfold CellA; exact ⟨v, h⟩
theorem newEnvCell {scope : Scope} {globals : Addr} {cl : List (Str × Addr)} {qual kn : Str} {env : Env} {Q : Env → Shared → Prop} {M : Model}
    (hcf : ∀ n acc, cellsFrom n scope.names acc = (kn, n) :: acc) (hpc : ∀ h, pushCells h scope.names = h.push { cls := .type "cell", data := .cell none })
    (hQ : ∀ cenv, cenv.locals = s.heap.objs.size → cenv.globals = globals → cenv.builtins = builtinsNs → cenv.cells = (kn, s.heap.objs.size + 1) :: cl →
      Q cenv { s with heap := (s.heap.push { cls := .type "dict", data := .dict #[] }).push { cls := .type "cell", data := .cell none } }) (hb : env.builtins = builtinsNs) :
    wpAny M A (newFunctionEnv scope globals cl [] qual none .none (some env)) Q E s := by
  unfold newFunctionEnv
  simp only [Option.isSome_some, if_true]
  refine wpAny_bind (wpAny_alloc ?_)
  refine wpAny_bind (wpAny_layCells _ (fun name kind cells => by cases hkc : kind == NameKind.cell <;> simp [hkc]) _ _ _ _ ?_)
  rw [hcf, hpc]
  refine wpAny_bind ?_
  rw [List.forIn_nil]
  refine wpAny_pure (wpAny_pure (hQ _ rfl rfl ?_ ?_))
  · first | exact hb | rfl
  · show (kn, (s.heap.push { cls := .type "dict", data := .dict #[] }).objs.size) :: cl = _
    rw [Heap.size_push]
theorem compEnter1 {elt target iter : PySem.Expr} {ifs : List PySem.Expr} {scope sc : Scope} {pos : Pos} {env : Env} {L : Addr} {cs : List (Str × Addr)} {kn : Str} {use : Option (Value → Sem Unit)} {Q' : Value → Shared → Prop}
    (e : EnvOk env L sc cs) (hall : (scope.names.all fun x => !(x.2 == .free) || (cs.lookup x.1).isSome) = true) (hkind : scope.kind = .function)
    (hcf : ∀ n acc, cellsFrom n scope.names acc = (kn, n) :: acc) (hpc : ∀ h, pushCells h scope.names = h.push { cls := .type "cell", data := .cell none })
    (hnames : ∀ y ∈ scope.names, y.2 = .local → scope.names.lookup y.1 = some .local)
    (hs : ∀ x, foldedSetIterable iter env x = pure x)
    (h : wpAny (model prog w) A (eval iter env) (fun xv s₁ => wpAny (model prog w) A (pyIter xv) (fun it s₂ =>
      ∃ I n item F M G tgt need B r l J, St B r (F 0 ++ l) s₂ ∧ mainGlobals < s₂.heap.objs.size ∧ (∀ kc s₃, St B r (F 0 ++ ((kc, CellA) :: l)) s₃ → mainGlobals < s₃.heap.objs.size → CompAt prog w A elt target ifs scope sc ((kn, kc) :: closL cs scope.names []) it s₃ I n item F M G tgt need B r ((kc, CellA) :: l) J) ∧
       ∀ ys B' C D kc s', J n ys B' → LeB B B' → St B' r ((C, FrO []) :: (D, LstO ys) :: (kc, CellA) :: l) s' → ∀ f, compPost (model prog w) A E use Q' (.ref D) C (.ok f) s') E s₁) E s)
     :
    wpAny (model prog w) A (comprehension (.ListComp elt [⟨target, iter, ifs, 0⟩] scope pos) scope env (firstIterPos [⟨target, iter, ifs, 0⟩] pos) (newList []) false (eval iter env) use) Q' E s := by
  have hrel : relabel scope env = relab scope sc := by
    unfold relabel relab
    congr 1
    refine List.map_congr_left fun x _ => ?_
    obtain ⟨n, k⟩ := x
    have : env.kindOf n = sc.names.lookup n := by show env.scope.names.lookup n = _; rw [e.scope]
    simp only [this, e.scope]
  refine wpAny_comprehension_free (use := use) rfl hs (closureFor_is e hall) hkind hnames (wpAny_mono h (fun xv s₁ h₁ => wpAny_mono h₁ (fun it s₂ h₂ => ?_) fun _ _ e => e) fun _ _ e => e)
  obtain ⟨I, n, item, F, M, G, tgt, need, B, r, l, J, S0, hglo, H, hdone⟩ := h₂
  refine wpAny_newObj_type (newEnvCell hcf hpc (fun cenv c1 c2 c3 c4 => ?_) e.bi)
  dsimp only at c1 c4 ⊢
  generalize hH2 : s₂.heap.push { cls := .type "list", dict := none, data := .seq ([] : List Value).toArray } = H2 at c1 c4 ⊢
  have none_at : ∀ h : Heap, h.get? h.objs.size = none := fun h => by
    cases q : h.get? h.objs.size with
    | none => rfl
    | some o => exact absurd (Heap.lt_size q) (Nat.lt_irrefl _)
  have S₂ : St B r ((s₂.heap.objs.size, LstO []) :: (F 0 ++ l)) { s₂ with heap := H2 } := by
    refine S0.new ⟨rfl, fun b o q => hH2 ▸ Heap.get?_push_of_some _ q⟩ ⟨none_at _, hglo, ⟨_, hH2 ▸ Heap.get?_push_size _ rfl, ?_⟩⟩
    unfold LstO
    exact ⟨0, rfl⟩
  have hglo2 : mainGlobals < H2.objs.size := by rw [← hH2, Heap.size_push]; exact Nat.lt_succ_of_lt hglo
  have hns : (H2.push { cls := .type "dict", data := .dict #[] }).Ns H2.objs.size (fun _ => none) := Heap.Ns.new H2 (.type "dict")
  have S₃ : St B r ((H2.objs.size, FrO []) :: (s₂.heap.objs.size, LstO []) :: (F 0 ++ l)) { s₂ with heap := H2.push { cls := .type "dict", data := .dict #[] } } :=
    S₂.new (s' := { s₂ with heap := H2.push { cls := .type "dict", data := .dict #[] } }) ⟨rfl, fun b o q => Heap.get?_push_of_some _ q⟩ ⟨none_at _, hglo2, FrO.of_ns hns (fun _ _ q => by cases q)⟩
  have hsz : (H2.push { cls := .type "dict", data := .dict #[] }).objs.size = H2.objs.size + 1 := Heap.size_push ..
  have hglo3 : mainGlobals < (H2.push { cls := .type "dict", data := .dict #[] }).objs.size := by rw [hsz]; exact Nat.lt_succ_of_lt hglo2
  have S₄ : St B r ((H2.objs.size + 1, CellA) :: (H2.objs.size, FrO []) :: (s₂.heap.objs.size, LstO []) :: (F 0 ++ l)) { s₂ with heap := (H2.push { cls := .type "dict", data := .dict #[] }).push { cls := .type "cell", data := .cell none } } := by
    rw [← hsz]
    refine S₃.new (s' := { s₂ with heap := (H2.push { cls := .type "dict", data := .dict #[] }).push { cls := .type "cell", data := .cell none } }) ⟨rfl, fun b o q => Heap.get?_push_of_some _ q⟩ ⟨none_at _, hglo3, ⟨_, Heap.get?_push_size _ rfl, ?_⟩⟩
    refine CellO.any (v := none) _ ?_
    unfold CellO
    rfl
  have S₅ : St B r ((H2.objs.size, FrO []) :: (s₂.heap.objs.size, LstO []) :: (F 0 ++ ((H2.objs.size + 1, CellA) :: l))) { s₂ with heap := (H2.push { cls := .type "dict", data := .dict #[] }).push { cls := .type "cell", data := .cell none } } := by
    refine S₄.perm ?_
    refine List.Perm.trans ?_ (List.Perm.trans (List.Perm.cons _ (List.Perm.swap _ _ _)) (List.Perm.swap _ _ _))
    exact List.Perm.cons _ (List.Perm.cons _ List.perm_middle)
  have Hc := H (H2.objs.size + 1) _ (S₅.sub (.cons _ (.cons _ (.refl _)))) (by show mainGlobals < ((H2.push _).push _).objs.size; rw [Heap.size_push]; exact Nat.lt_succ_of_lt hglo3)
  rw [c1]
  refine compCore Hc ⟨rfl, c2.trans e.glob, c3, hrel, c4, hkind⟩ S₅ fun f ys B' s' hJ hle S => hdone _ _ _ _ _ _ hJ hle S f
theorem listCompStore1 {elt target iter : PySem.Expr} {ifs : List PySem.Expr} {scope sc : Scope} {pos pos' spos : Pos} {x kn : Str} {env : Env} {L : Addr} {cs : List (Str × Addr)} {Q : Flow → Shared → Prop}
    (hsw : (pos'.line == pos.line && !(scope.names.any fun p => p.1 == x && (p.2 == .local || p.2 == .cell))) = true)
    (e : EnvOk env L sc cs) (hall : (scope.names.all fun x => !(x.2 == .free) || (cs.lookup x.1).isSome) = true) (hkind : scope.kind = .function)
    (hcf : ∀ n acc, cellsFrom n scope.names acc = (kn, n) :: acc) (hpc : ∀ h, pushCells h scope.names = h.push { cls := .type "cell", data := .cell none })
    (hnames : ∀ y ∈ scope.names, y.2 = .local → scope.names.lookup y.1 = some .local)
    (hs : ∀ x, foldedSetIterable iter env x = pure x) (hl : sc.names.lookup x = some .local)
    (h : wpAny (model prog w) A (eval iter env) (fun xv s₁ => wpAny (model prog w) A (pyIter xv) (fun it s₂ =>
      ∃ I n item F M G tgt need B r l J, St B r (F 0 ++ l) s₂ ∧ mainGlobals < s₂.heap.objs.size ∧ (∀ kc s₃, St B r (F 0 ++ ((kc, CellA) :: l)) s₃ → mainGlobals < s₃.heap.objs.size → CompAt prog w A elt target ifs scope sc ((kn, kc) :: closL cs scope.names []) it s₃ I n item F M G tgt need B r ((kc, CellA) :: l) J) ∧
       ∃ mp, ∃ l' : Addr → Led, (∀ D, Put L (FrO mp) (FrO ((x, .ref D) :: mp)) l (l' D)) ∧ ∀ ys B' D s', J n ys B' → LeB B B' → St B' r ((D, LstO ys) :: l' D) s' → Q .next s') E s₁) E s) :
    wpAny (model prog w) A (exec (.Assign [.Name x pos'] (.ListComp elt [⟨target, iter, ifs, 0⟩] scope pos) spos) env) Q E s := by
  rw [exec_Assign_used _ _ _ _ _ (swaps_of e hl hsw)]
  refine wpAny_bind (wpAny_standAt (wpAny_bind ?_))
  show wpAny _ _ (comprehension (.ListComp elt [⟨target, iter, ifs, 0⟩] scope pos) scope env _ (newList []) false _ (some (assign (.Name x pos') env)) >>= _) _ _ _
  refine wpAny_bind (compEnter1 (Q' := fun _ s => wpAny (model prog w) A (pure ()) (fun _ s => wpAny (model prog w) A (pure Flow.next) Q E s) E s) (use := some (assign (.Name x pos') env)) e hall hkind hcf hpc hnames hs
    (wpAny_mono h (fun xv s₁ h₁ => wpAny_mono h₁ (fun it s₂ h₂ => ?_) fun _ _ e => e) fun _ _ e => e))
  obtain ⟨I, n, item, F, M, G, tgt, need, B, r, l, J, S0, hglo, H, mp, l', hput, done⟩ := h₂
  refine ⟨I, n, item, F, M, G, tgt, need, B, r, l, J, S0, hglo, H, fun ys B' C D kc s' hJ hle S f => ?_⟩
  show wpAny _ A (assign (.Name x pos') env (.ref D)) _ _ _
  refine wpAny_assign_Name (stL e S (.tail (.tail (.tail (hput D)))) hl fun s'' S'' => ?_)
  obtain ⟨o, ho, hf⟩ := S''.get (.head _)
  obtain ⟨m, hn, _⟩ := FrO.ns ho hf
  exact ⟨m, hn, fun h' hsb => wpAny_pure (wpAny_pure (done _ _ _ _ hJ hle ((S''.rid (s' := { s'' with heap := h' }) rfl fun b ob hb q => (hsb.2 b hb).trans q).sub (.cons_cons _ (.cons _ (.refl _))))))⟩
theorem negC {B : Addr → Option Obj} {r : Rest} {l : Led} {env : Env} {Q : Value → Shared → Prop} {i : Int} {k pos pos'} (S : St B r l s) (h : ∀ t s', St B r l s' → Q (.int (-i) t) s') : wpAny (model prog w) A (eval (.UnaryOp .USub (.Constant (.int i) k pos) pos') env) Q E s :=
  wpAny_UnaryOp (cInt S fun t s' S' => P.neg_int (h _ _ (S'.tok _)))
theorem itemTail {value slice : PySem.Expr} {o i : Value} {ops : List Value} {Q : Value → Shared → Prop} (h : ItemOn (model prog w) A E o i Q s) (hs : subscripted slice false o i = operate ops (getItem o i)) : wpAny (model prog w) A (subscriptTail value slice o i) Q E s := by
  obtain ⟨T, id, hl, hT, hg⟩ := h
  exact tail_any hT hl hg hs
end
-- F12
set_option maxRecDepth 100000
set_option maxHeartbeats 1600000 in
theorem t_law {prog : Program} {w : World} {A : Around} {E : Value → Shared → Prop} {s : Shared} {a : Addr} {oa : Obj} {vs : List Value} {ns : List Int} {Q : Value → Shared → Prop}
    (W : Wd (Mine.hd.heap_39 w.params) s.heap.get?) (R : Rm A 200) (ha : s.heap.get? a = some oa) (hf : LsO vs oa) (hv : IntsAre vs ns) (hn : vs.length ≤ 63) (hP : ∀ m o, m ≤ 3 → o ≤ 3 → Facts m o)
    (h : ∀ s' , Over s.heap.get? s'.heap → s'.os = s.os → s'.gens = ((s.gens.push .finished).push .finished).push .finished → Q (.bool true) s') :
    wpAny (model prog w) A (call (.ref 676) [.ref a]) Q E s := by
  have H0 : ∀ l : Led, Has s.heap.get? l a (LsO vs) := fun l => .stay ha hf
  kd_addB
  intro env s₁ L e S R
  dsimp only at e S
  replace S : St s.heap.get? (restOf s) ((L, FrO [("script", .ref a)]) :: [(L+1+1+1+1+1+1, CellO none), (L+1+1+1+1+1, CellO none), (L+1+1+1+1, CellO none), (L+1+1+1, CellO none), (L+1+1, CellO none), (L+1, CellO none)]) s₁ := S
  repeat kxs_still
  refine t_numbers (W.at ‹St _ _ _ _›) (R.le (by omega)) (St.over ‹St _ _ _ _› _ _ ha) hf hv hn fun fs ms Df s2 hms hm4 x1 x2 => ?_
  have S := St.new ‹St _ _ _ _› x1 x2
  obtain ⟨m0, m1, m2, m3, rfl⟩ : ∃ m0 m1 m2 m3, ms = [m0, m1, m2, m3] := by
    match ms, hm4 with
    | [m0, m1, m2, m3], _ => exact ⟨m0, m1, m2, m3, rfl⟩
  obtain ⟨u0, u1, u2, u3, rfl⟩ : ∃ u0 u1 u2 u3, fs = [.int m0 u0, .int m1 u1, .int m2 u2, .int m3 u3] := by
    obtain ⟨u0, g1, rfl, h1⟩ := IntsAre.cons_inv hms
    obtain ⟨u1, g2, rfl, h2⟩ := IntsAre.cons_inv h1
    obtain ⟨u2, g3, rfl, h3⟩ := IntsAre.cons_inv h2
    obtain ⟨u3, g4, rfl, h4⟩ := IntsAre.cons_inv h3
    cases h4
    exact ⟨u0, u1, u2, u3, rfl⟩
  repeat kxs_still
  refine itemL ‹St _ _ _ _› (Has.ls (by kcj_m)) (by decide) (by decide) (by exact rfl) ?_
  repeat kxs_still
  refine itemL ‹St _ _ _ _› (Has.ls (by kcj_m)) (by decide) (by decide) (by exact rfl) ?_
  repeat kxs_still
  rename_i s3 S3
  clear S
  obtain ⟨m, hm, hm3⟩ : ∃ m : Nat, m0.fmod 4 = (m : Int) ∧ m ≤ 3 := ⟨(m0.fmod 4).toNat, by have := Int.fmod_nonneg_of_pos m0 (b := 4) (by decide); omega, by have := Int.fmod_lt_of_pos m0 (b := 4) (by decide); omega⟩
  obtain ⟨o, ho, ho3⟩ : ∃ o : Nat, m1.fmod 4 = (o : Int) ∧ o ≤ 3 := ⟨(m1.fmod 4).toNat, by have := Int.fmod_nonneg_of_pos m1 (b := 4) (by decide); omega, by have := Int.fmod_lt_of_pos m1 (b := 4) (by decide); omega⟩
  rw [hm, ho] at S3 ⊢
  refine t_words (W.at S3) (R.le (by omega)) hm3 ho3 fun ws Dw s4 hws x3 x4 => ?_
  obtain ⟨ow, how, hle1, S⟩ := (S3.new x3 x4).freeze
  have W1 := W.le hle1
  have HW : ∀ l : Led, Has (setB s.heap.get? Dw ow) l Dw (LstO ws) := fun l => .stay (setB_self _ _ _) how
  have HW2 : ∀ l : Led, Has (setB s.heap.get? Dw ow) l Dw (LsO ws) := fun l => .stay (setB_self _ _ _) (LstO.ls _ how)
  generalize hB1 : setB s.heap.get? Dw ow = B1 at *
  clear hB1 S3
  repeat kxs_still
  rename_i s5 S5
  refine' callC0 (K := Mine.hd.heap_39 w.params) (W1.in S5.over) ?hmk ?_
  case hmk => k_is
  refine t_Graph W1 S5 (R.le (by omega)) fun x dx dg dn da s6 S6 => ?_
  repeat kxs_still
  refine itemL ‹St _ _ _ _› (Has.ls (by kcj_m)) (by decide) (by decide) (by exact rfl) ?_
  have FP := hP m o hm3 ho3
  have hwl := StrsAre.length hws
  rw [List.length_map] at hwl
  have hpos := FP.pos
  have hlen := FP.len
  repeat kxs_still
  refine wpAny_Expr (MethodCall_ ?_) (notInter e) rfl
  repeat kxs_still
  refine' gmFn W1 ‹St _ _ _ _› (Has.mem (by kcj_m)) (Has.mem (by kcj_m)) ?g1 ?g2 ?g3 ?g4 ?g5 ?_
  case g1 => k_is
  case g2 => k_is
  case g3 => k_is
  case g4 => k_is
  case g5 => exact rfl
  refine' callFnM W1 ?gf ?_
  case gf => k_is
  repeat kxs_still
  have hj0 := Int.fmod_nonneg_of_pos m2 (b := (ws.length : Int)) (by omega)
  have hj1 := Int.fmod_lt_of_pos m2 (b := (ws.length : Int)) (by omega)
  refine slL_from ‹St _ _ _ _› W1 (HW2 _) (by omega) hj0 (by omega) fun D1 s7 S7 => ?_
  repeat kxs_still
  have hrot : StrsAre (ws.drop (m2.fmod (ws.length : Int)).toNat ++ ws.take (m2.fmod (ws.length : Int)).toNat) (((wordsW m o).drop (m2.fmod (ws.length : Int)).toNat ++ (wordsW m o).take (m2.fmod (ws.length : Int)).toNat).map toS) := by
    rw [List.map_append, List.map_drop, List.map_take]
    exact (hws.drop' _).append' (hws.take' _)
  have hrn : ((wordsW m o).drop (m2.fmod (ws.length : Int)).toNat ++ (wordsW m o).take (m2.fmod (ws.length : Int)).toNat).Nodup :=
    (List.perm_append_comm.nodup_iff).mp (by rw [List.take_append_drop]; exact FP.nodup)
  have hrl : ((wordsW m o).drop (m2.fmod (ws.length : Int)).toNat ++ (wordsW m o).take (m2.fmod (ws.length : Int)).toNat).length = (wordsW m o).length := by
    rw [List.length_append, List.length_drop, List.length_take]; omega
  generalize ((wordsW m o).drop (m2.fmod (ws.length : Int)).toNat ++ (wordsW m o).take (m2.fmod (ws.length : Int)).toNat) = rot at *
  rename_i s10 S10
  refine t_addNodes W1 (S10.perm ((List.perm_append_comm (l₁ := [(x, InsO 626 dx), (dx, NsX (gNames dg dn da)), (dn, DctO prog w []), (da, DctO prog w [])]) (l₂ := [_, _, _])).append_right _)) (R.le (by omega)) (by kcj_m) hrot hrn (by omega) fun kvs s11 hkvs S11 => ?_
  have hkl : kvs.length = (wordsW m o).length := by
    have := congrArg List.length hkvs
    rw [List.length_map, List.length_map] at this
    omega
  have hdnlo := S11.lo (dn, DctO prog w kvs) (by kcj_m)
  obtain ⟨ox, hox, hle2, S12⟩ := (S11.sub (.cons_cons _ (.cons_cons _ (.cons_cons _ (.cons _ (.cons _ (.cons _ (.refl _)))))))).freeze
  obtain ⟨od, hod, hle3, S12⟩ := S12.freeze
  obtain ⟨on', hon, hle4, S12⟩ := S12.freeze
  have HG : ∀ {A : Around} {E : Value → Shared → Prop} {s' : Shared} {Q : Value → Shared → Prop}, Over (setB (setB (setB B1 x ox) dx od) dn on') s'.heap → Rm A 10 → (∀ t s'', Ext s' s'' → Q (.int (wordsW m o).length t) s'') → wpAny (model prog w) A (call (.builtin "len") [.ref x]) Q E s' := by
    intro A E s' Q O R hq
    refine t_len ((((W1.le hle2).le hle3).le hle4).le O) (R.le (by omega)) (O _ _ (hle4 _ _ (hle3 _ _ (setB_self _ _ _)))) hox (O _ _ (hle4 _ _ (setB_self _ _ _))) hod (O _ _ (setB_self _ _ _)) hon hdnlo (by omega) fun t s'' x => ?_
    rw [hkl]
    exact hq t s'' x
  have hle5 : LeB B1 (setB (setB (setB B1 x ox) dx od) dn on') := (hle2.trans hle3).trans hle4
  clear hle2 hle3 hle4 hox hod hon hdnlo
  generalize (setB (setB (setB B1 x ox) dx od) dn on') = B2 at *
  have W2 := W1.le hle5
  have HWa := fun l => (HW l).le hle5
  have HWb := fun l => (HW2 l).le hle5
  dsimp only [List.append_eq, List.nil_append] at S12
  clear HW HW2 W1 S11 S10 hkvs hrot hrn hrl
  repeat kxs_still
  refine mulS ‹St _ _ _ _› (by rfl) (by omega) fun _ _ _ => ?_
  repeat kxs_still
  refine mulS ‹St _ _ _ _› (by rfl) (by omega) fun _ _ _ => ?_
  refine addW ‹St _ _ _ _› (Nat.le_trans (FP.six _ FP.first) (by decide)) fun t1 s12 S13 => ?_
  clear S12
  change St _ _ _ _ at S13
  rw [show (List.replicate m [97]).flatten ++ (List.replicate o [98]).flatten = firstW m o from rfl]
  obtain ⟨Dm, hD⟩ := FP.one
  repeat kxs_still
  rename_i s14 S14
  refine t_depths (wordsW m o).length (wordsW m o).length (wordsW m o) Dm W2 S14 (R.le (by omega)) (.inl ⟨rfl, rfl⟩) HG (by omega) FP.six FP.shut FP.first hD.fold hD.short fun d kvs2 s15 hkv2 S15 => ?_
  have hr := S14.rest
  have hr1 : s14.gens = s.gens := congrArg Prod.fst hr
  have hr2 : (s14.drawn, s14.os) = (s.drawn, s.os) := congrArg Prod.snd hr
  rw [hr1, hr2] at S15
  clear hr hr1 hr2 S14 S13
  have hdlo := S15.lo (d, DctO prog w kvs2) (.head _)
  obtain ⟨od, hod, hle6, S16⟩ := S15.freeze
  have W3 := W2.le hle6
  have HDd : ∀ l : Led, Has (setB B2 d od) l d (DctO prog w kvs2) := fun l => .stay (setB_self _ _ _) hod
  obtain ⟨ep, hep⟩ := DctO.ep hod
  have hBd : (setB B2 d od) d = some od := setB_self _ _ _
  replace HWa := fun l => (HWa l).le hle6
  replace HWb := fun l => (HWb l).le hle6
  replace HG : ∀ {A : Around} {E : Value → Shared → Prop} {s' : Shared} {Q : Value → Shared → Prop}, Over (setB B2 d od) s'.heap → Rm A 10 → (∀ t s'', Ext s' s'' → Q (.int (wordsW m o).length t) s'') → wpAny (model prog w) A (call (.builtin "len") [.ref x]) Q E s' := fun O R hq => HG (fun b o e => O b o (hle6 _ _ e)) R hq
  have hle7 := (hle1.trans hle5).trans hle6
  generalize (setB B2 d od) = B3 at *
  clear S15 W2 hle1 hle5 hle6
  have hk2l : kvs2.length = (wordsW m o).length := (Two.length hkv2).trans (by have := hD.keys.length_eq; rw [List.length_map] at this; exact this)
  clear W
  repeat kxs_still
  rw [if_neg (show ¬ ((Value.ref d == Value.none) = true) from Bool.false_ne_true)]
  repeat kxs_still
  refine sortDict W3 ‹St _ _ _ _› R.handled (HDd _) hdlo (by omega) fun D4 vs4 ss4 s17 h41 h42 h43 S17 => ?_
  repeat kxs_still
  refine sortStrs W3 ‹St _ _ _ _› (HWb _) hws (by omega) fun D5 vs5 ss5 s18 h51 h52 h53 S18 => ?_
  repeat kxs_still
  have hk : ss4 = ss5 := sortedS_one ((h42.trans (by rw [hkv2.keys]; exact hD.keys.map toS)).trans h52.symm) h43 h53
  have ok5 := strOk_perm h52 FP.letters
  refine neStrs ‹St _ _ _ _› (Has.ls (by kcj_m)) (Has.ls (by kcj_m)) h41 h51 (by rw [hk]; exact ok5) ok5 (R.eqRoom (by omega)) ?_
  rw [decide_eq_true hk]
  have hkn : (Dm.map (·.1)).Nodup := (hD.keys.nodup_iff).mpr FP.nodup
  repeat kxs_still
  rw [if_neg (show ¬ ((!true) = true) by decide)]
  repeat kxs_still
  kd_addW
  repeat kxs_still
  refine iterD W3 ‹St _ _ _ _› hBd hep hdlo fun I1 s19 S19 => ?_
  refine ⟨_, _, _, _, _, _, _, _, _, _, _, fun i ys _ => IntsAre ys ((Dm.take i).map (·.2)), ⟨rfl, iterKeys I1 d kvs2 ep od hep, trivial, ?c1, R.handled, W3.glo (St.over ‹St _ _ _ _›), fun S' hle => (W3.le hle).glo S'.over, ‹St _ _ _ _›, .nil, ?c2, (fun B'' l'' hle _ => hle _ _ hBd), ?c3⟩, ?c4⟩
  case c1 => exact small_le (by omega)
  case c2 => intro i ys B' h; rw [IntsAre.length h]; simp; omega
  case c3 =>
    intro i v ys B' C cenv D s hi hv hJ hle e S
    have W' := W3.le hle
    dsimp only [List.cons_append, List.nil_append] at S
    obtain ⟨t, rfl⟩ := hv
    obtain ⟨xk, hxk, ek⟩ := keyAt hkv2 hi
    rw [ek]
    repeat kxs_still
    rw [if_pos rfl]
    repeat kxs_still
    obtain ⟨tv, hvv⟩ := hkv2.some (lookup_mem hkn (List.mem_of_getElem? hxk))
    refine dTail ‹St _ _ _ _› ((HDd _).le hle) hvv fun s0 S0 => ?_
    refine ⟨B', _, LeB.refl _, ?_, S0⟩
    rw [List.take_add_one, hxk, List.map_append]
    exact hJ.append (IntsAre.one _ _)
  case c4 =>
  intro ys5 B4 D6 s20 hJ5 hle8 S20
  have hDl : Dm.length = kvs2.length := (Two.length hkv2).symm
  have W4 := W3.le hle8
  clear S19
  repeat kxs_still
  rw [List.take_of_length_le (show Dm.length ≤ kvs2.length by have := Two.length hkv2; omega)] at hJ5
  kd_addW
  repeat kxs_still
  refine iterD W4 ‹St _ _ _ _› (hle8 _ _ hBd) hep hdlo fun I2 s19 S19 => ?_
  refine ⟨_, _, _, _, _, _, _, _, _, _, _, fun i ys _ => IntsAre ys ((Dm.take i).map (·.2)), ⟨rfl, iterKeys I2 d kvs2 ep od hep, trivial, ?c1, R.handled, W4.glo (St.over ‹St _ _ _ _›), fun S' hle => (W4.le hle).glo S'.over, ‹St _ _ _ _›, .nil, ?c2, (fun B'' l'' hle _ => hle _ _ (hle8 _ _ hBd)), ?c3⟩, ?c4⟩
  case c1 => exact small_le (by omega)
  case c2 => intro i ys B' h; rw [IntsAre.length h]; simp; omega
  case c3 =>
    intro i v ys B' C cenv D s hi hv hJ hle e S
    have W' := W4.le hle
    dsimp only [List.cons_append, List.nil_append] at S
    obtain ⟨t, rfl⟩ := hv
    obtain ⟨xk, hxk, ek⟩ := keyAt hkv2 hi
    rw [ek]
    repeat kxs_still
    rw [if_pos rfl]
    repeat kxs_still
    obtain ⟨tv, hvv⟩ := hkv2.some (lookup_mem hkn (List.mem_of_getElem? hxk))
    refine dTail ‹St _ _ _ _› ((HDd _).le (hle8.trans hle)) hvv fun s0 S0 => ?_
    refine ⟨B', _, LeB.refl _, ?_, S0⟩
    rw [List.take_add_one, hxk, List.map_append]
    exact hJ.append (IntsAre.one _ _)
  case c4 =>
  intro ys6 B5 D7 s21 hJ6 hle9 S21
  have W5 := W4.le hle9
  rw [List.take_of_length_le (show Dm.length ≤ kvs2.length by have := Two.length hkv2; omega)] at hJ6
  have hl5 := IntsAre.length hJ5
  have hl6 := IntsAre.length hJ6
  rw [List.length_map] at hl5 hl6
  repeat kxs_still
  refine sortInts W5 ‹St _ _ _ _› (Has.ls (by kcj_m)) hJ6 (by rw [List.length_map]; omega) fun D8 vs8 ss8 s22 h81 h82 h83 S22 => ?_
  have hk8 : Dm.map (·.2) = ss8 := (sortedZ_one h82 h83 hD.rise).symm
  repeat kxs_still
  refine neInts ‹St _ _ _ _› (Has.ls (by kcj_m)) (Has.ls (by kcj_m)) hJ5 h81 (R.eqRoom (by omega)) ?_
  rw [decide_eq_true hk8]
  repeat kxs_still
  rw [if_neg (show ¬ ((!true) = true) by decide)]
  repeat kxs_still
  rw [if_neg Bool.false_ne_true]
  repeat kxs_still
  clear S20 S21
  have S23 := S22.sub (.cons _ (.cons _ (.cons _ (.cons _ (.cons _ (.refl _))))))
  clear S22
  have hmo9 : (m : Int) * (o : Int) ≤ 9 := by have := Nat.mul_le_mul hm3 ho3; exact_mod_cast this
  have hmo0 : 0 ≤ (m : Int) * (o : Int) := Int.mul_nonneg (by omega) (by omega)
  refine' listCompStore1 (kn := "k") ?h0 ‹EnvOk _ _ _ _› ?h1 ?h2 ?ha ?hb ?h4 ?h5 ?h6 ?_
  case h0 => exact rfl
  case h1 => exact rfl
  case h2 => exact rfl
  case ha => intro _ _; exact rfl
  case hb => intro _; exact rfl
  case h4 => decide +kernel
  case h5 => intro _; exact rfl
  case h6 => exact rfl
  repeat kxs_still
  have HDd5 : ∀ l : Led, Has B5 l d (DctO prog w kvs2) := fun l => (HDd l).le (hle8.trans hle9)
  have HW5 : ∀ l : Led, Has B5 l Dw (LsO ws) := fun l => (HWb l).le (hle8.trans hle9)
  refine ⟨_, _, _, _, _, _, _, _, _, _, _, fun i ys _ => IntsAre ys (layAt (wordsW m o) Dm i), ‹St _ _ _ _›, W5.glo (St.over ‹St _ _ _ _›), fun kc s3 S3 g3 => ⟨rfl, iterRange _ 0 _, trivial, ?c1, R.handled, g3, fun S' hle => (W5.le hle).glo S'.over, S3, .nil, ?c2, (fun _ _ _ _ => trivial), ?c3⟩, _, _, fun D' => Put.tail Put.head, ?c4⟩
  case c1 => exact small_le (by omega)
  case c2 => intro i ys B' h; rw [IntsAre.length h]; simp [layAt]
  case c3 =>
    intro i v ys B' C cenv D s hi hv hJ hle e S
    have W' := W5.le hle
    obtain ⟨tv, rfl⟩ := hv
    obtain ⟨vc, S⟩ := St.openCell (l1 := [_, _, _]) S
    dsimp only [List.cons_append, List.nil_append] at S
    repeat kxs_still
    rw [if_pos rfl]
    repeat kxs_still
    kd_addW
    repeat kxs_still
    have HWi := fun l => (HW5 l).le hle
    refine iterL ‹St _ _ _ _› W' (HWi _) fun I2 s4 S4 => ?_
    refine ⟨_, _, _, _, _, _, _, _, _, _, _, fun j zs _ => StrsAre zs ((((wordsW m o).take j).filter fun p => Dm.lookup p == some (i : Int)).map toS), ⟨rfl, iterList I2 _ ws (small_le (by omega)), trivial, ?e1, R.handled, W'.glo (St.over ‹St _ _ _ _›), fun S' hle => (W'.le hle).glo S'.over, ‹St _ _ _ _›, .nil, ?e2, (fun B'' l'' hle _ => (HWi l'').le hle), ?e3⟩, ?e4⟩
    case e1 => exact small_le (by omega)
    case e2 => intro j zs B'' h; rw [StrsAre.length h, List.length_map]; exact Nat.le_trans (List.length_filter_le _ _) (by rw [List.length_take]; omega)
    case e3 =>
      intro j v zs B'' C2 cenv2 D2 s hj hv hJ2 hle2 e S
      have W'' := W'.le hle2
      dsimp only [List.cons_append, List.nil_append] at S
      obtain ⟨p', t', rfl, hp'⟩ := StrsAre.item hws j v hv
      rw [List.getElem?_map] at hp'
      obtain ⟨p, hpj, rfl⟩ := Option.map_eq_some_iff.mp hp'
      have hpm : p ∈ Dm.map (·.1) := hD.keys.mem_iff.mpr (List.mem_of_getElem? hpj)
      obtain ⟨xk, hxk, rfl⟩ := List.mem_map.mp hpm
      obtain ⟨tv, hvv⟩ := hkv2.some (lookup_mem hkn hxk)
      repeat kxs_still
      refine dTail ‹St _ _ _ _› ((HDd5 _).le (hle.trans hle2)) hvv fun s0 S0 => ?_
      repeat kxs_still
      have hlk := lookup_mem hkn hxk
      have step : ((((wordsW m o).take (j + 1)).filter fun p => Dm.lookup p == some (i : Int)).map toS) = ((((wordsW m o).take j).filter fun p => Dm.lookup p == some (i : Int)).map toS) ++ (([xk.1].filter fun p => Dm.lookup p == some (i : Int)).map toS) := by
        rw [List.take_add_one, hpj, List.filter_append, List.map_append]; rfl
      by_cases hc : xk.2 = (i : Int)
      · rw [if_pos (by rw [beq_iff_eq]; omega)]
        repeat kxs_still
        refine ⟨B'', _, LeB.refl _, ?_, ‹St _ _ _ _›⟩
        rw [step, List.filter_cons_of_pos (by rw [hlk, hc]; exact beq_self_eq_true _)]
        exact hJ2.append' (StrsAre.one _ _)
      · rw [if_neg (by rw [beq_iff_eq]; omega)]
        refine ⟨B'', _, LeB.refl _, ?_, ‹St _ _ _ _›⟩
        rw [step, List.filter_cons_of_neg (by rw [hlk]; simpa using hc)]
        simpa using hJ2
    case e4 =>
    intro zs B2 D2 s5 hz hle2 S5
    have W'' := W'.le hle2
    clear S4
    rw [List.take_of_length_le (by omega)] at hz
    have hzl := StrsAre.length hz
    rw [List.length_map] at hzl
    have hzf := List.length_filter_le (fun p => Dm.lookup p == some (i : Int)) (wordsW m o)
    repeat kxs_still
    rename_i tz _ s6 S6
    refine ⟨B2, [], hle2, ?_, ((S6.sub (.cons _ (.refl _))).weaken (.tail (.tail (.tail .head))) CellO.any)⟩
    have e1 : layAt (wordsW m o) Dm (i + 1) = layAt (wordsW m o) Dm i ++ [((((wordsW m o).filter fun p => Dm.lookup p == some (i : Int)).length : Nat) : Int)] := by
      unfold layAt
      rw [List.range_succ, List.map_append]
      rfl
    rw [e1, ← hzl]
    exact hJ.append (IntsAre.one _ _)
  case c4 =>
  intro ys9 B6 D9 s23 hJ9 hle10 S24
  have W6 := W5.le hle10
  clear S23
  repeat kxs_still
  have hN : ((m : Int) * (o : Int) + 2 - 0).toNat = m * o + 2 := by
    have : (m : Int) * (o : Int) = ((m * o : Nat) : Int) := (Int.natCast_mul ..).symm
    omega
  have hmo : m * o ≤ 9 := Nat.mul_le_mul hm3 ho3
  rw [hN] at hJ9
  kd_addW
  repeat kxs_still
  refine ⟨_, _, _, _, _, _, _, _, _, _, _, fun i ys _ => IntsAre ys (partAt m o i), ⟨rfl, iterRange _ 0 _, trivial, ?c1, R.handled, W6.glo (St.over ‹St _ _ _ _›), fun S' hle => (W6.le hle).glo S'.over, ‹St _ _ _ _›, .nil, ?c2, (fun _ _ _ _ => trivial), ?c3⟩, ?c4⟩
  case c1 => exact small_le (by omega)
  case c2 => intro i ys B' h; rw [IntsAre.length h]; simp [partAt]
  case c3 =>
    intro i v ys B' C cenv D s hi hv hJ hle e S
    have W' := W6.le hle
    obtain ⟨tv, rfl⟩ := hv
    rw [hN] at hi
    rw [Int.zero_add]
    dsimp only [List.cons_append, List.nil_append] at S
    repeat kxs_still
    rw [if_pos rfl]
    repeat kxs_still
    refine t_parted o (W'.at ‹St _ _ _ _›) (R.le (by omega)) (by omega) hm3 ho3 fun t s' x => ?_
    have S := St.ext ‹St _ _ _ _› x
    refine ⟨B', _, LeB.refl _, ?_, S⟩
    have e1 : partAt m o (i + 1) = partAt m o i ++ [((partedN o i m : Nat) : Int)] := by
      unfold partAt
      rw [List.range_succ, List.map_append]
      rfl
    rw [e1]
    exact hJ.append (IntsAre.one _ _)
  case c4 =>
  intro ys10 B7 D10 s24 hJ10 hle11 S25
  rw [hN] at hJ10
  have W7 := W6.le hle11
  clear S24
  refine neInts ‹St _ _ _ _› (Has.ls (by kcj_m)) (Has.ls (by kcj_m)) hJ9 hJ10 (R.eqRoom (by omega)) ?_
  rw [decide_eq_true hD.lay]
  have hl9 := IntsAre.length hJ9
  rw [hD.lay] at hl9 hJ9
  have hpl : (partAt m o (m * o + 2)).length = m * o + 2 := by simp [partAt]
  repeat kxs_still
  rw [if_neg (show ¬ ((!true) = true) by decide)]
  repeat kxs_still
  refine negC ‹St _ _ _ _› fun _ _ _ => ?_
  repeat kxs_still
  refine slL_init ‹St _ _ _ _› W7 (Has.ls (by kcj_m)) (by omega) fun D11 s25 S26 => ?_
  repeat kxs_still
  refine negC ‹St _ _ _ _› fun _ _ _ => ?_
  repeat kxs_still
  refine slL_init ‹St _ _ _ _› W7 (Has.ls (by kcj_m)) (by omega) fun D12 s26 S27 => ?_
  repeat kxs_still
  refine negC ‹St _ _ _ _› fun _ _ _ => ?_
  repeat kxs_still
  refine' itemTail (slL_rev ‹St _ _ _ _› W7 (Has.ls (by kcj_m)) (by rw [List.length_take]; omega) fun D13 s27 S28 => ?_) ?hsl
  case hsl => with_unfolding_all rfl
  repeat kxs_still
  have hys : IntsAre (ys9.take (ys9.length - 1)) ((partAt m o (m * o + 2)).take (m * o + 1)) := by
    rw [show ys9.length - 1 = m * o + 1 by omega]
    exact hJ9.take _
  refine neInts ‹St _ _ _ _› (Has.ls (by kcj_m)) (Has.ls (by kcj_m)) hys (PyProof.Rows.IntsAre.reverse hys) (R.eqRoom (by omega)) ?_
  rw [decide_eq_true hD.sym]
  repeat kxs_still
  rw [if_neg (show ¬ ((!true) = true) by decide)]
  repeat kxs_still
  rw [if_neg Bool.false_ne_true]
  have hle12 : LeB B3 B7 := ((hle8.trans hle9).trans hle10).trans hle11
  have HW7 : ∀ l : Led, Has B7 l Dw (LsO ws) := fun l => (HWb l).le hle12
  have S29 := S28.sub (.cons _ (.cons _ (.cons _ (.cons _ (.refl _)))))
  clear S25 S26 S27 S28 HW5 HDd5
  repeat kxs_still
  refine itemL ‹St _ _ _ _› (Has.ls (by kcj_m)) (by decide) (by decide) (by exact rfl) ?_
  repeat kxs_still
  have hb0 := Int.fmod_nonneg_of_pos m3 (b := (ws.length : Int)) (by omega)
  have hb1 := Int.fmod_lt_of_pos m3 (b := (ws.length : Int)) (by omega)
  obtain ⟨b, hbj⟩ : ∃ b, (wordsW m o)[(m3.fmod (ws.length : Int)).toNat]? = some b := ⟨_, List.getElem?_eq_getElem (by omega)⟩
  have hbm := List.mem_of_getElem? hbj
  obtain ⟨tb, hwb⟩ := hws.at (j := (m3.fmod (ws.length : Int)).toNat) (y := toS b) (by rw [List.getElem?_map, hbj]; rfl)
  refine itemL ‹St _ _ _ _› (HW7 _) hb0 (by omega) hwb ?_
  obtain ⟨D2, hB⟩ := FP.two b hbm
  repeat kxs_still
  rename_i s30 S30
  refine t_depths (wordsW m o).length (wordsW m o).length (wordsW m o) D2 W7 S30 (R.le (by omega)) (.inl ⟨rfl, rfl⟩) (fun O R hq => HG (fun b o e => O b o (hle12 _ _ e)) R hq) (by omega) FP.six FP.shut hbm hB.fold hB.short fun d2 kvs3 s31 hkv3 S31 => ?_
  have hr := S30.rest
  have hr1 : s30.gens = s.gens.push .finished := congrArg Prod.fst hr
  have hr2 : (s30.drawn, s30.os) = (s.drawn, s.os) := congrArg Prod.snd hr
  rw [hr1, hr2] at S31
  clear hr hr1 hr2 S30 S29
  have hd2lo := S31.lo (d2, DctO prog w kvs3) (.head _)
  obtain ⟨od2, hod2, hle13, S32⟩ := S31.freeze
  have W8 := W7.le hle13
  have HD2 : ∀ l : Led, Has (setB B7 d2 od2) l d2 (DctO prog w kvs3) := fun l => .stay (setB_self _ _ _) hod2
  have HW8 : ∀ l : Led, Has (setB B7 d2 od2) l Dw (LsO ws) := fun l => (HW7 l).le hle13
  have hle14 := hle12.trans hle13
  generalize (setB B7 d2 od2) = B8 at *
  clear S31
  have hB2n : (D2.map (·.1)).Nodup := (hB.keys.nodup_iff).mpr FP.nodup
  have hB2l : D2.length = (wordsW m o).length := by have := hB.keys.length_eq; rw [List.length_map] at this; exact this
  repeat kxs_still
  rw [if_neg (show ¬ ((Value.ref d2 == Value.none) = true) from Bool.false_ne_true)]
  repeat kxs_still
  kd_addW
  repeat kxs_still
  rename_i I3 s33 S33
  refine ⟨_, _, _, _, _, _, _, _, _, _, _, fun j ys B'' => Two (PairAt B'') ys (((wordsW m o).take j).map fun p => (p, Mine.steps b p)), ⟨rfl, iterList I3 _ ws (small_le (by omega)), trivial, ?c1, R.handled, W8.glo (St.over ‹St _ _ _ _›), fun S' hle => (W8.le hle).glo S'.over, ‹St _ _ _ _›, .nil, ?c2, (fun B'' l'' hle _ => (HW8 l'').le hle), ?c3⟩, ?c4⟩
  case c1 => exact small_le (by omega)
  case c2 => intro j ys B'' h; rw [h.length, List.length_map, List.length_take]; omega
  case c3 =>
    intro j v ys B' C cenv D s hj hv hJ hle e S
    have W' := W8.le hle
    dsimp only [List.cons_append, List.nil_append] at S
    obtain ⟨p', t', rfl, hp'⟩ := StrsAre.item hws j v hv
    rw [List.getElem?_map] at hp'
    obtain ⟨p, hpj, rfl⟩ := Option.map_eq_some_iff.mp hp'
    have hpm := List.mem_of_getElem? hpj
    repeat kxs_still
    rw [if_pos rfl]
    repeat kxs_still
    refine t_steps (W'.at ‹St _ _ _ _›) (R.le (by omega)) (FP.six _ hbm) (FP.six _ hpm) (FP.places _ hbm _ hpm) fun t s' x => ?_
    have S := St.ext ‹St _ _ _ _› x
    repeat kxs_still
    obtain ⟨ob2, hP, hle2, S⟩ := St.freeze ‹St _ _ _ _›
    refine ⟨_, _, hle2, ?_, S⟩
    rw [List.take_add_one, hpj, List.map_append]
    exact (hJ.imp (PairAt.le hle2)).append (.one ⟨_, _, _, _, rfl, setB_self _ _ _, hP⟩)
  case c4 =>
  intro ys11 B9 D14 s34 hJ11 hle15 S35
  have W9 := W8.le hle15
  clear S33
  rw [List.take_of_length_le (by omega)] at hJ11
  repeat kxs_still
  refine dOfPairs W9 ‹St _ _ _ _› R.handled (by kcj_m) hJ11 (by rw [List.map_map]; exact (List.map_id'' (fun _ => rfl) _).symm ▸ FP.nodup) (by rw [List.length_map]; omega) fun d3 kvs4 s35 hkv4 S36 => ?_
  have hd3lo := S36.lo (d3, DctO prog w kvs4) (.head _)
  repeat kxs_still
  refine neD ‹St _ _ _ _› ((HD2 _).le hle15) (Has.mem (by kcj_m)) hd2lo hd3lo hkv3 hkv4 (by have := R.eqRoom (by omega); omega) (fun y hy => ?_) (by rw [List.length_map]; omega) ?_
  · have hym : y.1 ∈ wordsW m o := hB.keys.mem_iff.mp (List.mem_map.mpr ⟨y, hy, rfl⟩)
    have := lookup_mem (D := (wordsW m o).map fun p => (p, Mine.steps b p)) (by rw [List.map_map]; exact (List.map_id'' (fun _ => rfl) _).symm ▸ FP.nodup) (x := (y.1, Mine.steps b y.1)) (List.mem_map.mpr ⟨y.1, hym, rfl⟩)
    rw [hB.steps y hy]
    exact this
  repeat kxs_still
  rw [if_neg Bool.false_ne_true]
  repeat kxs_still
  rw [if_neg Bool.false_ne_true]
  have HD9 : ∀ l : Led, Has B9 l d2 (DctO prog w kvs3) := fun l => (HD2 l).le hle15
  have HW9 : ∀ l : Led, Has B9 l Dw (LsO ws) := fun l => (HW8 l).le hle15
  clear S32 S35 HW7 HW8 HD2
  repeat kxs_still
  refine itemL ‹St _ _ _ _› (Has.ls (by kcj_m)) (by decide) (by decide) (by exact rfl) ?_
  repeat kxs_still
  rename_i tl s37 S37
  obtain ⟨lim, hlim, hl4⟩ : ∃ lim : Nat, (m2.fdiv 7).fmod 4 = (lim : Int) ∧ lim < 4 := ⟨((m2.fdiv 7).fmod 4).toNat, by have := Int.fmod_nonneg_of_pos (m2.fdiv 7) (b := 4) (by decide); omega, by have := Int.fmod_lt_of_pos (m2.fdiv 7) (b := 4) (by decide); omega⟩
  rw [hlim] at S37 ⊢
  obtain ⟨D3, hN1, hN2, hN3, hN4⟩ := hB.near lim hl4
  have hle16 : LeB B3 B9 := hle14.trans hle15
  refine t_depths (wordsW m o).length lim (wordsW m o) D3 W9 S37 (R.le (by omega)) (.inr ⟨_, rfl⟩) (fun O R hq => HG (fun b o e => O b o (hle16 _ _ e)) R hq) (by omega) FP.six FP.shut hbm hN1 hN2 fun d4 kvs5 s38 hkv5 S38 => ?_
  have hr := S37.rest
  have hr1 : s37.gens = (s.gens.push .finished).push .finished := congrArg Prod.fst hr
  have hr2 : (s37.drawn, s37.os) = (s.drawn, s.os) := congrArg Prod.snd hr
  rw [hr1, hr2] at S38
  clear hr hr1 hr2 S37 S36
  have hd4lo := S38.lo (d4, DctO prog w kvs5) (.head _)
  repeat kxs_still
  kd_addW
  repeat kxs_still
  rename_i I4 s40 S40
  refine ⟨_, _, _, _, _, _, _, _, _, _, _, fun j ys B'' => Two (PairAt B'') ys ((((wordsW m o).take j).filter fun p => decide ((D2.lookup p).getD 0 ≤ (lim : Int))).map fun p => (p, (D2.lookup p).getD 0)), ⟨rfl, iterList I4 _ ws (small_le (by omega)), trivial, ?c1, R.handled, W9.glo (St.over ‹St _ _ _ _›), fun S' hle => (W9.le hle).glo S'.over, ‹St _ _ _ _›, .nil, ?c2, (fun B'' l'' hle _ => (HW9 l'').le hle), ?c3⟩, ?c4⟩
  case c1 => exact small_le (by omega)
  case c2 => intro j ys B'' h; rw [h.length, List.length_map]; exact Nat.le_trans (List.length_filter_le _ _) (by rw [List.length_take]; omega)
  case c3 =>
    intro j v ys B' C cenv D s hj hv hJ hle e S
    have W' := W9.le hle
    dsimp only [List.cons_append, List.nil_append] at S
    obtain ⟨p', t', rfl, hp'⟩ := StrsAre.item hws j v hv
    rw [List.getElem?_map] at hp'
    obtain ⟨p, hpj, rfl⟩ := Option.map_eq_some_iff.mp hp'
    have hpm : p ∈ D2.map (·.1) := hB.keys.mem_iff.mpr (List.mem_of_getElem? hpj)
    obtain ⟨xk, hxk, rfl⟩ := List.mem_map.mp hpm
    have hlk := lookup_mem hB2n hxk
    obtain ⟨tv, hvv⟩ := hkv3.some hlk
    repeat kxs_still
    refine dTail ‹St _ _ _ _› ((HD9 _).le hle) hvv fun s0 S0 => ?_
    repeat kxs_still
    have step : ((((wordsW m o).take (j + 1)).filter fun p => decide ((D2.lookup p).getD 0 ≤ (lim : Int))).map fun p => (p, (D2.lookup p).getD 0)) = ((((wordsW m o).take j).filter fun p => decide ((D2.lookup p).getD 0 ≤ (lim : Int))).map fun p => (p, (D2.lookup p).getD 0)) ++ (([xk.1].filter fun p => decide ((D2.lookup p).getD 0 ≤ (lim : Int))).map fun p => (p, (D2.lookup p).getD 0)) := by
      rw [List.take_add_one, hpj, List.filter_append, List.map_append]; rfl
    by_cases hc : xk.2 ≤ (lim : Int)
    · rw [if_pos (by simpa using hc)]
      repeat kxs_still
      refine dTail ‹St _ _ _ _› ((HD9 _).le hle) hvv fun s1 S1 => ?_
      repeat kxs_still
      obtain ⟨ob2, hP, hle2, S⟩ := St.freeze ‹St _ _ _ _›
      refine ⟨_, _, hle2, ?_, S⟩
      rw [step, List.filter_cons_of_pos (by rw [hlk]; simpa using hc)]
      refine (hJ.imp (PairAt.le hle2)).append (Two.one (R := PairAt _) (b := (xk.1, (D2.lookup xk.1).getD 0)) ?_)
      rw [show (D2.lookup xk.1).getD 0 = xk.2 by rw [hlk]; rfl]
      exact ⟨_, _, _, _, rfl, setB_self _ _ _, hP⟩
    · rw [if_neg (by simpa using hc)]
      refine ⟨B', _, LeB.refl _, ?_, ‹St _ _ _ _›⟩
      rw [step, List.filter_cons_of_neg (by rw [hlk]; simpa using hc)]
      simpa using hJ
  case c4 =>
  intro ys12 B10 D15 s41 hJ12 hle17 S41
  have W10 := W9.le hle17
  clear S40 S38
  rw [List.take_of_length_le (by omega)] at hJ12
  have hnn : (nearW (wordsW m o) D2 lim).Nodup := FP.nodup.sublist List.filter_sublist
  have hnl : (nearW (wordsW m o) D2 lim).length ≤ (wordsW m o).length := List.length_filter_le _ _
  have hfst : ∀ l : List W, ((l.map fun p => (p, (D2.lookup p).getD 0)).map (·.1)) = l := fun l => by rw [List.map_map]; exact List.map_id'' (fun _ => rfl) _
  repeat kxs_still
  refine dOfPairs W10 ‹St _ _ _ _› R.handled (by kcj_m) hJ12 (by rw [hfst]; exact hnn) (by rw [List.length_map]; exact Nat.le_trans hnl (by omega)) fun d5 kvs6 s42 hkv6 S42 => ?_
  have hd5lo := S42.lo (d5, DctO prog w kvs6) (.head _)
  repeat kxs_still
  refine eqD ‹St _ _ _ _› (Has.mem (by kcj_m)) (Has.mem (by kcj_m)) hd4lo hd5lo hkv5 hkv6 (by have := R.eqRoom (by omega); omega) (fun y hy => ?_) (by rw [List.length_map]; exact hN3) ?_
  · obtain ⟨hy1, hy2⟩ := hN4 y hy
    have := lookup_mem (D := (nearW (wordsW m o) D2 lim).map fun p => (p, (D2.lookup p).getD 0)) (by rw [hfst]; exact hnn) (x := (y.1, (D2.lookup y.1).getD 0)) (List.mem_map.mpr ⟨y.1, hy1, rfl⟩)
    rw [hy2] at this
    exact this
  repeat kxs_still
  have hr := S42.rest
  exact h _ (fun b o e => S42.over b o (hle17 _ _ (hle16 _ _ (hle7 _ _ e)))) (congrArg (fun r => r.2.2) hr) (congrArg Prod.fst hr)
end Mine
set_option maxRecDepth 100000
set_option maxHeartbeats 8000000
theorem PySem.Challenge.cw_bz6005_01_holds : PySem.Challenge.rw_bz6005_01.Holds := by
  refine Mine.hd ?_
  k_fill
  intro w s₀ s₁ mg mb G Y fa o pm cd doc dV kV ho hd hcd hD hmg hg args vals as hpre hlay hrd hwl hlo
  have KX := km_in_of Y
  refine Ground.open G ?_
  intro T B D TE TW
  wrow_args hpre hlay hrd hwl hlo
  x_fa T KX hmg
  clear hd D TE TW G Y B
  rename_i hL ra w1 r0 hI hr hc1 hc2
  obtain ⟨oa, hoa, hcl, n, hdat⟩ := id hL
  refine Mine.t_law (Mine.Wd.mk (fun a o e => KX a o e) ?_) (Mine.Rm.mk rfl (by decide) (by decide)) hoa (by unfold Mine.LsO; exact ⟨hcl, n, hdat⟩) hI (by have := IntsAre.length hI; omega) Mine.allFacts fun s' O hos hgens => ?_
  · exact ⟨_, _, _, _, fun h O => (topRead_of T).keeps fun b o e => O b o e⟩
  · refine ⟨.inl ⟨_, _, [], rfl, fun cls => rfl, ReadsW.bool true, ?_, fun _ => ⟨List.nodup_nil, fun _ hm => (nomatch hm)⟩⟩, .of_keep O, hos, ?_⟩
    · first | with_unfolding_all rfl
    rw [hgens, hg]
    exact ((AllBare.empty.push rfl).push rfl).push rfl

