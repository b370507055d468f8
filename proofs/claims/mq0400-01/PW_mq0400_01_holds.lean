import PyProof.Rows.All
import Wide.All
import OpenK.AllK
import Wide.FinOn
import Lean
import PySem.Challenge.RW_mq0400_01
set_option Elab.async false
set_option maxRecDepth 100000
namespace Mine
section
open PySem PySem.Calls PyProof.Rows
section
/-! ## many letters at once (small proof terms) -/
theorem subLt {n i : Nat} (h : i < n) : n - (i + 1) < n - i := by omega
theorem subSucc {n i : Nat} (h : i < n) : n - i = n - (i + 1) + 1 := by omega
theorem lt8 : ∀ q, q < 8 → (q = 0 ∨ q = 1 ∨ q = 2 ∨ q = 3 ∨ q = 4 ∨ q = 5 ∨ q = 6 ∨ q = 7) := by decide
theorem ex3 {α0 α1 α2 : Type} {p : α0 → α1 → α2 → Prop} {P : Prop} (h : ∃ x0 x1 x2, p x0 x1 x2) (k : ∀ x0 x1 x2, p x0 x1 x2 → P) : P := by
  obtain ⟨x0, x1, x2, h⟩ := h; exact k x0 x1 x2 h
theorem in3 {α0 α1 α2 : Type} {p : α0 → α1 → α2 → Prop} (x0 : α0) (x1 : α1) (x2 : α2) (h : p x0 x1 x2) : ∃ x0 x1 x2, p x0 x1 x2 := ⟨x0, x1, x2, h⟩
theorem ex4 {α0 α1 α2 α3 : Type} {p : α0 → α1 → α2 → α3 → Prop} {P : Prop} (h : ∃ x0 x1 x2 x3, p x0 x1 x2 x3) (k : ∀ x0 x1 x2 x3, p x0 x1 x2 x3 → P) : P := by
  obtain ⟨x0, x1, x2, x3, h⟩ := h; exact k x0 x1 x2 x3 h
theorem in4 {α0 α1 α2 α3 : Type} {p : α0 → α1 → α2 → α3 → Prop} (x0 : α0) (x1 : α1) (x2 : α2) (x3 : α3) (h : p x0 x1 x2 x3) : ∃ x0 x1 x2 x3, p x0 x1 x2 x3 := ⟨x0, x1, x2, x3, h⟩
theorem ex5 {α0 α1 α2 α3 α4 : Type} {p : α0 → α1 → α2 → α3 → α4 → Prop} {P : Prop} (h : ∃ x0 x1 x2 x3 x4, p x0 x1 x2 x3 x4) (k : ∀ x0 x1 x2 x3 x4, p x0 x1 x2 x3 x4 → P) : P := by
  obtain ⟨x0, x1, x2, x3, x4, h⟩ := h; exact k x0 x1 x2 x3 x4 h
theorem in5 {α0 α1 α2 α3 α4 : Type} {p : α0 → α1 → α2 → α3 → α4 → Prop} (x0 : α0) (x1 : α1) (x2 : α2) (x3 : α3) (x4 : α4) (h : p x0 x1 x2 x3 x4) : ∃ x0 x1 x2 x3 x4, p x0 x1 x2 x3 x4 := ⟨x0, x1, x2, x3, x4, h⟩
theorem ex6 {α0 α1 α2 α3 α4 α5 : Type} {p : α0 → α1 → α2 → α3 → α4 → α5 → Prop} {P : Prop} (h : ∃ x0 x1 x2 x3 x4 x5, p x0 x1 x2 x3 x4 x5) (k : ∀ x0 x1 x2 x3 x4 x5, p x0 x1 x2 x3 x4 x5 → P) : P := by
  obtain ⟨x0, x1, x2, x3, x4, x5, h⟩ := h; exact k x0 x1 x2 x3 x4 x5 h
theorem in6 {α0 α1 α2 α3 α4 α5 : Type} {p : α0 → α1 → α2 → α3 → α4 → α5 → Prop} (x0 : α0) (x1 : α1) (x2 : α2) (x3 : α3) (x4 : α4) (x5 : α5) (h : p x0 x1 x2 x3 x4 x5) : ∃ x0 x1 x2 x3 x4 x5, p x0 x1 x2 x3 x4 x5 := ⟨x0, x1, x2, x3, x4, x5, h⟩
theorem ex7 {α0 α1 α2 α3 α4 α5 α6 : Type} {p : α0 → α1 → α2 → α3 → α4 → α5 → α6 → Prop} {P : Prop} (h : ∃ x0 x1 x2 x3 x4 x5 x6, p x0 x1 x2 x3 x4 x5 x6) (k : ∀ x0 x1 x2 x3 x4 x5 x6, p x0 x1 x2 x3 x4 x5 x6 → P) : P := by
  obtain ⟨x0, x1, x2, x3, x4, x5, x6, h⟩ := h; exact k x0 x1 x2 x3 x4 x5 x6 h
theorem in7 {α0 α1 α2 α3 α4 α5 α6 : Type} {p : α0 → α1 → α2 → α3 → α4 → α5 → α6 → Prop} (x0 : α0) (x1 : α1) (x2 : α2) (x3 : α3) (x4 : α4) (x5 : α5) (x6 : α6) (h : p x0 x1 x2 x3 x4 x5 x6) : ∃ x0 x1 x2 x3 x4 x5 x6, p x0 x1 x2 x3 x4 x5 x6 := ⟨x0, x1, x2, x3, x4, x5, x6, h⟩
theorem ex9 {α0 α1 α2 α3 α4 α5 α6 α7 α8 : Type} {p : α0 → α1 → α2 → α3 → α4 → α5 → α6 → α7 → α8 → Prop} {P : Prop} (h : ∃ x0 x1 x2 x3 x4 x5 x6 x7 x8, p x0 x1 x2 x3 x4 x5 x6 x7 x8) (k : ∀ x0 x1 x2 x3 x4 x5 x6 x7 x8, p x0 x1 x2 x3 x4 x5 x6 x7 x8 → P) : P := by
  obtain ⟨x0, x1, x2, x3, x4, x5, x6, x7, x8, h⟩ := h; exact k x0 x1 x2 x3 x4 x5 x6 x7 x8 h
theorem in9 {α0 α1 α2 α3 α4 α5 α6 α7 α8 : Type} {p : α0 → α1 → α2 → α3 → α4 → α5 → α6 → α7 → α8 → Prop} (x0 : α0) (x1 : α1) (x2 : α2) (x3 : α3) (x4 : α4) (x5 : α5) (x6 : α6) (x7 : α7) (x8 : α8) (h : p x0 x1 x2 x3 x4 x5 x6 x7 x8) : ∃ x0 x1 x2 x3 x4 x5 x6 x7 x8, p x0 x1 x2 x3 x4 x5 x6 x7 x8 := ⟨x0, x1, x2, x3, x4, x5, x6, x7, x8, h⟩
theorem ex10 {α0 α1 α2 α3 α4 α5 α6 α7 α8 α9 : Type} {p : α0 → α1 → α2 → α3 → α4 → α5 → α6 → α7 → α8 → α9 → Prop} {P : Prop} (h : ∃ x0 x1 x2 x3 x4 x5 x6 x7 x8 x9, p x0 x1 x2 x3 x4 x5 x6 x7 x8 x9) (k : ∀ x0 x1 x2 x3 x4 x5 x6 x7 x8 x9, p x0 x1 x2 x3 x4 x5 x6 x7 x8 x9 → P) : P := by
  obtain ⟨x0, x1, x2, x3, x4, x5, x6, x7, x8, x9, h⟩ := h; exact k x0 x1 x2 x3 x4 x5 x6 x7 x8 x9 h
theorem in10 {α0 α1 α2 α3 α4 α5 α6 α7 α8 α9 : Type} {p : α0 → α1 → α2 → α3 → α4 → α5 → α6 → α7 → α8 → α9 → Prop} (x0 : α0) (x1 : α1) (x2 : α2) (x3 : α3) (x4 : α4) (x5 : α5) (x6 : α6) (x7 : α7) (x8 : α8) (x9 : α9) (h : p x0 x1 x2 x3 x4 x5 x6 x7 x8 x9) : ∃ x0 x1 x2 x3 x4 x5 x6 x7 x8 x9, p x0 x1 x2 x3 x4 x5 x6 x7 x8 x9 := ⟨x0, x1, x2, x3, x4, x5, x6, x7, x8, x9, h⟩

noncomputable abbrev P0 : Program := PySem.Challenge.pw_mq0400_01
noncomputable abbrev MM (w : World) : Model := model P0 w

/-! ## the text's defs by their place -/
noncomputable def stm (i : Nat) : Stmt := P0.main.body.getD i (.Pass default)
noncomputable def nmS : Stmt → Str
  | .FunctionDef n _ _ _ _ _ _ _ _ _ => n
  | _ => Str.empty
noncomputable def prmS : Stmt → Arguments
  | .FunctionDef _ a _ _ _ _ _ _ _ _ => a
  | _ => default
noncomputable def bdyS : Stmt → List Stmt
  | .FunctionDef _ _ b _ _ _ _ _ _ _ => b
  | _ => []
noncomputable def scpS : Stmt → Scope
  | .FunctionDef _ _ _ _ _ _ s _ _ _ => s
  | _ => default
noncomputable def nm (i : Nat) : Str := nmS (stm i)
noncomputable def prm (i : Nat) : Arguments := prmS (stm i)
noncomputable def bdy (i : Nat) : List Stmt := bdyS (stm i)
noncomputable def scp (i : Nat) : Scope := scpS (stm i)
noncomputable def fdOf (i : Nat) (dV pm cd doc : Value) : FuncData := defFd (nm i) (nm i) (prm i) (bdy i) (scp i) mainGlobals dV .none none pm cd doc

/-! ## frames: the local names that we know; the rest of the heap as a ghost -/
noncomputable def Has (m : Str → Option Value) (l : List (String × Value)) : Prop := ∀ k v, l.lookup k = some v → m (Str.ofString k) = some v

structure Fx (g : Heap) (L : Addr) (h : Heap) (l : List (String × Value)) : Prop where
  ns : ∃ m, h.Ns L m ∧ Has m l
  keep : ∀ b o, g.get? b = some o → h.get? b = some o
  noL : g.get? L = none

theorem ofString_inj {a b : String} (h : Str.ofString a = Str.ofString b) : a = b := by
  unfold Str.ofString at h
  have h1 : (cpsOfBytes 0 0 a.toByteArray.data.toList) = (cpsOfBytes 0 0 b.toByteArray.data.toList) := by
    have := congrArg (fun s : Str => s.cps.toList) h
    simpa using this
  rw [cpsOfBytes_string, cpsOfBytes_string] at h1
  have h2 : a.toList = b.toList := by
    have inj : ∀ (x y : List Char), x.map Char.toNat = y.map Char.toNat → x = y := by
      intro x
      induction x with
      | nil => intro y hy; cases y with
        | nil => rfl
        | cons _ _ => simp at hy
      | cons c x ih =>
        intro y hy
        cases y with
        | nil => simp at hy
        | cons d y =>
          simp only [List.map_cons, List.cons.injEq] at hy
          rw [ih y hy.2, Char.toNat_inj.mp hy.1]
    exact inj _ _ h1
  exact String.toList_inj.mp h2

noncomputable def put : List (String × Value) → String → Value → List (String × Value)
  | [], k, v => [(k, v)]
  | (k', v') :: r, k, v => if k' = k then (k, v) :: r else (k', v') :: put r k v

theorem lookup_put (l : List (String × Value)) (k : String) (v : Value) (x : String) : (put l k v).lookup x = if x = k then some v else l.lookup x := by
  induction l with
  | nil =>
    by_cases h : x = k
    · simp [put, h]
    · have hb : (x == k) = false := by simp [h]
      simp [put, List.lookup_cons, hb, h]
  | cons p r ih =>
    obtain ⟨k', v'⟩ := p
    unfold put
    by_cases hk : k' = k
    · subst hk
      by_cases h : x = k'
      · simp [h]
      · have hb : (x == k') = false := by simp [h]
        simp [List.lookup_cons, hb, h]
    · rw [if_neg hk]
      by_cases h : x = k'
      · subst h
        simp [hk]
      · have hb : (x == k') = false := by simp [h]
        simp only [List.lookup_cons, hb, ih]

theorem Has.put {m : Str → Option Value} {l : List (String × Value)} (H : Has m l) (k : String) (v : Value) : Has (fun x => if x = Str.ofString k then some v else m x) (put l k v) := by
  intro x y hx
  rw [lookup_put] at hx
  by_cases h : x = k
  · subst h; simp at hx; simp [hx]
  · rw [if_neg h] at hx
    have : Str.ofString x ≠ Str.ofString k := fun e => h (ofString_inj e)
    simp only [this, if_false]
    exact H x y hx

theorem Fx.sub {g h : Heap} {L : Addr} {l l' : List (String × Value)} (F : Fx g L h l) (hs : ∀ k v, l'.lookup k = some v → l.lookup k = some v) : Fx g L h l' := by
  obtain ⟨m, hn, hh⟩ := F.ns
  exact ⟨⟨m, hn, fun k v e => hh k v (hs k v e)⟩, F.keep, F.noL⟩

noncomputable def AllIn (l : List (String × Value)) : List (String × Value) → Prop
  | [] => True
  | p :: r => l.lookup p.1 = some p.2 ∧ AllIn l r
theorem AllIn.cons {l r : List (String × Value)} {k : String} {v : Value} (h : l.lookup k = some v) (hr : AllIn l r) : AllIn l ((k, v) :: r) := ⟨h, hr⟩
theorem AllIn.nil {l : List (String × Value)} : AllIn l [] := trivial
theorem AllIn.get {l : List (String × Value)} : ∀ {l' : List (String × Value)}, AllIn l l' → ∀ k v, l'.lookup k = some v → l.lookup k = some v
  | [], _, k, v, e => by simp at e
  | (k', v') :: r, ⟨h, hr⟩, k, v, e => by
    by_cases q : k = k'
    · subst q; simp only [List.lookup_cons, beq_self_eq_true] at e; cases e; exact h
    · have hb : (k == k') = false := by simp [q]
      rw [List.lookup_cons, hb] at e
      exact hr.get k v e
theorem Fx.allIn {g h : Heap} {L : Addr} {l l' : List (String × Value)} (F : Fx g L h l) (hs : AllIn l l') : Fx g L h l' := F.sub hs.get

theorem Fx.ne {g h : Heap} {L b : Addr} {o : Obj} {l : List (String × Value)} (F : Fx g L h l) (hb : g.get? b = some o) : b ≠ L := by
  rintro rfl; rw [F.noL] at hb; cases hb

/-- another ghost -/
theorem Fx.ghost {g g' h : Heap} {L : Addr} {l : List (String × Value)} (F : Fx g L h l) (k : ∀ b o, g'.get? b = some o → h.get? b = some o) (n : g'.get? L = none) : Fx g' L h l := ⟨F.ns, k, n⟩

section
variable {w : World} {A : Around} {E : Value → Shared → Prop} {s : Shared} {g : Heap} {L : Addr} {l : List (String × Value)} {env : Env}

theorem ldL {k : String} {pos : Pos} {v : Value} {Q : Value → Shared → Prop} (F : Fx g L s.heap l) (hv : l.lookup k = some v) (h : Q v s)
    (hloc : env.locals = L := by rfl) (hk : env.scope.kind = .function := by kernel_rfl) (hl : env.kindOf (Str.ofString k) = some .local := by kernel_rfl) (hd : (Str.ofString k == ("__debug__" : Str)) = false := by kernel_rfl) :
    wpAny (MM w) A (eval (.Name (Str.ofString k) pos) env) Q E s := by
  obtain ⟨m, hn, hh⟩ := F.ns
  subst hloc
  exact wpAny_Name (wpAny_loadName_local hk hl hn (hh k v hv) h) hd

theorem lk_hit {k : String} {v : Value} {r : List (String × Value)} : ((k, v) :: r).lookup k = some v := by simp [List.lookup]
theorem lk_miss {x k : String} {w : Value} {r : List (String × Value)} {o : Option Value} (h : (x == k) = false) (e : r.lookup x = o) : ((k, w) :: r).lookup x = o := by simp [List.lookup, h, e]
theorem put_nil {x : String} {v : Value} : put [] x v = [(x, v)] := rfl
theorem put_hit {k : String} {w v : Value} {r : List (String × Value)} : put ((k, w) :: r) k v = (k, v) :: r := by simp [put]
theorem put_miss {k x : String} {w v : Value} {r r' : List (String × Value)} (h : (k == x) = false) (e : put r x v = r') : put ((k, w) :: r) x v = (k, w) :: r' := by
  have : k ≠ x := by simpa using h
  simp [put, this, e]
theorem stL {k : String} {v : Value} {Q : Unit → Shared → Prop} (F : Fx g L s.heap l)
    (h : ∀ h', Fx g L h' (put l k v) → Q () { s with heap := h', toks := s.toks + 1 })
    (hloc : env.locals = L := by rfl) (hk : env.scope.kind = .function := by kernel_rfl) (hl : env.kindOf (Str.ofString k) = some .local := by kernel_rfl) :
    wpAny (MM w) A (storeName env (Str.ofString k) v) Q E s := by
  obtain ⟨m, hn, hh⟩ := F.ns
  subst hloc
  refine wpAny_storeName_local hl hn (fun h' hn' hs => h h' ⟨⟨_, hn', hh.put k v⟩, fun b o e => (hs.2 b (F.ne e)).trans (F.keep b o e), F.noL⟩) ?_
  rw [hk]; rfl
theorem stP {k : String} {v : Value} {l' : List (String × Value)} {Q : Unit → Shared → Prop} (F : Fx g L s.heap l) (e : put l k v = l')
    (h : ∀ h', Fx g L h' l' → Q () { s with heap := h', toks := s.toks + 1 })
    (hloc : env.locals = L := by rfl) (hk : env.scope.kind = .function := by kernel_rfl) (hl : env.kindOf (Str.ofString k) = some .local := by kernel_rfl) :
    wpAny (MM w) A (storeName env (Str.ofString k) v) Q E s := stL F (e ▸ h) hloc hk hl
end

section
variable {w : World} {A : Around} {E : Value → Shared → Prop} {s : Shared} {g : Heap} {L : Addr} {l : List (String × Value)} {env : Env}
theorem ldnL {k : String} {v : Value} {Q : Value → Shared → Prop} (F : Fx g L s.heap l) (hv : l.lookup k = some v) (h : Q v s)
    (hloc : env.locals = L := by rfl) (hk : env.scope.kind = .function := by kernel_rfl) (hl : env.kindOf (Str.ofString k) = some .local := by kernel_rfl) :
    wpAny (MM w) A (loadName env (Str.ofString k)) Q E s := by
  obtain ⟨m, hn, hh⟩ := F.ns
  subst hloc
  exact wpAny_loadName_local hk hl hn (hh k v hv) h

/-- the ghost behind a change at p -/
theorem Fx.change {h h' : Heap} {p : Addr} (F : Fx g L h l) (hpL : p ≠ L) (hs : ∀ b o, b ≠ p → h.get? b = some o → h'.get? b = some o) :
    Fx (h'.hide L) L h' l ∧ (∀ b o, b ≠ p → g.get? b = some o → (h'.hide L).get? b = some o) ∧ (∀ b o, b ≠ L → h'.get? b = some o → (h'.hide L).get? b = some o) := by
  refine ⟨⟨?_, fun b o e => Heap.of_hide e, Heap.hide_self _ _⟩, fun b o hb e => ?_, fun b o hb e => (Heap.hide_ne _ hb).trans e⟩
  · obtain ⟨m, ⟨o, es, ep, ho, r⟩, hh⟩ := F.ns
    exact ⟨m, ⟨o, es, ep, hs L o (Ne.symm hpL) ho, r⟩, hh⟩
  · exact (Heap.hide_ne _ (F.ne e)).trans (hs b o hb (F.keep b o e))
theorem Fx.grow {h h' : Heap} (F : Fx g L h l) (hs : ∀ b o, h.get? b = some o → h'.get? b = some o) :
    Fx (h'.hide L) L h' l ∧ (∀ b o, g.get? b = some o → (h'.hide L).get? b = some o) ∧ (∀ b o, b ≠ L → h'.get? b = some o → (h'.hide L).get? b = some o) := by
  refine ⟨⟨?_, fun b o e => Heap.of_hide e, Heap.hide_self _ _⟩, fun b o e => ?_, fun b o hb e => (Heap.hide_ne _ hb).trans e⟩
  · obtain ⟨m, ⟨o, es, ep, ho, r⟩, hh⟩ := F.ns
    exact ⟨m, ⟨o, es, ep, hs L o ho, r⟩, hh⟩
  · exact (Heap.hide_ne _ (F.ne e)).trans (hs b o (F.keep b o e))

theorem Fx.list {h : Heap} {p : Addr} {its : Array Value} (F : Fx g L h l) (hl : g.PlainList p its) : h.PlainList p its := by
  obtain ⟨n, ho⟩ := hl; exact ⟨n, F.keep _ _ ho⟩
theorem list_ne {h : Heap} {p : Addr} {its : Array Value} (hl : h.PlainList p its) (F : h.get? L = none) : p ≠ L := by
  rintro rfl; obtain ⟨o, ho⟩ := hl; rw [F] at ho; cases ho

theorem getX {value slice : Expr} {p : Addr} {its : Array Value} {k : Int} {u : Tok} {v : Value} {Q : Value → Shared → Prop} (F : Fx g L s.heap l) (hl : g.PlainList p its) (h0 : 0 ≤ k) (hf : k < 2 ^ 63) (hx : its[k.toNat]? = some v) (h : Q v s)
    (hs : subscripted slice false (.ref p) (.int k u) = operate [.ref p, .int k u] (getItem (.ref p) (.int k u)) := by with_unfolding_all rfl) (hg : ∀ r, letTemporaryGo value (.ref p) r = pure () := by intro _; with_unfolding_all rfl) :
    wpAny (MM w) A (subscriptTail value slice (.ref p) (.int k u)) Q E s := item_list (F.list hl).isList h0 hf hx h hs hg

theorem plain_update {h : Heap} {p : Addr} {its : Array Value} (hl : h.PlainList p its) (f : Array Value → Array Value) : (h.update p (Obj.mapSeq f)).PlainList p (f its) := by
  obtain ⟨n, ho⟩ := hl
  exact ⟨_, IsL.update (n := n) ho f⟩

/-- a change of a list's items -/
theorem turnX {p : Addr} {its : Array Value} (f : Array Value → Array Value) {C : Shared → Prop} (F : Fx g L s.heap l) (hl : g.PlainList p its)
    (h : ∀ g' h', Fx g' L h' l → g'.PlainList p (f its) → (∀ b o, b ≠ p → g.get? b = some o → g'.get? b = some o) → C { s with heap := h' }) : C { s with heap := s.heap.update p (Obj.mapSeq f) } := by
  have hpL := list_ne hl F.noL
  obtain ⟨F', k1, k2⟩ := F.change hpL (h' := s.heap.update p (Obj.mapSeq f)) (p := p) fun b o hb e => ((Heap.SameBut.update s.heap p (Obj.mapSeq f)).2 b hb).trans e
  obtain ⟨n, ho⟩ := plain_update (F.list hl) f
  exact h _ _ F' ⟨n, k2 p _ hpL ho⟩ k1

theorem setX {p : Addr} {its : Array Value} {k : Int} {u : Tok} {v : Value} {Q : Unit → Shared → Prop} (F : Fx g L s.heap l) (hl : g.PlainList p its) (h0 : 0 ≤ k) (hf : k < 2 ^ 63) (hn : k < its.size)
    (h : ∀ g' h', Fx g' L h' l → g'.PlainList p (its.setIfInBounds k.toNat v) → (∀ b o, b ≠ p → g.get? b = some o → g'.get? b = some o) → Q () { s with heap := h' }) :
    wpAny (MM w) A (setItem (.ref p) (.int k u) v) Q E s := by
  obtain ⟨n, ho⟩ := F.list hl
  exact PySem.W.ki_setAt ho h0 hf hn (turnX (C := fun s' => Q () s') (fun a => a.setIfInBounds k.toNat v) F hl h)

theorem popX {p : Addr} {xs : List Value} {y : Value} {Q : Value → Shared → Prop} (F : Fx g L s.heap l) (hl : g.PlainList p (xs ++ [y]).toArray) (hsz : xs.length < 2 ^ 20)
    (h : ∀ g' h', Fx g' L h' l → g'.PlainList p xs.toArray → (∀ b o, b ≠ p → g.get? b = some o → g'.get? b = some o) → Q y { s with heap := h' }) :
    wpAny (MM w) A (call (.builtin "list.pop") [.ref p]) Q E s := by
  obtain ⟨n, ho⟩ := F.list hl
  have hy : (xs ++ [y]).toArray[(xs ++ [y]).toArray.size - 1]? = some y := by simp
  refine call_meets PySem.F.slot_list_pop ⟨_, ho, rfl⟩ PySem.F.entry_list_pop (PySem.F.args_list_pop_1 _) (PySem.MeetsSeq.list_pop_last p _ n y hy (by rw [sizeLine_eq]; simp; omega)) ⟨ho, ?_⟩
  refine turnX (C := fun s' => Q y s') (fun a => a.eraseIdxIfInBounds ((xs ++ [y]).toArray.size - 1)) F hl fun g' h' F' hl' k' => h g' h' F' ?_ k'
  have e : ((xs ++ [y]).toArray).eraseIdxIfInBounds ((xs ++ [y]).toArray.size - 1) = xs.toArray := by
    have hk : (xs ++ [y]).toArray.size - 1 = xs.length := by simp
    rw [hk, PySem.W.kl_erase, List.append_nil]
  rw [← e]; exact hl'

theorem appX {p : Addr} {xs : List Value} {y : Value} {Q : Value → Shared → Prop} (F : Fx g L s.heap l) (hl : g.PlainList p xs.toArray) (hsz : xs.length < 2 ^ 20)
    (h : ∀ g' h', Fx g' L h' l → g'.PlainList p (xs ++ [y]).toArray → (∀ b o, b ≠ p → g.get? b = some o → g'.get? b = some o) → Q .none { s with heap := h' }) :
    wpAny (MM w) A (call (.builtin "list.append") [.ref p, y]) Q E s := by
  have hpL := list_ne hl F.noL
  refine wpAny_list_append_plain (F.list hl) (fun h' hl' hs => ?_) (by rw [sizeLine_eq]; simp; omega)
  obtain ⟨F', k1, k2⟩ := F.change hpL (h' := h') (p := p) fun b o hb e => (hs.2 b hb).trans e
  obtain ⟨n, ho⟩ := hl'
  refine h _ h' F' ⟨n, ?_⟩ k1
  rw [show (xs ++ [y]).toArray = xs.toArray.push y by simp]
  exact k2 p _ hpL ho

/-- o.name(args) on a plain built-in's object -/
theorem methX {o : Expr} {name : Str} {apos pos : Pos} {args : List Expr} {T id : String} {env : Env} {Q : Value → Shared → Prop}
    (pa : PlainAttrs T) (slot : Slot T name id) (hty : typeOf (.builtin id) = pure (.type "method_descriptor"))
    (h : wpAny (MM w) A (eval o env) (fun ov s₁ => s₁.TypeIs ov T ∧ (∀ a, ov = .ref a → ∃ ob, s₁.heap.get? a = some ob ∧ ob.dict = none) ∧
      wpAny (MM w) A (callWith pos (.builtin id) [ov] (backTo pos (starEach args env)) []) Q E s₁) E s)
    (hbase : attributeBase o name env (eval o env) = eval o env := by kernel_rfl)
    (hfew : ((backTo pos (starEach args env)).all (fun x => !x.1) && (backToKw pos (keywordEach [] env)).all (fun x => x.1.isSome)
      && decide (args.length + ([] : List Keyword).length + (if ([] : List Keyword).isEmpty then 0 else 1) < 30)) = true := by kernel_rfl)
    (hline : (apos.endLine == pos.line) = true := by kernel_rfl) :
    wpAny (MM w) A (eval (.Call (.Attribute o name apos) args [] pos) env) Q E s := wpAny_Call_method hbase hfew hline pa slot hty h
end

/-! ## room -/
structure Rm (A : Around) (n : Nat) : Prop where
  h : A.handled = none
  d : A.depth + n ≤ 900
  u : A.units + 10 * n ≤ 300

theorem Rm.deeper {A : Around} {n : Nat} {env : Env} (R : Rm A (n + 1)) : Rm (A.deeper env) n := by
  obtain ⟨h, d, u⟩ := R
  refine ⟨h, ?_, ?_⟩
  · show A.depth + 1 + n ≤ 900; omega
  · show A.units + 3 + 10 * n ≤ 300; omega
theorem Rm.le {A : Around} {n m : Nat} (R : Rm A n) (h : m ≤ n) : Rm A m := ⟨R.h, by have := R.d; omega, by have := R.u; omega⟩

section
variable {w : World} {A : Around} {E : Value → Shared → Prop} {s : Shared}
theorem whileX {test : Expr} {body : List Stmt} {env : Env} {pos : Pos} {Q : Flow → Shared → Prop} (I : Nat → Shared → Prop) (n : Nat) (h : I n s)
    (turn : ∀ E₁ n s, I n s → wpAny (MM w) A (isTrue test env (eval test env)) (fun b s₂ =>
      if b then wpAny (MM w) A (execs body env) (fun f s₃ => match f with
          | .next | .cont => ∃ m, m < n ∧ I m s₃
          | .brk => Q .next s₃
          | .ret v => Q (.ret v) s₃) E₁ s₂
      else Q .next s₂) E₁ s) : wpAny (MM w) A (exec (.While test body [] pos) env) Q E s := by
  refine wpAny_While (codeAny_whileLoop I (fun n s hI => ?_) n h)
  refine wpAny_mono (turn _ n s hI) (fun b s₂ hb => ?_) fun _ _ x => x
  cases b with
  | false => exact wpAny_execs_nil hb
  | true =>
    refine wpAny_mono hb (fun f s₃ hf => ?_) fun _ _ x => x
    cases f <;> exact hf
/-- the same with the turn's continuation hidden: terms stay small -/
theorem whileK {test : Expr} {body : List Stmt} {env : Env} {pos : Pos} {Q : Flow → Shared → Prop} (I : Nat → Shared → Prop) (n : Nat) (h : I n s)
    (turn : ∀ E₁ n s (K : Flow → Shared → Prop), (∀ m s₃, m < n → I m s₃ → K .next s₃) → (∀ m s₃, m < n → I m s₃ → K .cont s₃) → (∀ s₃, Q .next s₃ → K .brk s₃) → I n s → wpAny (MM w) A (isTrue test env (eval test env)) (fun b s₂ =>
      if b then wpAny (MM w) A (execs body env) K E₁ s₂ else Q .next s₂) E₁ s) : wpAny (MM w) A (exec (.While test body [] pos) env) Q E s :=
  whileX I n h fun E₁ n s hI => turn E₁ n s _ (fun m _ a b => ⟨m, a, b⟩) (fun m _ a b => ⟨m, a, b⟩) (fun _ x => x) hI
end

/-! ## functions in the heap -/
noncomputable def FnAt (h : Heap) (i : Nat) (a : Addr) : Prop :=
  ∃ (pm : Value) (c : Addr) (doc : Value), h.get? a = some { cls := .type "function", data := .func (fdOf i .none pm (.ref c) doc) } ∧ h.CodeRec (.ref c) (nm i)
theorem FnAt.keeps {h h' : Heap} {i : Nat} {a : Addr} (x : FnAt h i a) (k : ∀ b o, h.get? b = some o → h'.get? b = some o) : FnAt h' i a := by
  obtain ⟨pm, c, doc, e, r⟩ := x
  exact ⟨pm, c, doc, k _ _ e, r.keeps k⟩

noncomputable def bindsOf : List (Str × Value) → List (String × Value) → Prop
  | [], [] => True
  | (x, v) :: r, (k, v') :: r' => x = Str.ofString k ∧ v = v' ∧ bindsOf r r'
  | _, _ => False

theorem has_binds : ∀ {bs : List (Str × Value)} {l : List (String × Value)}, bindsOf bs l → (l.map (·.1)).Nodup → Has (fun x => bs.reverse.lookup x) l
  | [], [], _, _ => fun k v e => by simp at e
  | [], _ :: _, h, _ => h.elim
  | _ :: _, [], h, _ => h.elim
  | (x, v) :: r, (k, v') :: r', h, nd => by
    obtain ⟨rfl, rfl, h⟩ := h
    simp only [List.map_cons, List.nodup_cons] at nd
    have ih := has_binds h nd.2
    intro k2 v2 e
    simp only [List.reverse_cons, List.lookup_append]
    by_cases hk : k2 = k
    · subst hk
      simp only [List.lookup_cons, beq_self_eq_true] at e
      have hnone : r.reverse.lookup (Str.ofString k2) = none := by
        rw [List.lookup_eq_none_iff]
        intro p hp
        have hp' : p ∈ r := by simpa using hp
        have : ∀ {bs : List (Str × Value)} {l : List (String × Value)}, bindsOf bs l → ∀ p ∈ bs, ∃ q ∈ l.map (·.1), p.1 = Str.ofString q := by
          intro bs
          induction bs with
          | nil => intro l _ p hp; cases hp
          | cons b bs ih =>
            intro l hb p hp
            obtain ⟨bx, bv⟩ := b
            cases l with
            | nil => exact hb.elim
            | cons c l =>
              obtain ⟨ck, cv⟩ := c
              obtain ⟨rfl, rfl, hb⟩ := hb
              rcases List.mem_cons.mp hp with rfl | hp
              · exact ⟨ck, by simp, rfl⟩
              · obtain ⟨q, hq, e⟩ := ih hb p hp
                exact ⟨q, by simp only [List.map_cons, List.mem_cons]; exact .inr hq, e⟩
        obtain ⟨q, hq, e'⟩ := this h p hp'
        rw [e']
        simp only [ne_eq, bne_iff_ne]
        intro e2
        have := ofString_inj e2
        subst this
        exact nd.1 hq
      simp [hnone, e]
    · have hb : (k2 == k) = false := by simp [hk]
      rw [List.lookup_cons, hb] at e
      have := ih k2 v2 e
      simp only at this
      rw [this]; rfl

section
variable {w : World} {A : Around} {E : Value → Shared → Prop} {s : Shared}

theorem limit_of {n : Nat} (R : Rm A n) : A.depth < recursionLimit := by
  have := R.d
  have e : recursionLimit = 1000 := rfl
  omega

noncomputable def toBs (l : List (String × Value)) : List (Str × Value) := l.map fun p => (Str.ofString p.1, p.2)
theorem bindsOf_toBs : ∀ l : List (String × Value), bindsOf (toBs l) l
  | [] => trivial
  | (_, _) :: r => ⟨rfl, rfl, bindsOf_toBs r⟩

/-- a def is entered -/
theorem enter {i : Nat} {a : Addr} {args : List Value} (l : List (String × Value)) (ks : List String) {n : Nat} {Q : Value → Shared → Prop}
    (R : Rm A (n + 1)) (f : FnAt s.heap i a) (lim : s.heap.NoLimit)
    (h : ∀ L h₁ pm c doc E' tk A', Fx s.heap L h₁ l → Rm A' n →
      wpAny (MM w) A' (execs (bdy i) (callEnv (fdOf i .none pm (.ref c) doc) L a))
        (fun fl s' => Q (match fl with | .ret v => v | _ => .none) s') E' { s with heap := h₁, toks := tk })
    (hb : ∀ pm c doc, bindArgs (fdOf i .none pm (.ref c) doc) ⟨args, []⟩ = pure (toBs l) := by intro _ _ _; kernel_rfl) (hks : l.map (·.1) = ks := by rfl) (nd : ks.Nodup := by decide)
    (hloc : (ks.all fun k => (scp i).names.lookup (Str.ofString k) == some .local) = true := by kernel_rfl)
    (hcell : ((scp i).names.all fun x => x.2 != .cell) = true := by kernel_rfl) (hco : (scp i).isCoroutine = false := by kernel_rfl) (hgen : (scp i).isGenerator = false := by kernel_rfl) (hk : (scp i).kind = .function := by kernel_rfl) :
    wpAny (MM w) A (call (.ref a) args) Q E s := by
  obtain ⟨pm, c, doc, ho, hcd⟩ := f
  refine wpAny_call ?_
  refine codeAny_call_def (fd := fdOf i .none pm (.ref c) doc) (body := bdy i) (binds := toBs l) (limit_of R) ho rfl lim hcd rfl (.of_eq (hb pm c doc)) (fun x hx => ?_) (fun x hx => ?_) (fun h₁ hns hk₁ => ?_) hco hgen hk
  · have := List.all_eq_true.mp hcell x hx
    simpa using this
  · subst hks
    have hx' : ∃ p ∈ l, (Str.ofString p.1, p.2) = x := by simpa [toBs] using hx
    obtain ⟨p, hp, rfl⟩ := hx'
    have := List.all_eq_true.mp hloc p.1 (List.mem_map_of_mem hp)
    show (scp i).names.lookup (Str.ofString p.1) = some .local
    simpa using this
  · refine h s.heap.objs.size h₁ pm c doc _ _ _ ⟨⟨_, hns, has_binds (bindsOf_toBs l) (hks ▸ nd)⟩, hk₁, ?_⟩ R.deeper
    cases e : s.heap.get? s.heap.objs.size with
    | none => rfl
    | some o => exact absurd (Heap.lt_size e) (Nat.lt_irrefl _)
end
end
section
section
variable {w : World} {A : Around} {E : Value → Shared → Prop} {s : Shared} {env : Env}
theorem asN {x pos' value pos} {Q : Flow → Shared → Prop} (hs : swapsWith value (some (.Name x pos')) pos.line env = pure false)
    (h : wpAny (MM w) A (eval value env) (fun v s₁ => wpAny (MM w) A (storeName env x v) (fun _ => Q .next) E s₁) E s) :
    wpAny (MM w) A (exec (.Assign [.Name x pos'] value pos) env) Q E s := wpAny_Assign_Name h hs
theorem asS {o i pos' value pos} {Q : Flow → Shared → Prop} (hs : swapsWith value (some (.Subscript o i pos')) pos.line env = pure false)
    (h : wpAny (MM w) A (eval value env) (fun v s₁ => wpAny (MM w) A (eval o env) (fun ov s₂ => wpAny (MM w) A (eval i env) (fun iv s₃ =>
      wpAny (MM w) A (setItem ov iv v) (fun _ => Q .next) E s₃) E s₂) E s₁) E s) :
    wpAny (MM w) A (exec (.Assign [.Subscript o i pos'] value pos) env) Q E s := wpAny_Assign_Subscript h hs
theorem exA {e pos} {Q : Flow → Shared → Prop} (hs : (interactive env, swapsWith e none pos.line env) = (false, pure false))
    (h : wpAny (MM w) A (eval e env) (fun _ => Q .next) E s) : wpAny (MM w) A (exec (.Expr e pos) env) Q E s :=
  wpAny_Expr_any h (congrArg Prod.fst hs) (congrArg Prod.snd hs)
theorem isC {l op r pos whole} {Q : Bool → Shared → Prop} (hm : behindInMarks op r = false)
    (h : wpAny (MM w) A (eval l env) (fun a s₁ => wpAny (MM w) A (eval r env) (fun b s₂ => wpAny (MM w) A (compareOp op a b)
      (fun c s₃ => wpAny (MM w) A (truthy c) Q E s₃) E s₂) E s₁) E s) : wpAny (MM w) A (isTrue (.Compare l [op] [r] pos) env whole) Q E s := wpAny_isTrue_Compare1 h hm
theorem cmE {l op r pos} {Q : Value → Shared → Prop} (hm : behindInMarks op r = false)
    (h : wpAny (MM w) A (eval l env) (fun a s₁ => wpAny (MM w) A (eval r env) (fun b s₂ => wpAny (MM w) A (compareOp op a b) Q E s₂) E s₁) E s) :
    wpAny (MM w) A (eval (.Compare l [op] [r] pos) env) Q E s := wpAny_Compare1 h hm
theorem isN {n pos} {whole : Sem Value} {Q : Bool → Shared → Prop} (h : wpAny (MM w) A whole (fun v s₁ => wpAny (MM w) A (truthy v) Q E s₁) E s) :
    wpAny (MM w) A (isTrue (.Name n pos) env whole) Q E s := wpAny_isTrue_value h
theorem isF {f as ks pos} {whole : Sem Value} {Q : Bool → Shared → Prop} (h : wpAny (MM w) A whole (fun v s₁ => wpAny (MM w) A (truthy v) Q E s₁) E s) :
    wpAny (MM w) A (isTrue (.Call f as ks pos) env whole) Q E s := wpAny_isTrue_value h
end

/-- arguments one by one -/
noncomputable def evs (M : Model) (A : Around) (env : Env) (E : Value → Shared → Prop) : List Expr → (List Value → Shared → Prop) → Shared → Prop
  | [], Q, s => Q [] s
  | e :: r, Q, s => wpAny M A (eval e env) (fun v s₁ => evs M A env E r (fun vs s₂ => Q (v :: vs) s₂) s₁) E s

noncomputable def noStar : List Expr → Bool
  | [] => true
  | .Starred _ _ :: _ => false
  | _ :: r => noStar r

section
variable {M : Model} {A : Around} {E : Value → Shared → Prop} {s : Shared} {env : Env}
theorem evs_nil {Q : List Value → Shared → Prop} (h : Q [] s) : evs M A env E [] Q s := h
theorem evs_cons {e : Expr} {r : List Expr} {Q : List Value → Shared → Prop} (h : wpAny M A (eval e env) (fun v s₁ => evs M A env E r (fun vs s₂ => Q (v :: vs) s₂) s₁) E s) : evs M A env E (e :: r) Q s := h

theorem spliced_evs {pos : Pos} : ∀ (args : List Expr) {Q : List Value → Shared → Prop} {s : Shared}, noStar args = true → evs M A env E args Q s → wpAny M A (spliced (backTo pos (starEach args env))) Q E s
  | [], Q, s, _, h => spliced_nil h
  | e :: r, Q, s, hn, h => by
    have hs : backTo pos (starEach (e :: r) env) = (false, eval e env) :: backTo pos (starEach r env) := by
      cases e <;> first | rfl | (simp [noStar] at hn)
    have hr : noStar r = true := by
      cases e <;> first | exact hn | (simp [noStar] at hn)
    rw [hs]
    refine spliced_cons (wpAny_mono h (fun v s₁ h₁ => spliced_evs r hr h₁) fun _ _ x => x)

theorem args_evs {pos : Pos} {f : Value} {args : List Expr} {Q : Args → Shared → Prop} (hn : noStar args = true) (h : evs M A env E args (fun vs s' => Q ⟨vs, []⟩ s') s) : wpAny M A (evalArgs f true (backTo pos (starEach args env)) []) Q E s := by
  cases args with
  | nil =>
    show wpAny M A (evalArgs f true [] []) Q E s
    exact evalArgs_kw_nil (keywords := []) rfl (wpAny_evalAll_nil h)
  | cons e r =>
    have hs : backTo pos (starEach (e :: r) env) = (false, eval e env) :: backTo pos (starEach r env) := by
      cases e <;> first | rfl | (simp [noStar] at hn)
    have sp := spliced_evs (pos := pos) (M := M) (A := A) (E := E) (e :: r) (Q := fun vs s' => Q ⟨vs, []⟩ s') hn h
    rw [hs] at sp ⊢
    exact evalArgs_plain sp

theorem noStar_any {pos : Pos} : ∀ {args : List Expr}, noStar args = true → (backTo pos (starEach args env)).any (·.1) = false
  | [], _ => rfl
  | e :: r, hn => by
    have hs : backTo pos (starEach (e :: r) env) = (false, eval e env) :: backTo pos (starEach r env) := by
      cases e <;> first | rfl | (simp [noStar] at hn)
    have hr : noStar r = true := by
      cases e <;> first | exact hn | (simp [noStar] at hn)
    rw [hs, List.any_cons, noStar_any hr]; rfl

/-- f(args) by a name: the name, the arguments, the call -/
theorem callN {id : Str} {p pos : Pos} {args : List Expr} {Q : Value → Shared → Prop}
    (h : wpAny M A (eval (.Name id p) env) (fun f s₁ => wpAny M A (callWith pos f [] (backTo pos (starEach args env)) []) Q E s₁) E s) :
    wpAny M A (eval (.Call (.Name id p) args [] pos) env) Q E s := wpAny_Call_NameR h

theorem callW_def {pos : Pos} {a : Addr} {o : Obj} {fd : FuncData} {args : List Expr} {Q : Value → Shared → Prop} (hd : o.data = .func fd)
    (h : evs M A env E args (fun vs s₁ => s₁.heap.get? a = some o ∧ wpAny M A (call (.ref a) vs) Q E s₁) s) (hn : noStar args = true := by rfl) :
    wpAny M A (callWith pos (.ref a) [] (backTo pos (starEach args env)) []) Q E s := by
  refine callWith_function (o := o) (fd := fd) (args_evs hn ?_)
  have mono : ∀ (args : List Expr) (Q Q' : List Value → Shared → Prop) (s : Shared), (∀ vs s', Q vs s' → Q' vs s') → evs M A env E args Q s → evs M A env E args Q' s := by
    intro args
    induction args with
    | nil => intro Q Q' s hq h; exact hq _ _ h
    | cons e r ih => intro Q Q' s hq h; exact wpAny_mono h (fun v s₁ h₁ => ih _ _ _ (fun vs s' => hq _ _) h₁) fun _ _ x => x
  exact mono _ _ _ _ (fun vs s' hv => ⟨⟨hv.1, hd⟩, hv.2⟩) h

theorem callW_blt {pos : Pos} {id : String} {args : List Expr} {Q : Value → Shared → Prop}
    (h : evs M A env E args (fun vs s₁ => wpAny M A (call (.builtin id) vs) Q E s₁) s) (hn : noStar args = true := by rfl) :
    wpAny M A (callWith pos (.builtin id) [] (backTo pos (starEach args env)) []) Q E s :=
  callWith_builtin (noStar_any hn) (args_evs hn h)
theorem callW_bltF {pos : Pos} {id : String} {first : List Value} {args : List Expr} {Q : Value → Shared → Prop}
    (h : evs M A env E args (fun vs s₁ => wpAny M A (call (.builtin id) (first ++ vs)) Q E s₁) s) (hn : noStar args = true := by rfl) :
    wpAny M A (callWith pos (.builtin id) first (backTo pos (starEach args env)) []) Q E s :=
  callWith_builtin (noStar_any hn) (args_evs hn h)
end

section
variable {w : World} {A : Around} {E : Value → Shared → Prop} {s : Shared} {env : Env}
theorem methList {o : Expr} {name : Str} {apos pos : Pos} {args : List Expr} {id : String} {Q : Value → Shared → Prop} (slot : Slot "list" name id) (hty : typeOf (.builtin id) = pure (.type "method_descriptor"))
    (h : wpAny (MM w) A (eval o env) (fun ov s₁ => ∃ p its, ov = .ref p ∧ s₁.heap.PlainList p its ∧ evs (MM w) A env E args (fun vs s₂ => wpAny (MM w) A (call (.builtin id) (.ref p :: vs)) Q E s₂) s₁) E s)
    (hn : noStar args = true := by rfl)
    (hbase : attributeBase o name env (eval o env) = eval o env := by kernel_rfl)
    (hfew : ((backTo pos (starEach args env)).all (fun x => !x.1) && (backToKw pos (keywordEach [] env)).all (fun x => x.1.isSome)
      && decide (args.length + ([] : List Keyword).length + (if ([] : List Keyword).isEmpty then 0 else 1) < 30)) = true := by kernel_rfl)
    (hline : (apos.endLine == pos.line) = true := by kernel_rfl) :
    wpAny (MM w) A (eval (.Call (.Attribute o name apos) args [] pos) env) Q E s := by
  refine methX PySem.F.plainAttrs_list slot hty (wpAny_mono h (fun ov s₁ h₁ => ?_) fun _ _ x => x) hbase hfew hline
  obtain ⟨p, its, rfl, hl, he⟩ := h₁
  refine ⟨hl.isList.typeIs, fun a e => by cases e; obtain ⟨n, ho⟩ := hl; exact ⟨_, ho, rfl⟩, callW_bltF (first := [.ref p]) he hn⟩
end

section
variable {w : World} {A : Around} {E : Value → Shared → Prop} {s : Shared}
theorem modN {n m : Nat} {b : Int} {t u : Tok} {Q : Value → Shared → Prop} (hb : b = (m : Int)) (h0 : m ≠ 0) (h : Q (.int ((n % m : Nat) : Int) s.toks) { s with toks := s.toks + 1 }) : wpAny (MM w) A (binaryOp .Mod (.int (n : Int) t) (.int b u)) Q E s := by
  subst hb
  refine mod_int (by omega) ?_
  rw [Int.fmod_eq_emod_of_nonneg _ (by omega)]
  exact h

theorem fdivN {n m : Nat} {b : Int} {t u : Tok} {Q : Value → Shared → Prop} (hb : b = (m : Int)) (h0 : m ≠ 0) (h1 : m < 1073741824) (h : Q (.int ((n / m : Nat) : Int) s.toks) { s with toks := s.toks + 1 }) : wpAny (MM w) A (inplaceOp .FloorDiv (.int (n : Int) t) (.int b u)) Q E s := by
  subst hb
  refine ifloordiv_int (by omega) ?_ (Or.inl (PyProof.noPylong_small (by omega)))
  rw [Int.fdiv_eq_ediv_of_nonneg _ (by omega)]
  exact h
end

/-! ## the ground: what the top has left -/
noncomputable def blts : List (String × Value) := [("len", .builtin "len"), ("range", .type "range"), ("reversed", .type "reversed"), ("int", .type "int"), ("sorted", .builtin "sorted"), ("enumerate", .type "enumerate"), ("chr", .builtin "chr"), ("ord", .builtin "ord"),
  ("iter", .builtin "iter"), ("object", .type "object"), ("min", .builtin "min"), ("zip", .type "zip"), ("TypeError", .type "TypeError"), ("AttributeError", .type "AttributeError")]
noncomputable def fnIdx : List Nat := [1, 2, 3, 4, 5, 6, 7, 8, 9, 13, 15, 17, 18, 19, 20, 21, 22]

/-- the table of the text's big dict -/
noncomputable def constI : Expr → Option Int
  | .Constant (.int i) _ _ => some i
  | _ => none
noncomputable def constS : Expr → Option Str
  | .Constant (.str x) _ _ => some x
  | _ => none
noncomputable def pairOf : Option Expr × Expr → Option (Int × Str)
  | (some k, v) => match constI k, constS v with
    | some i, some x => some (i, x)
    | _, _ => none
  | _ => none
noncomputable def b3Of : Stmt → List (Int × Str)
  | .Assign _ (.Dict ks vs _) _ => (ks.zip vs).filterMap pairOf
  | _ => []
noncomputable def b3L : List (Int × Str) := b3Of (stm 14)
noncomputable def b1L : List Int := [173, 847, 6150, 6155, 6156, 6157, 8203, 8204, 8205, 8288, 65279] ++ (List.range 16).map fun (i : Nat) => (65024 : Int) + (i : Int)

structure Gd (w : World) (mg mb : Str → Option Value) (h : Heap) : Prop where
  g : h.Ns mainGlobals mg
  b : h.Ns builtinsNs mb
  lim : h.NoLimit
  fn : ∀ i ∈ fnIdx, ∃ a, mg (nm i) = some (.ref a) ∧ FnAt h i a
  bl : ∀ k v, blts.lookup k = some v → mg (Str.ofString k) = none ∧ mb (Str.ofString k) = some v
  b1 : ∃ a S n, mg (Str.ofString "b1_set") = some (.ref a) ∧ h.SetOf (intKind P0 w) a S n ∧ ∀ k, S k = b1L.contains k
  b3 : ∃ a f, mg (Str.ofString "b3_exceptions") = some (.ref a) ∧ (a == sysModules) = false ∧ h.MapOf (intKind P0 w) a f ∧ (∃ o, h.get? a = some o ∧ o.dict = none) ∧
    ∀ k, match b3L.lookup k with | some r => ∃ t, f k = some (.str r t) | none => f k = none
  ns : ∃ a pm c doc T, mg (nm 10) = some (.ref a) ∧ h.get? a = some { cls := .type "function", data := .func (fdOf 10 (.ref T) pm (.ref c) doc) } ∧ h.CodeRec (.ref c) (nm 10) ∧
    ∃ o n, h.get? T = some o ∧ o.cls = .type "tuple" ∧ o.data = .seq #[.none] n

theorem Gd.keeps {w : World} {mg mb : Str → Option Value} {h h' : Heap} (G : Gd w mg mb h) (k : ∀ b o, h.get? b = some o → h'.get? b = some o) : Gd w mg mb h' := by
  obtain ⟨g, b, lim, fn, bl, b1, b3, nsm⟩ := G
  have ns : ∀ {a m}, h.Ns a m → h'.Ns a m := fun ⟨o, es, ep, ho, r⟩ => ⟨o, es, ep, k _ _ ho, r⟩
  refine ⟨ns g, ns b, lim.keeps k, fun i hi => let ⟨a, e, f⟩ := fn i hi; ⟨a, e, f.keeps k⟩, bl, ?_, ?_, ?_⟩
  · obtain ⟨a, S, n, e, ⟨o, es, ep, t, ho, r⟩, hS⟩ := b1
    exact ⟨a, S, n, e, ⟨o, es, ep, t, k _ _ ho, r⟩, hS⟩
  · obtain ⟨a, f, e, hm, ⟨o, es, ep, ho, r⟩, ⟨o', ho', hd'⟩, hf⟩ := b3
    exact ⟨a, f, e, hm, ⟨o, es, ep, k _ _ ho, r⟩, ⟨o', k _ _ ho', hd'⟩, hf⟩
  · obtain ⟨a, pm, c, doc, T, e, ho, hc, o, n, hT, hd⟩ := nsm
    exact ⟨a, pm, c, doc, T, e, k _ _ ho, hc.keeps k, o, n, k _ _ hT, hd⟩

theorem Gd.but {w : World} {mg mb : Str → Option Value} {h h' : Heap} {p : Addr} {its : Array Value} (G : Gd w mg mb h) (hl : h.PlainList p its) (k : ∀ b o, b ≠ p → h.get? b = some o → h'.get? b = some o) : Gd w mg mb h' := by
  obtain ⟨g, b, lim, fn, bl, b1, b3, nsm⟩ := G
  obtain ⟨np, hp⟩ := hl
  have ne : ∀ {a o}, h.get? a = some o → (∀ x n, o.data ≠ .seq x n) → a ≠ p := by
    rintro a o ho hd rfl; rw [hp] at ho; exact hd its np (by rw [← Option.some.inj ho])
  have ns : ∀ {a m}, h.Ns a m → h'.Ns a m := fun ⟨o, es, ep, ho, hd, r⟩ => ⟨o, es, ep, k _ _ (ne ho fun x n e => by rw [hd] at e; cases e) ho, hd, r⟩
  have cr : ∀ {c q}, h.CodeRec c q → h'.CodeRec c q := fun ⟨c2, o2, vs2, t2, e2, g2, d2, r2⟩ => ⟨c2, o2, vs2, t2, e2, k _ _ (ne g2 fun x n e => by rw [d2] at e; cases e) g2, d2, r2⟩
  refine ⟨ns g, ns b, ?_, fun i hi => ?_, bl, ?_, ?_, ?_⟩
  · obtain ⟨m, hn, e⟩ := lim
    exact ⟨m, ns hn, e⟩
  · obtain ⟨a, e, pm, c, doc, ho, hc⟩ := fn i hi
    exact ⟨a, e, pm, c, doc, k _ _ (ne ho fun x n e => by cases e) ho, cr hc⟩
  · obtain ⟨a, S, n, e, ⟨o, es, ep, t, ho, hc, hd, r⟩, hS⟩ := b1
    exact ⟨a, S, n, e, ⟨o, es, ep, t, k _ _ (ne ho fun x n e => by rw [hd] at e; cases e) ho, hc, hd, r⟩, hS⟩
  · obtain ⟨a, f, e, hm, ⟨o, es, ep, ho, hx, hd, r⟩, ⟨o', ho', hd'⟩, hf⟩ := b3
    have na : a ≠ p := ne ho fun x n e => by rw [hd] at e; cases e
    exact ⟨a, f, e, hm, ⟨o, es, ep, k _ _ na ho, hx, hd, r⟩, ⟨o', k _ _ na ho', hd'⟩, hf⟩
  · obtain ⟨a, pm, c, doc, T, e, ho, hc, o, n, hT, hcls, hd⟩ := nsm
    refine ⟨a, pm, c, doc, T, e, k _ _ (ne ho fun x n e => by cases e) ho, cr hc, o, n, k _ _ ?_ hT, hcls, hd⟩
    rintro rfl; rw [hp] at hT; rw [← Option.some.inj hT] at hcls; exact absurd (Value.type.inj hcls) (by decide)

section
variable {w : World} {A : Around} {E : Value → Shared → Prop} {s : Shared} {g : Heap} {L a : Addr} {l : List (String × Value)} {mg mb : Str → Option Value} {env : Env}

theorem ldFn (i : Nat) {k : String} {pos : Pos} {Q : Value → Shared → Prop} (F : Fx g L s.heap l) (G : Gd w mg mb g) (h : ∀ a, FnAt g i a → Q (.ref a) s) (hi : i ∈ fnIdx := by decide) (hn : nm i = Str.ofString k := by kernel_rfl)
    (hgl : env.globals = mainGlobals := by rfl)
    (hk : env.scope.kind = .function := by kernel_rfl) (hl : env.kindOf (Str.ofString k) = some .globalImplicit := by kernel_rfl) (hd : (Str.ofString k == ("__debug__" : Str)) = false := by kernel_rfl) :
    wpAny (MM w) A (eval (.Name (Str.ofString k) pos) env) Q E s := by
  obtain ⟨b, e, f⟩ := G.fn i hi
  have G' := G.keeps F.keep
  exact Name_function_global hk hl (loadGlobal_global (mg := mg) (v := .ref b) (by show s.heap.Ns env.globals mg; rw [hgl]; exact G'.g) (hn ▸ e) (h b f)) hd

theorem ldBl {k : String} {v : Value} {pos : Pos} {Q : Value → Shared → Prop} (F : Fx g L s.heap l) (G : Gd w mg mb g) (hv : blts.lookup k = some v) (h : Q v s)
    (hgl : env.globals = mainGlobals := by rfl) (hbl : env.builtins = builtinsNs := by rfl)
    (hk : env.scope.kind = .function := by kernel_rfl) (hl : env.kindOf (Str.ofString k) = some .globalImplicit := by kernel_rfl) (hd : (Str.ofString k == ("__debug__" : Str)) = false := by kernel_rfl) :
    wpAny (MM w) A (eval (.Name (Str.ofString k) pos) env) Q E s := by
  have G' := G.keeps F.keep
  obtain ⟨e1, e2⟩ := G.bl k v hv
  exact Name_function_global hk hl (loadGlobal_builtin (mg := mg) (mb := mb) (by show s.heap.Ns env.globals mg; rw [hgl]; exact G'.g) e1 (by show s.heap.Ns env.builtins mb; rw [hbl]; exact G'.b) e2 h) hd

/-- a call of the i-th def: its name, its arguments; then the contract -/
theorem callFn (i : Nat) {k : String} {p pos : Pos} {args : List Expr} {Q : Value → Shared → Prop} (F : Fx g L s.heap l) (G : Gd w mg mb g)
    (h : ∀ b, FnAt g i b → evs (MM w) A env E args (fun vs s₁ => (∀ c o, g.get? c = some o → (∀ x n, o.data ≠ .seq x n) → s₁.heap.get? c = some o) ∧ wpAny (MM w) A (call (.ref b) vs) Q E s₁) s)
    (hi : i ∈ fnIdx := by decide) (hn : nm i = Str.ofString k := by kernel_rfl) (hns : noStar args = true := by rfl)
    (hgl : env.globals = mainGlobals := by rfl)
    (hk : env.scope.kind = .function := by kernel_rfl) (hl : env.kindOf (Str.ofString k) = some .globalImplicit := by kernel_rfl) (hd : (Str.ofString k == ("__debug__" : Str)) = false := by kernel_rfl) :
    wpAny (MM w) A (eval (.Call (.Name (Str.ofString k) p) args [] pos) env) Q E s := by
  refine callN (ldFn i F G (fun b f => ?_) hi hn hgl hk hl hd)
  obtain ⟨pm, c, doc, ho, _⟩ := id f
  refine callW_def (o := { cls := .type "function", data := .func (fdOf i .none pm (.ref c) doc) }) (fd := fdOf i .none pm (.ref c) doc) rfl ?_ hns
  have mono : ∀ (args : List Expr) (Q Q' : List Value → Shared → Prop) (s : Shared), (∀ vs s', Q vs s' → Q' vs s') → evs (MM w) A env E args Q s → evs (MM w) A env E args Q' s := by
    intro args
    induction args with
    | nil => intro Q Q' s hq h; exact hq _ _ h
    | cons e r ih => intro Q Q' s hq h; exact wpAny_mono h (fun v s₁ h₁ => ih _ _ _ (fun vs s' => hq _ _) h₁) fun _ _ x => x
  exact mono _ _ _ _ (fun vs s' hv => ⟨hv.1 _ _ ho (fun _ _ e => by cases e), hv.2⟩) (h b f)

theorem callBl {id : String} {k : String} {p pos : Pos} {args : List Expr} {Q : Value → Shared → Prop} (F : Fx g L s.heap l) (G : Gd w mg mb g) (hv : blts.lookup k = some (.builtin id))
    (h : evs (MM w) A env E args (fun vs s₁ => wpAny (MM w) A (call (.builtin id) vs) Q E s₁) s) (hns : noStar args = true := by rfl)
    (hgl : env.globals = mainGlobals := by rfl) (hbl : env.builtins = builtinsNs := by rfl)
    (hk : env.scope.kind = .function := by kernel_rfl) (hl : env.kindOf (Str.ofString k) = some .globalImplicit := by kernel_rfl) (hd : (Str.ofString k == ("__debug__" : Str)) = false := by kernel_rfl) :
    wpAny (MM w) A (eval (.Call (.Name (Str.ofString k) p) args [] pos) env) Q E s :=
  callN (ldBl F G hv (callW_blt h hns) hgl hbl hk hl hd)
end
end
section
open PySem.W
theorem said_strict : (!(importedModules PySem.Challenge.rw_mq0400_01.row.prog.main.body).all cThrough.contains) = false := by decide +kernel
theorem said_vars : readsOut PySem.Challenge.rw_mq0400_01.row.prog PySem.Challenge.rw_mq0400_01.row.prog.main.body (Str.ofString "vars") = false := by decide +kernel
theorem said_dir : readsOut PySem.Challenge.rw_mq0400_01.row.prog PySem.Challenge.rw_mq0400_01.row.prog.main.body (Str.ofString "dir") = false := by decide +kernel
theorem said_locals : readsOut PySem.Challenge.rw_mq0400_01.row.prog PySem.Challenge.rw_mq0400_01.row.prog.main.body (Str.ofString "locals") = false := by decide +kernel
theorem said_road : noRoadLSs { strict := false, foot := none, bare := [] } PySem.Challenge.rw_mq0400_01.row.prog.main.body = true := by decide +kernel
theorem said_road' : noRoadLSs { strict := !(importedModules PySem.Challenge.rw_mq0400_01.row.prog.main.body).all cThrough.contains, foot := none, bare := List.filter (readsOut PySem.Challenge.rw_mq0400_01.row.prog PySem.Challenge.rw_mq0400_01.row.prog.main.body) [Str.ofString "vars", Str.ofString "dir", Str.ofString "locals"] } PySem.Challenge.rw_mq0400_01.row.prog.main.body = true := by
  rw [said_strict, List.filter_cons_of_neg (by rw [said_vars]; exact Bool.false_ne_true), List.filter_cons_of_neg (by rw [said_dir]; exact Bool.false_ne_true), List.filter_cons_of_neg (by rw [said_locals]; exact Bool.false_ne_true)]
  exact said_road
set_option maxHeartbeats 4000000 in
theorem said : OpenLaw.wellSaid PySem.Challenge.rw_mq0400_01 = true := by
  delta OpenLaw.wellSaid OpenRow.wellSaid OpenRow.partSaid looksOpen
  repeat' with_reducible refine look_both ?_ ?_
  all_goals first | with_reducible exact said_road' | decide +kernel
end
section
open PySem.W

theorem step_done {p : Program} {w : World} {s s'' : Shared} {t : Thread} {f : Flow} (h : step (denote table) p w s t = .halt (.done f) s'') : through t = true ∧ s'' = s := by
  obtain ⟨heap, gens, drawn, toks, os⟩ := s
  obtain ⟨cur, code, pos, stack⟩ := t
  cases cur with
  | pure x =>
    cases x with
    | again c => cases (show Step.go _ _ = Step.halt _ _ from h)
    | done g =>
      cases stack with
      | nil =>
        have h' : (if leftWithCleanup gens then Step.halt (.unsupported "lifetime:generator-with-cleanup-left-suspended") ⟨heap, gens, drawn, toks, os⟩ else .halt (.done g) ⟨heap, gens, drawn, toks, os⟩) = .halt (.done f) s'' := h
        by_cases hc : leftWithCleanup gens = true
        · rw [if_pos hc] at h'; cases h'
        · rw [if_neg hc] at h'; cases h'; exact ⟨rfl, rfl⟩
      | cons fr r => cases fr <;> cases (show Step.go _ _ = Step.halt _ _ from h)
  | raise e =>
    cases stack with
    | nil =>
      have h' : (if leftWithCleanup gens then Step.halt (.unsupported "lifetime:generator-with-cleanup-left-suspended") ⟨heap, gens, drawn, toks, os⟩ else .halt (.uncaught e) ⟨heap, gens, drawn, toks, os⟩) = .halt (.done f) s'' := h
      by_cases hc : leftWithCleanup gens = true
      · rw [if_pos hc] at h'; cases h'
      · rw [if_neg hc] at h'; cases h'
    | cons fr r => cases fr <;> cases (show Step.go _ _ = Step.halt _ _ from h)
  | finish e =>
    have h' : (if leftWithCleanup gens then Step.halt (.unsupported "lifetime:generator-with-cleanup-left-suspended") ⟨heap, gens, drawn, toks, os⟩ else .halt (.ended e) ⟨heap, gens, drawn, toks, os⟩) = .halt (.done f) s'' := h
    by_cases hc : leftWithCleanup gens = true
    · rw [if_pos hc] at h'; cases h'
    · rw [if_neg hc] at h'; cases h'
  | load a x k =>
    cases ho : heap.get? a with
    | none =>
      have h' : ∃ o, Step.halt (.stuck o) _ = Step.halt (.done f) s'' := ⟨_, by unfold step at h; dsimp only at h; rw [ho] at h; exact h⟩
      obtain ⟨_, h'⟩ := h'; cases h'
    | some o =>
      have h' : ∃ a b, Step.go a b = Step.halt (.done f) s'' := ⟨_, _, by unfold step at h; dsimp only at h; rw [ho] at h; exact h⟩
      obtain ⟨_, _, h'⟩ := h'; cases h'
  | update a x g k =>
    by_cases ho : (heap.get? a).isSome = true
    · have h' := h; unfold step at h'; dsimp only at h'; rw [if_pos ho] at h'; cases h'
    · have h' := h; unfold step at h'; dsimp only at h'; rw [if_neg ho] at h'; cases h'
  | choose src n k =>
    by_cases ho : n = 0
    · have h' := h; unfold step at h'; dsimp only at h'; rw [if_pos ho] at h'; cases h'
    · have h' := h; unfold step at h'; dsimp only at h'; rw [if_neg ho] at h'; cases h'
  | unsupported what => cases (show Step.halt (.unsupported what) _ = Step.halt _ _ from h)
  | register a b => cases (show Step.halt (.unsupported "lifetime") _ = Step.halt _ _ from h)
  | fork a b => cases (show Step.halt (.unsupported "threads") _ = Step.halt _ _ from h)
  | await a b c d k => cases (show Step.halt (.unsupported "threads") _ = Step.halt _ _ from h)
  | genState g k =>
    cases ho : gens[g]? with
    | none => unfold step at h; dsimp only at h; rw [ho] at h; cases h
    | some st => unfold step at h; dsimp only at h; rw [ho] at h; cases h
  | yield v g0 l kk =>
    cases ho : splitAtGen stack with
    | none => unfold step at h; dsimp only at h; rw [ho] at h; cases h
    | some x => unfold step at h; dsimp only at h; rw [ho] at h; cases (show Step.go _ _ = Step.halt _ _ from h)
  | resume g r l k =>
    cases ho : gens[g]? with
    | none => unfold step at h; dsimp only at h; rw [ho] at h; cases h
    | some st =>
      unfold step at h; dsimp only at h; rw [ho] at h
      cases st with
      | fresh c =>
        cases r with
        | send v => cases v <;> cases (show Step.go _ _ = Step.halt _ _ from h)
        | throw e => cases (show Step.go _ _ = Step.halt _ _ from h)
      | _ => cases (show Step.go _ _ = Step.halt _ _ from h)
  | _ => cases (show Step.go _ _ = Step.halt _ _ from h)

theorem sched_of_run {p : Program} {w : World} {f : Flow} {s'' : Shared} : ∀ (n : Nat) (s : Shared) (t : Thread), s.asleep → PySem.runN (denote table) p w n s t = .halted (.done f) s'' →
    (∀ k s₁ t₁, PySem.runN (denote table) p w k s t = .running s₁ t₁ → t₁.calm = true) →
    ∃ m t₁, schedN (denote table) p w m (.single s t) = .running (.single s'' t₁) ∧ through t₁ = true ∧ s''.heap.life = s.heap.life
  | 0, s, t, _, h, _ => by simp [PySem.runN] at h
  | n + 1, s, t, hz, h, hc => by
    unfold PySem.runN at h
    cases hs : step (denote table) p w s t with
    | halt o s₁ =>
      rw [hs] at h
      simp only [Run.halted.injEq] at h
      obtain ⟨rfl, rfl⟩ := h
      obtain ⟨ht, rfl⟩ := step_done hs
      exact ⟨0, t, rfl, ht, rfl⟩
    | go s₁ t₁ =>
      rw [hs] at h
      have hl := step_life (denote table) p w s s₁ t t₁ hs
      have hz1 : s₁.asleep := Shared.asleep_of_life hl hz
      obtain ⟨m, t₂, hm, ht, hl2⟩ := sched_of_run n s₁ t₁ hz1 h fun k s₂ t₂ hk => hc (k + 1) s₂ t₂ (by unfold PySem.runN; rw [hs]; exact hk)
      have e : sstep (denote table) p w (.single s t) = .go (.single s₁ t₁) := by
        rcases sstep_single (denote table) p w s t (hc 0 s t rfl) hz with e | e
        · rw [e, hs]; rfl
        · rw [hs] at e; cases e
      exact ⟨m + 1, t₂, by simp only [schedN, e]; exact hm, ht, hl2.trans hl⟩

theorem run_through {p : Program} {w : World} {t : Sem Fin} {s : Shared} {R : Flow → Shared → Prop} (hz : s.asleep)
    (h : wpAny (model p w) callerA t (fun fin s' => ∃ f, fin = .done f ∧ R f s' ∧ s'.gens = #[]) (fun _ _ => False) s) :
    ∃ m t₁ s₁ f, schedN (denote table) p w m (.single s ⟨t, .builtin "claim.caller" {}, default, []⟩) = .running (.single s₁ t₁) ∧ through t₁ = true ∧ s₁.heap.life = s.heap.life ∧ R f s₁ ∧ s₁.gens = #[] := by
  have wp := wp_of_wpAny_done (R := fun r s' => (∃ f, r = .ok f ∧ R f s' ∧ s'.gens = #[]) ∧ leftWithCleanup s'.gens = false) caller_in
    (wpAny_mono h (fun fin s' ⟨f, e, a, b⟩ => ⟨f, e, ⟨f, rfl, a, b⟩, by rw [b]; simp [leftWithCleanup]⟩) fun _ _ x => x.elim) default
  obtain ⟨n, r, s', hn, f, rfl, hR, hg⟩ := (wp_iff_halts (M := model p w) t (fun r s' => ∃ f, r = .ok f ∧ R f s' ∧ s'.gens = #[]) default s).mp wp
  obtain ⟨n', s'', hr, hf, hc⟩ := (halts_real_iff (M := model p w) (r := .ok f) s'.forget).mpr ⟨n, s', hn, rfl⟩
  obtain rfl := Shared.eq_of_forget_eq hf hg
  obtain ⟨m, t₁, hm, ht, hl⟩ := sched_of_run n' s _ hz hr hc
  exact ⟨m, t₁, s'', f, hm, ht, hl, hR, hg⟩
end
section
open PySem.W
section
variable {w : World} {A : Around} {E : Value → Shared → Prop}
/-- a pair of trees that give this int and this text -/
noncomputable def LitP (w : World) (p : Sem Value × Sem Value) (kv : Int × Str) : Prop :=
  ∀ (A : Around) (E : Value → Shared → Prop) (s : Shared) (Q : Value → Shared → Prop), ((∀ t tk, Q (.int kv.1 t) { s with toks := tk }) → wpAny (MM w) A p.1 Q E s) ∧ ((∀ t tk, Q (.str kv.2 t) { s with toks := tk }) → wpAny (MM w) A p.2 Q E s)
noncomputable def LitL (w : World) : List (Sem Value × Sem Value) → List (Int × Str) → Prop
  | [], [] => True
  | p :: r, kv :: r' => LitP w p kv ∧ LitL w r r'
  | _, _ => False
noncomputable def VS : List (Int × Value) → List (Int × Str) → Prop
  | [], [] => True
  | kv :: r, kx :: r' => kv.1 = kx.1 ∧ (∃ t, kv.2 = .str kx.2 t) ∧ VS r r'
  | _, _ => False
theorem VS.keys : ∀ {a : List (Int × Value)} {b : List (Int × Str)}, VS a b → a.map (·.1) = b.map (·.1)
  | [], [], _ => rfl
  | _ :: _, _ :: _, ⟨e, _, r⟩ => by rw [List.map_cons, List.map_cons, e, VS.keys r]
  | [], _ :: _, h => h.elim
  | _ :: _, [], h => h.elim
theorem VS.length {a : List (Int × Value)} {b : List (Int × Str)} (h : VS a b) : a.length = b.length := by have := congrArg List.length h.keys; simpa using this
theorem VS.append : ∀ {a : List (Int × Value)} {b : List (Int × Str)} {c : List (Int × Value)} {d : List (Int × Str)}, VS a b → VS c d → VS (a ++ c) (b ++ d)
  | [], [], _, _, _, h => h
  | _ :: _, _ :: _, _, _, ⟨e, t, r⟩, h => ⟨e, t, VS.append r h⟩
  | [], _ :: _, _, _, h, _ => h.elim
  | _ :: _, [], _, _, h, _ => h.elim
theorem VS.lookup (k : Int) : ∀ {a : List (Int × Value)} {b : List (Int × Str)}, VS a b → match b.lookup k with | some r => ∃ t, valueAt a k = some (.str r t) | none => valueAt a k = none
  | [], [], _ => rfl
  | (k1, v) :: r, (k2, x) :: r', ⟨e, ⟨t, et⟩, h⟩ => by
    simp only at e et
    subst e et
    by_cases q : k = k1
    · subst q
      simp only [List.lookup_cons, beq_self_eq_true]
      exact ⟨t, by simp [valueAt]⟩
    · have hb : (k == k1) = false := by simpa using q
      have hv : valueAt ((k1, Value.str x t) :: r) k = valueAt r k := by
        unfold valueAt
        rw [List.find?_cons_of_neg]
        simpa using fun e => q e.symm
      rw [List.lookup_cons, hb, hv]
      exact VS.lookup k h
  | [], _ :: _, h => h.elim
  | _ :: _, [], h => h.elim
theorem LitL.length : ∀ {a : List (Sem Value × Sem Value)} {b : List (Int × Str)}, LitL w a b → a.length = b.length
  | [], [], _ => rfl
  | _ :: _, _ :: _, ⟨_, r⟩ => by rw [List.length_cons, List.length_cons, LitL.length r]
  | [], _ :: _, h => h.elim
  | _ :: _, [], h => h.elim
theorem LitL.append : ∀ {a : List (Sem Value × Sem Value)} {b : List (Int × Str)} {c : List (Sem Value × Sem Value)} {d : List (Int × Str)}, LitL w a b → LitL w c d → LitL w (a ++ c) (b ++ d)
  | [], [], _, _, _, h => h
  | _ :: _, _ :: _, _, _, ⟨t, r⟩, h => ⟨t, LitL.append r h⟩
  | [], _ :: _, _, _, h, _ => h.elim
  | _ :: _, [], _, _, h, _ => h.elim

theorem stored_fresh {acc : List (Int × Value)} {k : Int} {v : Value} (h : k ∉ acc.map (·.1)) : stored acc k v = acc ++ [(k, v)] := by
  unfold stored
  rw [if_neg]
  rw [List.any_eq_true]
  rintro ⟨kv, hkv, e⟩
  exact h (List.mem_map.mpr ⟨kv, hkv, of_decide_eq_true e⟩)

theorem storeLong {d : Addr} : ∀ (pairs : List (Sem Value × Sem Value)) (kL : List (Int × Str)) (acc : List (Int × Value)) (s : Shared) (Q : PUnit → Shared → Prop), LitL w pairs kL → s.heap.DictOf (intKind P0 w) d acc → (acc.map (·.1) ++ kL.map (·.1)).Nodup → acc.length + kL.length ≤ 2 ^ 20 →
    (∀ h' tk more, h'.DictOf (intKind P0 w) d (acc ++ more) → VS more kL → Heap.SameBut d s.heap h' → Q PUnit.unit { s with heap := h', toks := tk }) →
    wpAny (MM w) A (forIn pairs PUnit.unit fun (x : Sem Value × Sem Value) (_ : PUnit) => (do let kv ← x.1; let vv ← holding [kv] x.2; holding [kv, vv] (dictSet d kv vv); pure (ForInStep.yield PUnit.unit) : Sem (ForInStep PUnit))) Q E s
  | [], [], acc, s, Q, _, hm, _, _, hQ => by
    rw [List.forIn_nil]
    exact wpAny_pure (hQ s.heap s.toks [] (by simpa using hm) trivial (Heap.SameBut.refl _ _))
  | p :: r, (k, x) :: kL, acc, s, Q, ⟨hp, hl⟩, hm, hn, hsz, hQ => by
    rw [List.forIn_cons]
    refine wpAny_bind (wpAny_bind ((hp A _ s _).1 fun t tk => ?_))
    refine wpAny_bind (wpAny_holding ((hp A _ _ _).2 fun t2 tk2 => ?_))
    have hfr : k ∉ acc.map (·.1) := fun h => by
      have := (List.nodup_append.mp hn).2.2 k h k (by simp)
      exact this rfl
    refine wpAny_bind (wpAny_holding (wpAny_dictSet_pairs (k := k) (hsz := by rw [sizeLine_eq]; simp at hsz; omega) (intKind_is _ _ _ _) hm fun h₁ hm₁ hs₁ => wpAny_pure ?_))
    rw [stored_fresh hfr] at hm₁
    refine storeLong r kL (acc ++ [(k, .str x t2)]) _ Q hl hm₁ (by simpa using hn) (by simp at hsz ⊢; omega) fun h' tk' more hm' hv hs' => ?_
    rw [List.append_assoc, List.singleton_append] at hm'
    exact hQ h' tk' _ hm' ⟨rfl, ⟨t2, rfl⟩, hv⟩ (hs₁.trans hs')
  | [], _ :: _, _, _, _, h, _, _, _, _ => h.elim
  | _ :: _, [], _, _, _, h, _, _, _, _ => h.elim

/-- what a sub-dict's making leaves -/
noncomputable def SubQ (s : Shared) (kL : List (Int × Str)) (Q : Addr → Shared → Prop) : Prop :=
  ∀ h' tk d kvs, s.heap.objs.size ≤ d → h'.DictOf (intKind P0 w) d kvs → VS kvs kL → (∀ b o, s.heap.get? b = some o → h'.get? b = some o) → Q d { s with heap := h', toks := tk }

theorem evalPairs_lit : ∀ {pairs : List (Sem Value × Sem Value)} {kL : List (Int × Str)} {s : Shared} {Q : List (Value × Value) → Shared → Prop}, LitL w pairs kL →
    (∀ vs tk kvs, Carries (intKind P0 w) vs kvs → VS kvs kL → Q vs { s with toks := tk }) → wpAny (MM w) A (evalPairs pairs) Q E s
  | [], [], s, Q, _, hQ => evalPairs_nil (hQ [] s.toks [] trivial trivial)
  | p :: r, (k, x) :: kL, s, Q, ⟨hp, hl⟩, hQ => by
    refine evalPairs_cons ((hp A _ s _).1 fun t tk => (hp A _ _ _).2 fun t2 tk2 => ?_)
    exact evalPairs_lit hl fun vs tk kvs hc hv => hQ ((.int k t, .str x t2) :: vs) tk ((k, .str x t2) :: kvs) ⟨intKind_is _ _ _ _, rfl, hc⟩ ⟨rfl, ⟨t2, rfl⟩, hv⟩
  | [], _ :: _, _, _, h, _ => h.elim
  | _ :: _, [], _, _, h, _ => h.elim

theorem subDict_lit {pairs : List (Sem Value × Sem Value)} {kL : List (Int × Str)} {s : Shared} {Q : Addr → Shared → Prop} (hl : LitL w pairs kL) (hn : (kL.map (·.1)).Nodup) (hsz : kL.length ≤ 2 ^ 20) (hQ : SubQ (w := w) s kL Q) :
    wpAny (MM w) A (subDict pairs) Q E s := by
  have hnew : (s.heap.push { cls := .type "dict", data := .dict #[] }).DictOf (intKind P0 w) s.heap.objs.size [] := Heap.DictOf.new _
  have keep : ∀ h', Heap.SameBut s.heap.objs.size (s.heap.push { cls := .type "dict", data := .dict #[] }) h' → ∀ b o, s.heap.get? b = some o → h'.get? b = some o := fun h' hs b o e =>
    (hs.2 b (Nat.ne_of_lt (Heap.lt_size e))).trans (Heap.get?_push_of_some _ e)
  by_cases h15 : pairs.length ≤ 15
  · refine wpAny_subDict (knd := intKind P0 w) h15 ?_
    refine evalPairs_lit hl fun vs tk kvs hc hv => ⟨kvs, hc, hnew, fun h' hm hs => ?_⟩
    rw [merged_nil_of_nodup _ (by rw [hv.keys]; exact hn)] at hm
    exact hQ h' _ _ kvs (Nat.le_refl _) hm hv (keep h' hs)
  · unfold subDict
    refine wpAny_bind (wpAny_alloc ?_)
    refine wpAny_bind (wpAny_holding ?_)
    rw [if_neg h15]
    refine wpAny_bind (wpAny_rule ?_)
    refine wpAny_bind (storeLong pairs kL [] _ _ hl hnew (by simpa using hn) (by simpa using hsz) fun h' tk more hm hv hs => wpAny_pure (wpAny_pure ?_))
    rw [List.nil_append] at hm
    exact hQ h' _ _ more (Nat.le_refl _) hm hv (keep h' hs)

theorem dictPut_fresh {d : Addr} {acc : List (Int × Value)} {k : Int} {key v : Value} {s : Shared} {Q : Unit → Shared → Prop} (hkey : (intKind P0 w).is k key = true) (hm : s.heap.DictOf (intKind P0 w) d acc) (hf : k ∉ acc.map (·.1)) (hsz : acc.length ≤ 2 ^ 20)
    (hQ : ∀ h', h'.DictOf (intKind P0 w) d (acc ++ [(k, v)]) → Heap.SameBut d s.heap h' → Q () { s with heap := h' }) :
    wpAny (MM w) A (dictPut d ((intKind P0 w).hash k) key v) Q E s := by
  obtain ⟨o, es, ep, ho, hc, hd, hk, hp, hn⟩ := hm
  have hes : es.size ≤ sizeLine := by have e1 := hp.length; have e2 : es.toList.length = es.size := by simp
                                      rw [sizeLine_eq]; omega
  unfold dictPut
  refine wpAny_bind (wpAny_dictFind_of hkey ho hd hk ?_)
  have hidx : (es.findIdx? fun e => (intKind P0 w).is k e.key) = acc.findIdx? fun kv => decide (kv.1 = k) := by
    rw [← hp.findIdx k]; obtain ⟨l⟩ := es; simp
  have hno : (es.findIdx? fun e => (intKind P0 w).is k e.key) = none := by
    rw [hidx, List.findIdx?_eq_none_iff]
    intro x hx
    simp only [decide_eq_false_iff_not]
    exact fun e => hf (List.mem_map.mpr ⟨x, hx, e⟩)
  rw [hno]
  refine wpAny_updateDictKeys (hz := hes) ho hd (hQ _ ⟨_, _, ep + 1, Heap.get?_update_self _ ho (Obj.isFreed_of_dict (Obj.data_mapDictKeys hd _)),
      hc.mapDictKeys _, Obj.data_mapDictKeys hd _, hk.push hkey _, ?_, ?_⟩ (Heap.SameBut.update ..))
  · have := hp.append hkey ((intKind P0 w).hash k) v
    obtain ⟨l⟩ := es
    simpa using this
  · rw [List.map_append, List.nodup_append]
    refine ⟨hn, by simp, ?_⟩
    intro a ha b hb
    simp only [List.map_cons, List.map_nil, List.mem_singleton] at hb
    subst hb
    exact fun e => hf (e ▸ ha)
end
end
section
open PySem.W
section
variable {w : World} {A : Around} {E : Value → Shared → Prop} {s : Shared}

theorem mergeMap {d o : Addr} {acc more : List (Int × Value)} {Q : Unit → Shared → Prop} (hdo : d ≠ o) (hoS : (o == sysModules) = false)
    (hd : s.heap.DictOf (intKind P0 w) d acc) (ho : s.heap.DictOf (intKind P0 w) o more) (hne : acc ≠ []) (hn : (acc.map (·.1) ++ more.map (·.1)).Nodup) (hsz : acc.length + more.length ≤ 2 ^ 20)
    (hQ : ∀ h', h'.DictOf (intKind P0 w) d (acc ++ more) → Heap.SameBut d s.heap h' → Q () { s with heap := h' }) :
    wpAny (MM w) A (mergeMapping d (.ref o) false) Q E s := by
  have hoT : s.TypeIs (.ref o) "dict" := ho.typeIs
  obtain ⟨od, esd, epd, hod, hcd, hdd, hkd, hpd, hnd⟩ := id hd
  obtain ⟨oo, eso, epo, hoo, hco, hdo', hko, hpo, hno⟩ := id ho
  have hlen : more.length = eso.size := by rw [← hpo.length]; simp
  unfold mergeMapping
  refine wpAny_bind (wpAny_isInstance (b := true) hoT (by first | rfl | (rw [isSubtype_type]; kernel_rfl)) ?_)
  rw [if_pos rfl]
  refine wpAny_bind (wpAny_specialOf hoT F.slot_dict_iter.lookup (wpAny_bind (wpAny_pure ?_)))
  rw [show ((some (Value.builtin "dict.__iter__") : Option Value) == some (.builtin "dict.__iter__")) = true from by decide]
  dsimp only
  rw [if_neg (by rw [hoS]; exact Bool.false_ne_true)]
  refine wpAny_bind (wpAny_dictEntries hod hdd ?_)
  have hdne : esd.isEmpty = false := by
    rw [Array.isEmpty_eq_false_iff]
    intro h0
    have := hpd.length; rw [h0] at this
    exact hne (List.length_eq_zero_iff.mp (by simpa using this.symm))
  rw [hdne, if_neg Bool.false_ne_true]
  refine wpAny_bind (wpAny_dictEntries hoo hdo' ?_)
  refine wpAny_bind (wpAny_dictEpoch hoo hdo' ?_)
  refine wpAny_bind ?_
  rw [List.range_eq_range']
  refine wpAny_forIn_list _
      (fun rest _ s' => ∃ h' i, s' = { s with heap := h' } ∧ rest = List.range' i (eso.size - i) ∧ i ≤ eso.size ∧ h'.DictOf (intKind P0 w) d (acc ++ more.take i) ∧ h'.get? o = some oo ∧ Heap.SameBut d s.heap h')
      _ ?_ ?_ _ _ ⟨s.heap, 0, rfl, by simp, Nat.zero_le _, by simpa using hd, hoo, Heap.SameBut.refl _ _⟩
  · rintro x rest b s' ⟨h', i, rfl, hr, hi, hd', hoo', hs'⟩
    have hlt : i < eso.size := by
      rcases Nat.lt_or_ge i eso.size with h | h
      · exact h
      · rw [Nat.sub_eq_zero_of_le h] at hr; simp at hr
    obtain ⟨rfl, hrest⟩ : x = i ∧ rest = List.range' (i + 1) (eso.size - (i + 1)) := by
      have e : eso.size - i = (eso.size - (i + 1)) + 1 := subSucc (by assumption)
      rw [e, List.range'_succ] at hr
      injection hr with h1 h2
      exact ⟨h1, h2⟩
    refine wpAny_bind (wpAny_dictEntries hoo' hdo' ?_)
    rw [Array.getElem?_eq_getElem hlt]
    obtain ⟨kv, hkv⟩ : ∃ kv, more[x]? = some kv := ⟨more[x]'(by rw [hlen]; exact hlt), List.getElem?_eq_getElem _⟩
    obtain ⟨k, v⟩ := kv
    obtain ⟨hkey, hval⟩ := hpo.get? (e := eso[x]) (by simp [hlt]) hkv
    obtain ⟨k', hkey', hhash⟩ := hko eso[x] (Array.getElem_mem hlt)
    obtain rfl : k' = k := (intKind P0 w).inj _ _ _ hkey' hkey
    dsimp only
    rw [hhash, hval]
    have hfr : k' ∉ (acc ++ more.take x).map (·.1) := by
      rw [List.map_append, List.mem_append]
      rintro (h | h)
      · exact (List.nodup_append.mp hn).2.2 k' h k' (List.mem_map.mpr ⟨_, List.mem_of_getElem? hkv, rfl⟩) rfl
      · have hnm := (List.nodup_append.mp hn).2.1
        obtain ⟨p, hp, e⟩ := List.mem_map.mp h
        obtain ⟨j, hj, ej⟩ := List.getElem_of_mem hp
        rw [List.length_take] at hj
        rw [List.getElem_take] at ej
        have h1 : (more.map (·.1))[j]? = some k' := by rw [List.getElem?_map, List.getElem?_eq_getElem (by omega), Option.map_some, ej, e]
        have h2 : (more.map (·.1))[x]? = some k' := by rw [List.getElem?_map, hkv]; rfl
        have := (List.getElem?_inj (by simp; omega) hnm).mp (h1.trans h2.symm)
        omega
    have hsz2 : (acc ++ more.take x).length ≤ 2 ^ 20 := by simp; omega
    refine wpAny_bind (wpAny_holding ?_)
    rw [if_neg Bool.false_ne_true]
    refine dictPut_fresh hkey hd' hfr hsz2 fun h'' hd'' hs'' => ?_
    refine wpAny_bind (wpAny_dictEpoch ((hs''.2 o (Ne.symm hdo)).trans hoo') hdo' ?_)
    rw [if_neg (by simp)]
    refine wpAny_pure ⟨h'', x + 1, rfl, hrest, hlt, ?_, (hs''.2 o (Ne.symm hdo)).trans hoo', hs'.trans hs''⟩
    rw [List.take_succ, hkv]
    simpa using hd''
  · rintro b s' ⟨h', i, rfl, hr, hi, hd', hoo', hs'⟩
    have hin : i = eso.size := by
      rcases Nat.lt_or_ge i eso.size with h | h
      · have e : eso.size - i = (eso.size - (i + 1)) + 1 := subSucc (by assumption)
        rw [e, List.range'_succ] at hr; exact nomatch hr
      · exact Nat.le_antisymm hi h
    rw [hin, ← hlen, List.take_length] at hd'
    exact wpAny_pure (hQ h' hd' hs')
end
end
section
open PySem.W
section
variable {w : World} {A : Around} {E : Value → Shared → Prop} {s : Shared}

/-- how a long display stands: what is in the dict, what is in the run -/
noncomputable def MainAt (w : World) (s : Shared) (main : Option Addr) (kP : List (Int × Str)) (h : Heap) : Prop :=
  match main with
  | none => kP = []
  | some d => kP ≠ [] ∧ s.heap.objs.size ≤ d ∧ ∃ kvs, h.DictOf (intKind P0 w) d kvs ∧ VS kvs kP

theorem dictDisplay_lit {pairs : List (Sem Value × Sem Value)} {kL : List (Int × Str)} {Q : Value → Shared → Prop} (hl : LitL w pairs kL) (hn : (kL.map (·.1)).Nodup) (hsz : kL.length ≤ 2 ^ 20) (hne : kL ≠ []) (hbig : sysModules < s.heap.objs.size)
    (hQ : SubQ (w := w) s kL fun d s' => Q (.ref d) s') :
    wpAny (MM w) A (dictDisplay (pairs.map fun p => (some p.1, p.2))) Q E s := by
  -- a flush of a run
  have flush : ∀ (run : List (Sem Value × Sem Value)) (kR kP : List (Int × Str)) (main : Option Addr) (h : Heap) (tk : Nat) (E' : Value → Shared → Prop) (Q' : Option Addr → Shared → Prop), LitL w run kR → ((kP ++ kR).map (·.1)).Nodup → (kP ++ kR).length ≤ 2 ^ 20 → run ≠ [] →
      MainAt w s main kP h → (∀ b o, s.heap.get? b = some o → h.get? b = some o) → s.heap.objs.size ≤ h.objs.size →
      (∀ d h' tk, MainAt w s (some d) (kP ++ kR) h' → (∀ b o, s.heap.get? b = some o → h'.get? b = some o) → s.heap.objs.size ≤ h'.objs.size → Q' (some d) { s with heap := h', toks := tk }) →
      wpAny (MM w) A (if run.isEmpty = true then pure main else match main with
        | none => do return some (← subDict run)
        | some d => do
          let sub ← holding [.ref d] (subDict run)
          (holding [.ref d, .ref sub] (mergeMapping d (.ref sub) false)).onRaise fun x => do let _ ← holding [.ref d, x] (runValue (.builtin "proto.let_go" {}))
          return some d) Q' E' { s with heap := h, toks := tk } := by
    intro run kR kP main h tk E' Q' hlr hnd hsz hrun hm keep hgrow hq
    have hR : kR ≠ [] := by rintro rfl; exact hrun (List.length_eq_zero_iff.mp hlr.length)
    rw [if_neg (by simpa using hrun)]
    rw [List.map_append] at hnd
    cases main with
    | none =>
      have : kP = [] := hm
      subst this
      refine wpAny_bind (subDict_lit hlr (by simpa using hnd) (by simpa using hsz) fun h' tk' d kvs hd hdo hv hk => wpAny_pure ?_)
      exact hq d h' tk' ⟨by simpa using hR, Nat.le_trans hgrow hd, kvs, hdo, by simpa using hv⟩ (fun b o e => hk b o (keep b o e)) (by
        obtain ⟨o, _, _, ho, _⟩ := hdo
        exact Nat.le_trans (Nat.le_trans hgrow hd) (Nat.le_of_lt (Heap.lt_size ho)))
    | some d =>
      obtain ⟨hP, hds, kvs, hdo, hv⟩ := hm
      refine wpAny_bind (wpAny_holding (subDict_lit hlr (List.nodup_append.mp hnd).2.1 (by simp at hsz; omega) fun h' tk' sub more hs hso hvm hk => ?_))
      have hdo' : h'.DictOf (intKind P0 w) d kvs := by obtain ⟨o, es, ep, ho, r⟩ := hdo; exact ⟨o, es, ep, hk _ _ ho, r⟩
      have hdlt : d < h.objs.size := by obtain ⟨o, _, _, ho, _⟩ := hdo; exact Heap.lt_size ho
      have hds' : d ≠ sub := Nat.ne_of_lt (Nat.lt_of_lt_of_le hdlt hs)
      have hsm : (sub == sysModules) = false := beq_eq_false_iff_ne.mpr (Nat.ne_of_gt (Nat.lt_of_lt_of_le hbig (Nat.le_trans hgrow hs)))
      refine wpAny_bind (wpAny_onRaise (wpAny_holding (mergeMap hds' hsm hdo' hso ?_ (by rw [hv.keys, hvm.keys]; exact hnd) (by rw [hv.length, hvm.length]; simpa using hsz) fun h2 hd2 hs2 => wpAny_pure ?_)))
      · rintro rfl
        have := hv.length
        exact hP (List.length_eq_zero_iff.mp this.symm)
      · refine hq d h2 tk' ⟨by simp [hP], hds, _, hd2, hv.append hvm⟩ (fun b o e => ?_) ?_
        · exact (hs2.2 b (Nat.ne_of_lt (Nat.lt_of_lt_of_le (Heap.lt_size e) hds))).trans (hk b o (keep b o e))
        · rw [hs2.1]; obtain ⟨o, _, _, ho, _⟩ := hdo'; exact Nat.le_trans hds (Nat.le_of_lt (Heap.lt_size ho))
  unfold dictDisplay
  dsimp only
  refine wpAny_bind ?_
  refine wpAny_forIn_list _
      (fun rest (b : Option Addr × List (Sem Value × Sem Value)) s' => ∃ (run restP : List (Sem Value × Sem Value)) (kP kR kT : List (Int × Str)) (h : Heap) (tk : Nat), s' = { s with heap := h, toks := tk } ∧ rest = restP.map (fun p => (some p.1, p.2)) ∧ b.2 = run ∧ kP ++ kR ++ kT = kL ∧ LitL w run kR ∧ LitL w restP kT ∧ run.length < 17 ∧
        MainAt w s b.1 kP h ∧ (∀ b o, s.heap.get? b = some o → h.get? b = some o) ∧ s.heap.objs.size ≤ h.objs.size)
      _ ?_ ?_ _ _ ⟨[], pairs, [], [], kL, s.heap, s.toks, rfl, rfl, rfl, rfl, trivial, hl, by simp, rfl, fun _ _ e => e, Nat.le_refl _⟩
  · rintro x rest b s' ⟨run, restP, kP, kR, kT, h, tk, rfl, hr, hb, hk, hlr, hlt, hlen, hm, keep, hgrow⟩
    cases restP with
    | nil => cases hr
    | cons p restP =>
      rw [List.map_cons] at hr
      injection hr with hx hr
      subst hx hr hb
      cases kT with
      | nil => exact hlt.elim
      | cons kx kT =>
        have hlr' : LitL w (b.2 ++ [(p.1, p.2)]) (kR ++ [kx]) := hlr.append ⟨hlt.1, trivial⟩
        have hk' : kP ++ (kR ++ [kx]) ++ kT = kL := by rw [← hk]; simp
        dsimp only
        by_cases h17 : ((b.2 ++ [(p.1, p.2)]).length == 17) = true
        · rw [if_pos h17]
          have hsub : kP ++ (kR ++ [kx]) <+: kL := ⟨kT, hk'⟩
          refine wpAny_bind (flush _ (kR ++ [kx]) kP b.1 h tk _ _ hlr' (hn.sublist (hsub.sublist.map _)) (Nat.le_trans hsub.length_le hsz) (by simp) hm keep hgrow fun d h' tk' hm' keep' hgrow' => ?_)
          exact wpAny_pure ⟨[], restP, kP ++ (kR ++ [kx]), [], kT, h', tk', rfl, rfl, rfl, by rw [List.append_nil]; exact hk', trivial, hlt.2, by simp, hm', keep', hgrow'⟩
        · rw [if_neg h17]
          exact wpAny_pure ⟨_, restP, kP, kR ++ [kx], kT, h, tk, rfl, rfl, rfl, hk', hlr', hlt.2, by simp at h17 ⊢; omega, hm, keep, hgrow⟩
  · rintro b s' ⟨run, restP, kP, kR, kT, h, tk, rfl, hr, hb, hk, hlr, hlt, hlen, hm, keep, hgrow⟩
    have h0 : restP = [] := by simpa using hr.symm
    subst h0
    have hT : kT = [] := by cases kT with | nil => rfl | cons _ _ => exact hlt.elim
    subst hT hb
    rw [List.append_nil] at hk
    by_cases he : b.2 = []
    · rw [he, if_pos (by rfl)]
      rw [he] at hlr
      have hR : kR = [] := by cases kR with | nil => rfl | cons _ _ => exact hlr.elim
      subst hR
      rw [List.append_nil] at hk
      subst hk
      obtain ⟨b1, b2⟩ := b
      cases b1 with
      | none => exact absurd hm hne
      | some d =>
        obtain ⟨_, hds, kvs, hdo, hv⟩ := hm
        exact wpAny_bind (wpAny_pure (wpAny_pure (hQ h tk d kvs hds hdo hv keep)))
    · refine wpAny_bind (flush _ kR kP b.1 h tk _ _ hlr (by rw [hk]; exact hn) (by rw [hk]; exact hsz) he hm keep hgrow fun d h' tk' hm' keep' hgrow' => ?_)
      rw [hk] at hm'
      obtain ⟨_, hds, kvs, hdo, hv⟩ := hm'
      exact wpAny_pure (hQ h' tk' d kvs hds hdo hv keep')

/-- all of a display is written -/
noncomputable def litKV : Option Expr → Expr → Option (Int × Str)
  | some (.Constant (.int i) _ _), .Constant (.str x) _ _ => some (i, x)
  | _, _ => none
noncomputable def litAll : List (Option Expr) → List Expr → Option (List (Int × Str))
  | [], [] => some []
  | k :: ks, v :: vs => match litKV k v, litAll ks vs with
    | some p, some r => some (p :: r)
    | _, _ => none
  | _, _ => none
theorem litL_of {env : Env} {pos : Pos} : ∀ {ks : List (Option Expr)} {vs : List Expr} {kL : List (Int × Str)}, litAll ks vs = some kL →
    LitL w (pairTrees ks vs env pos) kL ∧ ks.all (·.isSome) = true ∧ ks.length = vs.length
  | [], [], kL, h => by cases h; exact ⟨trivial, rfl, rfl⟩
  | k :: ks, v :: vs, kL, h => by
    unfold litAll at h
    cases e1 : litKV k v with
    | none => rw [e1] at h; simp at h
    | some p =>
      cases e2 : litAll ks vs with
      | none => rw [e1, e2] at h; simp at h
      | some r =>
        rw [e1, e2] at h
        simp only [Option.some.injEq] at h
        subst h
        obtain ⟨a, b, c⟩ := litL_of (env := env) (pos := pos) e2
        unfold litKV at e1
        split at e1
        · rename_i i k1 p1 x k2 p2
          cases e1
          refine ⟨⟨fun A E s Q => ⟨fun hq => ?_, fun hq => ?_⟩, a⟩, by simpa using b, by simp [c]⟩
          · show wpAny _ _ (eval (.Constant (.int i) k1 p1) env) _ _ _
            exact wpAny_Constant_int (hq _ _)
          · show wpAny _ _ (eval (.Constant (.str x) k2 p2) env >>= fun x => standAt pos >>= fun _ => pure x) _ _ _
            exact wpAny_bind (wpAny_Constant_str (wpAny_bind (wpAny_standAt (wpAny_pure (hq _ _)))))
        · cases e1
  | [], _ :: _, _, h => by simp [litAll] at h
  | _ :: _, [], _, h => by simp [litAll] at h

theorem dictLit {env : Env} {ks : List (Option Expr)} {vs : List Expr} {pos : Pos} {kL : List (Int × Str)} {Q : Value → Shared → Prop} (h : litAll ks vs = some kL) (hn : (kL.map (·.1)).Nodup) (hsz : kL.length ≤ 2 ^ 20) (hne : kL ≠ []) (hbig : sysModules < s.heap.objs.size)
    (hQ : SubQ (w := w) s kL fun d s' => Q (.ref d) s') : wpAny (MM w) A (eval (.Dict ks vs pos) env) Q E s := by
  obtain ⟨a, b, c⟩ := litL_of (w := w) (env := env) (pos := pos) h
  rw [arm_eval_Dict, zip_pairTrees ks vs env pos b c]
  exact wpAny_bind (wpAny_standAt (dictDisplay_lit a hn hsz hne hbig hQ))
end
end
section
open PySem.W
noncomputable def psS : Stmt → Pos
  | .FunctionDef _ _ _ _ _ _ _ _ _ p => p
  | _ => default
noncomputable def psn (i : Nat) : Pos := psS (stm i)

structure Tp (h₀ : Heap) (mg₀ : Str → Option Value) (c Pl : Addr) (h : Heap) (mg : Str → Option Value) (ps : Array Value) (ln : Nat) (L : List (Str × (Addr → Heap → Prop))) (names : List Str) : Prop where
  main : h.Main mg c Pl ps
  keep : ∀ b o, b ≠ Pl → b ≠ mainGlobals → h₀.get? b = some o → h.get? b = some o
  lowP : Pl < h₀.objs.size
  lowG : mainGlobals < h₀.objs.size
  grows : h₀.objs.size ≤ h.objs.size
  made : ∀ p ∈ L, ∃ a, h₀.objs.size ≤ a ∧ mg p.1 = some (.ref a) ∧ p.2 a h
  stab : ∀ p ∈ L, ∀ a h h', h₀.objs.size ≤ a → (∀ b o, h₀.objs.size ≤ b → h.get? b = some o → h'.get? b = some o) → p.2 a h → p.2 a h'
  others : ∀ x, x ∉ names → mg x = mg₀ x
  tri : ∀ pos : Pos, ln < pos.line → codeAmong pos ps.toList = none

section
variable {w : World} {A : Around} {E : Value → Shared → Prop} {s : Shared} {h₀ : Heap} {mg₀ mg : Str → Option Value} {c Pl F : Addr} {ps : Array Value} {ln : Nat} {L : List (Str × (Addr → Heap → Prop))} {names : List Str} {Q : Flow → Shared → Prop}

theorem codeAmong_other {pos pos' : Pos} {c : Value} (l : List Value) (h : TriplesOk l) (hn : codeAmong pos l = none) (hp : pos'.line ≠ pos.line) : codeAmong pos (l ++ [rawInt pos'.line, rawInt pos'.col, c]) = none := by
  fun_induction TriplesOk l with
  | case1 =>
    have : ((pos'.line : Int) == (pos.line : Int)) = false := by simp only [beq_eq_false_iff_ne, ne_eq]; omega
    simp [codeAmong, rawInt, this]
  | case2 a t b u x rest ih =>
    simp only [List.cons_append, codeAmong] at hn ⊢
    split at hn
    · cases hn
    · rename_i hc; rw [if_neg hc]; exact ih h hn
  | case3 l h1 h2 => exact h.elim

theorem Tp.rebind {h h' : Heap} {ps' : Array Value} {ln' : Nat} {x : Str} {v : Value} (X : Tp h₀ mg₀ c Pl h mg ps ln L names) (hnew : ∀ p ∈ L, p.1 ≠ x)
    (hm : h'.Main (fun y => if y = x then some v else mg y) c Pl ps')
    (keep : ∀ b o, b ≠ Pl → b ≠ mainGlobals → h.get? b = some o → h'.get? b = some o) (hsz : h₀.objs.size ≤ h'.objs.size) (tri : ∀ pos : Pos, ln' < pos.line → codeAmong pos ps'.toList = none) :
    Tp h₀ mg₀ c Pl h' (fun y => if y = x then some v else mg y) ps' ln' L (x :: names) := by
  have up : ∀ b o, h₀.objs.size ≤ b → h.get? b = some o → h'.get? b = some o := fun b o hb e => keep b o (Nat.ne_of_gt (Nat.lt_of_lt_of_le X.lowP hb)) (Nat.ne_of_gt (Nat.lt_of_lt_of_le X.lowG hb)) e
  refine ⟨hm, fun b o hP hG e => keep b o hP hG (X.keep b o hP hG e), X.lowP, X.lowG, hsz, fun p hp => ?_, X.stab, fun y hy => ?_, tri⟩
  · obtain ⟨a, ha, hb, hc⟩ := X.made p hp
    refine ⟨a, ha, ?_, X.stab p hp a h h' ha up hc⟩
    show (if p.1 = x then _ else mg p.1) = _
    rw [if_neg (hnew p hp)]; exact hb
  · show (if y = x then _ else mg y) = _
    rw [if_neg (fun q => hy (by rw [q]; exact List.mem_cons_self))]
    exact X.others y (fun q => hy (List.mem_cons_of_mem _ q))

theorem Tp.add {h : Heap} {x : Str} {P : Addr → Heap → Prop} {a : Addr} (X : Tp h₀ mg₀ c Pl h mg ps ln L names) (ha : h₀.objs.size ≤ a) (hx : mg x = some (.ref a)) (hp : P a h)
    (st : ∀ a h h', h₀.objs.size ≤ a → (∀ b o, h₀.objs.size ≤ b → h.get? b = some o → h'.get? b = some o) → P a h → P a h') : Tp h₀ mg₀ c Pl h mg ps ln ((x, P) :: L) names := by
  refine ⟨X.main, X.keep, X.lowP, X.lowG, X.grows, fun p hp' => ?_, fun p hp' => ?_, X.others, X.tri⟩
  · rcases List.mem_cons.mp hp' with rfl | hp'
    · exact ⟨a, ha, hx, hp⟩
    · exact X.made p hp'
  · rcases List.mem_cons.mp hp' with rfl | hp'
    · exact st
    · exact X.stab p hp'

theorem Tp.grown {h h₁ : Heap} (X : Tp h₀ mg₀ c Pl h mg ps ln L names) (hk : ∀ b o, h.get? b = some o → h₁.get? b = some o) (hsz : h.objs.size ≤ h₁.objs.size) : Tp h₀ mg₀ c Pl h₁ mg ps ln L names := by
  obtain ⟨bm, o, hbm, hne0, hneG, hneP, hbo, hrest⟩ := X.main.bmod
  refine ⟨⟨X.main.g.keeps hk, X.main.code.keeps hk, X.main.low, ⟨bm, o, hbm, hne0, hneG, hneP, hk _ _ hbo, hrest⟩⟩, fun b o hP hG e => hk b o (X.keep b o hP hG e), X.lowP, X.lowG, Nat.le_trans X.grows hsz, fun p hp => ?_, X.stab, X.others, X.tri⟩
  obtain ⟨a, ha, hb, hc⟩ := X.made p hp
  exact ⟨a, ha, hb, X.stab p hp a h h₁ ha (fun b o _ e => hk b o e) hc⟩

/-- a value is bound to a name of the module -/
theorem Tp.store {x : Str} {v : Value} {Q : Unit → Shared → Prop} (X : Tp h₀ mg₀ c Pl s.heap mg ps ln L names) (hnew : ∀ p ∈ L, p.1 ≠ x) (hloc : P0.main.scope.names.lookup x = some .local) (hnb : x ≠ "__builtins__")
    (k : ∀ h' tk, (∀ b o, b ≠ mainGlobals → s.heap.get? b = some o → h'.get? b = some o) → Tp h₀ mg₀ c Pl h' (fun y => if y = x then some v else mg y) ps ln L (x :: names) → Q () { s with heap := h', toks := tk }) :
    wpAny (MM w) A (storeName (mainEnv P0 c F) x v) Q E s := by
  refine wpAny_storeName_local (env := mainEnv P0 c F) hloc X.main.g (fun h' hg' hs' => ?_)
    (by show (P0.main.scope.kind == .class || (P0.main.scope.kind == .module && mainGlobals != mainGlobals)) = false; rw [show P0.main.scope.kind = .module from by kernel_rfl]; rfl)
  obtain ⟨bm, o, hbm, hne0, hneG, hneP, hbo, hrest⟩ := X.main.bmod
  have hm : h'.Main (fun y => if y = x then some v else mg y) c Pl ps :=
    ⟨hg', X.main.code.sameBut hs' (Nat.ne_of_gt X.main.low.1) (Nat.ne_of_gt X.main.low.2), X.main.low,
      ⟨bm, o, by simp only [Ne.symm hnb, if_false]; exact hbm, hne0, hneG, hneP, (hs'.2 _ hneG).trans hbo, hrest⟩⟩
  exact k h' _ (fun b o hG e => (hs'.2 _ hG).trans e) (X.rebind hnew hm (fun b o _ hG e => (hs'.2 _ hG).trans e) (Nat.le_trans X.grows (Nat.le_of_eq hs'.1.symm)) X.tri)

noncomputable def FnT (N : Nat) (i : Nat) (a : Addr) (h : Heap) : Prop :=
  ∃ (pm : Value) (c : Addr) (doc : Value), N ≤ c ∧ h.get? a = some { cls := .type "function", data := .func (fdOf i .none pm (.ref c) doc) } ∧ h.CodeRec (.ref c) (nm i)
theorem FnT.fnAt {N i : Nat} {a : Addr} {h : Heap} (x : FnT N i a h) : FnAt h i a := let ⟨pm, c, doc, _, r⟩ := x; ⟨pm, c, doc, r⟩
theorem codeRec_at {h h' : Heap} {c : Addr} {q : Str} (x : h.CodeRec (.ref c) q) (e : ∀ o, h.get? c = some o → h'.get? c = some o) : h'.CodeRec (.ref c) q := x.at e
theorem FnT.stab (N i : Nat) : ∀ (a : Addr) (h h' : Heap), N ≤ a → (∀ b o, N ≤ b → h.get? b = some o → h'.get? b = some o) → FnT N i a h → FnT N i a h' := by
  rintro a h h' ha k ⟨pm, c, doc, hc, ho, hr⟩
  exact ⟨pm, c, doc, hc, k _ _ ha ho, codeRec_at hr fun o => k c o hc⟩
noncomputable def NsT (N : Nat) (a : Addr) (h : Heap) : Prop :=
  ∃ (pm : Value) (c : Addr) (doc : Value) (T : Addr), N ≤ c ∧ N ≤ T ∧ h.get? a = some { cls := .type "function", data := .func (fdOf 10 (.ref T) pm (.ref c) doc) } ∧ h.CodeRec (.ref c) (nm 10) ∧
    ∃ o n, h.get? T = some o ∧ o.cls = .type "tuple" ∧ o.data = .seq #[.none] n
theorem NsT.stab (N : Nat) : ∀ (a : Addr) (h h' : Heap), N ≤ a → (∀ b o, N ≤ b → h.get? b = some o → h'.get? b = some o) → NsT N a h → NsT N a h' := by
  rintro a h h' ha k ⟨pm, c, doc, T, hc, hT, ho, hr, o, n, hoT, r⟩
  exact ⟨pm, c, doc, T, hc, hT, k _ _ ha ho, codeRec_at hr fun o => k c o hc, o, n, k _ _ hT hoT, r⟩

/-- a def of the text -/
theorem defT (i : Nat) (X : Tp h₀ mg₀ c Pl s.heap mg ps ln L names) (hnew : ∀ p ∈ L, p.1 ≠ nm i) (hd : (prm i).defaults = [])
    (k : ∀ h' tk mg' ps', Tp h₀ mg₀ c Pl h' mg' ps' (psn i).line ((nm i, FnT h₀.objs.size i) :: L) (nm i :: names) → Q .next { s with heap := h', toks := tk })
    (shape : stm i = .FunctionDef (nm i) (prm i) (bdy i) [] none [] (scp i) none (nm i) (psn i)) (hln : ln < (psn i).line)
    (hkw : (prm i).kwonlyargs = []) (hkd : (prm i).kw_defaults = []) (hann0 : annTrees (prm i) none (mainEnv P0 c F) = []) (hfree : ((scp i).names.all fun x => x.2 != .free) = true)
    (hloc : P0.main.scope.names.lookup (nm i) = some .local) (hq : qualnameIn { scope := P0.main.scope, locals := mainGlobals, globals := mainGlobals, cells := [] } (nm i) (nm i) = nm i) (hnb : nm i ≠ "__builtins__") (hmod : P0.main.scope.kind = .module) :
    wpAny (MM w) A (exec (stm i) (mainEnv P0 c F)) Q E s := by
  rw [shape]
  refine wpAny_defStmt0 hkw hkd (by rw [hd]; simp) hann0 (fun x hx => by have := List.all_eq_true.mp hfree x hx; simpa using this) hloc hq X.main (fun a c' doc dV vs h' tk ha hm hf hcv hdf hcd keep => ?_) hnb hmod (X.tri _ hln)
  rw [hd] at hcv
  have hvs : vs = [] := by cases vs with | nil => rfl | cons _ _ => exact hcv.elim
  subst hvs
  have hdV : dV = .none := by
    rcases hdf with ⟨_, e⟩ | ⟨e, _⟩
    · exact e
    · exact absurd rfl e
  subst hdV
  have haN : h₀.objs.size ≤ a := Nat.le_trans X.grows ha
  have htri : TriplesOk ps.toList := by obtain ⟨_, _, _, _, _, _, _, _, _, _, _, _, _, _, _, _, _, _, _, t, _⟩ := X.main.code; exact t
  refine k h' tk _ _ ((X.rebind hnew hm keep (Nat.le_trans haN (Nat.le_of_lt (Heap.lt_size hf))) (fun pos hp => ?_)).add haN (if_pos rfl) ⟨_, c', doc, Nat.le_trans X.grows hcd.1, hf, hcd.2⟩ (FnT.stab _ _))
  rw [Array.toList_append]
  exact codeAmong_other _ htri (X.tri pos (Nat.lt_trans hln hp)) (Nat.ne_of_lt hp)

/-- the def with a default -/
theorem defN (X : Tp h₀ mg₀ c Pl s.heap mg ps ln L names) (hnew : ∀ p ∈ L, p.1 ≠ nm 10) {e : Expr} (hd : (prm 10).defaults = [e]) (he : e.isPlainConst = true) (hv : ∀ v, e.ConstVal v → v = .none)
    (k : ∀ h' tk mg' ps', Tp h₀ mg₀ c Pl h' mg' ps' (psn 10).line ((nm 10, NsT h₀.objs.size) :: L) (nm 10 :: names) → Q .next { s with heap := h', toks := tk })
    (shape : stm 10 = .FunctionDef (nm 10) (prm 10) (bdy 10) [] none [] (scp 10) none (nm 10) (psn 10)) (hln : ln < (psn 10).line)
    (hkw : (prm 10).kwonlyargs = []) (hkd : (prm 10).kw_defaults = []) (hann0 : annTrees (prm 10) none (mainEnv P0 c F) = []) (hfree : ((scp 10).names.all fun x => x.2 != .free) = true)
    (hloc : P0.main.scope.names.lookup (nm 10) = some .local) (hq : qualnameIn { scope := P0.main.scope, locals := mainGlobals, globals := mainGlobals, cells := [] } (nm 10) (nm 10) = nm 10) (hnb : nm 10 ≠ "__builtins__") (hmod : P0.main.scope.kind = .module) :
    wpAny (MM w) A (exec (stm 10) (mainEnv P0 c F)) Q E s := by
  rw [shape]
  refine wpAny_defStmt0 hkw hkd (by rw [hd]; simpa using he) hann0 (fun x hx => by have := List.all_eq_true.mp hfree x hx; simpa using this) hloc hq X.main (fun a c' doc dV vs h' tk ha hm hf hcv hdf hcd keep => ?_) hnb hmod (X.tri _ hln)
  rw [hd] at hcv
  have hvs : vs = [.none] := by
    cases vs with
    | nil => exact hcv.elim
    | cons v r =>
      obtain ⟨h1, h2⟩ := hcv
      rw [hv v h1]
      cases r with
      | nil => rfl
      | cons _ _ => exact h2.elim
  subst hvs
  rcases hdf with ⟨e', _⟩ | ⟨_, T, rfl, hT, hgT⟩
  · cases e'
  have haN : h₀.objs.size ≤ a := Nat.le_trans X.grows ha
  have htri : TriplesOk ps.toList := by obtain ⟨_, _, _, _, _, _, _, _, _, _, _, _, _, _, _, _, _, _, _, t, _⟩ := X.main.code; exact t
  refine k h' tk _ _ ((X.rebind hnew hm keep (Nat.le_trans haN (Nat.le_of_lt (Heap.lt_size hf))) (fun pos hp => ?_)).add haN (if_pos rfl) ⟨_, c', doc, T, Nat.le_trans X.grows hcd.1, Nat.le_trans X.grows hT, hf, hcd.2, _, _, hgT, rfl, rfl⟩ (NsT.stab _))
  rw [Array.toList_append]
  exact codeAmong_other _ htri (X.tri pos (Nat.lt_trans hln hp)) (Nat.ne_of_lt hp)

/-- a text bound to a name -/
theorem strT {x y : Str} {p p2 p3 : Pos} {kd : Nat} (X : Tp h₀ mg₀ c Pl s.heap mg ps ln L names) (hnew : ∀ p ∈ L, p.1 ≠ x) (hloc : P0.main.scope.names.lookup x = some .local) (hnb : x ≠ "__builtins__")
    (k : ∀ h' tk mg', Tp h₀ mg₀ c Pl h' mg' ps ln L (x :: names) → Q .next { s with heap := h', toks := tk })
    (hs : swapsWith (.Constant (.str y) kd p2) (some (.Name x p)) p3.line (mainEnv P0 c F) = pure false := by rfl) :
    wpAny (MM w) A (exec (.Assign [.Name x p] (.Constant (.str y) kd p2) p3) (mainEnv P0 c F)) Q E s := by
  refine wpAny_Assign_Name (wpAny_Constant_str ?_) hs
  exact Tp.store (s := { s with toks := s.toks + 1 }) X hnew hloc hnb fun h' tk _ Y => k h' tk _ Y

/-- a new object bound to a name -/
theorem objT {x : Str} {p p3 : Pos} {value : Expr} {P : Addr → Heap → Prop} (X : Tp h₀ mg₀ c Pl s.heap mg ps ln L names) (hnew : ∀ p ∈ L, p.1 ≠ x) (hloc : P0.main.scope.names.lookup x = some .local) (hnb : x ≠ "__builtins__")
    (st : ∀ a h h', h₀.objs.size ≤ a → (∀ b o, h₀.objs.size ≤ b → h.get? b = some o → h'.get? b = some o) → P a h → P a h')
    (hval : ∀ Q' : Value → Shared → Prop, (∀ a h₁ tk, s.heap.objs.size ≤ a → P a h₁ → a < h₁.objs.size → (∀ b o', s.heap.get? b = some o' → h₁.get? b = some o') → Q' (.ref a) { s with heap := h₁, toks := tk }) →
      wpAny (MM w) A (eval value (mainEnv P0 c F)) Q' E s)
    (k : ∀ h' tk mg', Tp h₀ mg₀ c Pl h' mg' ps ln ((x, P) :: L) (x :: names) → Q .next { s with heap := h', toks := tk })
    (hs : swapsWith value (some (.Name x p)) p3.line (mainEnv P0 c F) = pure false) :
    wpAny (MM w) A (exec (.Assign [.Name x p] value p3) (mainEnv P0 c F)) Q E s := by
  refine wpAny_Assign_Name (hval _ fun a h₁ tk ha hP hlt hk => ?_) hs
  have X₁ : Tp h₀ mg₀ c Pl ({ s with heap := h₁, toks := tk } : Shared).heap mg ps ln L names := X.grown hk (Nat.le_trans ha (Nat.le_of_lt hlt))
  have haN := Nat.le_trans X.grows ha
  refine Tp.store X₁ hnew hloc hnb fun h' tk' hk' Y => k h' tk' _ (Y.add haN (if_pos rfl) (st a h₁ h' haN (fun b o hb e => hk' b o (Nat.ne_of_gt (Nat.lt_of_lt_of_le X.lowG hb)) e) hP) st)
end
end
local macro_rules | `(tactic| walk_at "lk") => `(tactic| first | (with_reducible exact lk_hit) | (refine lk_miss rfl ?_; walk_at "lk") | (simp only [List.lookup, String.reduceBEq] <;> rfl))
local macro_rules | `(tactic| walk_at "pt") => `(tactic| first | (with_reducible exact put_hit) | (with_reducible exact put_nil) | (apply put_miss rfl; walk_at "pt"))
local macro_rules | `(tactic| walk_at "ld") => `(tactic| refine ldL (by assumption) (by walk_at "lk") ?_)
local macro_rules | `(tactic| walk_at "put") => `(tactic| simp only [put, String.reduceEq, if_true, if_false] at *)
local macro_rules | `(tactic| walk_at "st") => `(tactic| (refine stP (by assumption) (by walk_at "pt") ?_; intro hST FST))
local macro_rules | `(tactic| walk_at "s") => `(tactic| first
  | with_reducible first
    | refine wpAny_execs_cons ?_
    | refine wpAny_execs_nil ?_
    | refine wpAny_AugAssign_Name ?_
    | refine wpAny_If ?_
    | refine wpAny_Return_some ?_
    | refine wpAny_Continue ?_
    | refine wpAny_Break ?_
    | refine wpAny_isTrue_BoolOp ?_
    | refine wpAny_isTrue_Not ?_
    | refine wpAny_allTrue_And_cons ?_
    | refine wpAny_allTrue_And_nil ?_
    | refine wpAny_Constant_int ?_
    | refine wpAny_Constant_str ?_
    | refine wpAny_Constant_none ?_
    | refine wpAny_Constant_bool ?_
    | refine wpAny_BinOp ?_
    | refine wpAny_IfExp ?_
    | refine P.add_int ?_
    | refine P.sub_int ?_
    | refine P.iadd_int ?_
    | refine P.lt_int ?_
    | refine P.gt_int ?_
    | refine P.ge_int ?_
    | refine P.eq_int ?_
    | refine wpAny_truthy_bool ?_
    | refine P.truthy_int ?_
    | refine Subscript_ ?_
    | refine PyProof.Rows.assign_Name ?_
    | refine bindName_ ?_
    | refine assignInOrder_cons ?_
    | refine assignInOrder_nil ?_
    | refine isN ?_
    | refine isF ?_
  | ((with_reducible first
    | refine asN ?_ ?_
    | refine asS ?_ ?_
    | refine exA ?_ ?_
    | refine isC ?_ ?_
    | refine cmE ?_ ?_); first | exact rfl | with_unfolding_all exact rfl)
  | ((with_reducible show wpAny _ _ (eval (Expr.Name _ _) _) _ _ _); walk_at "ld")
  | ((with_reducible show wpAny _ _ (storeName _ _ _) _ _ _); walk_at "st")
  | ((with_reducible show wpAny _ _ (loadName _ _) _ _ _); refine ldnL (by assumption) (by walk_at "lk") ?_)
  | ((with_reducible show wpAny _ _ (binaryOp Operator.Mod (Value.int _ _) (Value.int _ _)) _ _ _); first | refine modN rfl (by decide) ?_ | refine mod_int (by decide) ?_)
  | (dsimp only; with_reducible show wpAny _ _ _ _ _ _))
local macro_rules | `(tactic| walk_at "S") => `(tactic| repeat (walk_at "s"))
local macro_rules | `(tactic| walk_at "sub") => `(tactic| (refine Fx.allIn (by assumption) ?_; (repeat (refine AllIn.cons (by walk_at "lk") ?_)); exact AllIn.nil))
local macro_rules | `(tactic| walk_at "bl") => `(tactic| (refine callBl (by assumption) (by assumption) (by (simp only [blts, List.lookup, String.reduceBEq] <;> rfl)) ?_))
local macro_rules | `(tactic| walk_at "ev") => `(tactic| (refine evs_cons ?_; walk_at "S"))
section

/-- kinds of elements: what a value bears, and how two are compared -/
structure Kind (w : World) where
  D : Type
  At : Heap → Value → D → Prop
  lt : D → D → Bool
  ext : ∀ {h h' : Heap} {v : Value} {d : D} {p : Addr}, At h v d → (∀ o, h.get? p = some o → o.cls ≠ .type "tuple") → (∀ b o, b ≠ p → h.get? b = some o → h'.get? b = some o) → At h' v d
  keeps : ∀ {h h' : Heap} {v : Value} {d : D}, At h v d → (∀ b o, h.get? b = some o → h'.get? b = some o) → At h' v d
  cmp : ∀ {A : Around} {E : Value → Shared → Prop} {s : Shared} {a b : Value} {x y : D} {Q : Value → Shared → Prop}, Rm A 1 → At s.heap a x → At s.heap b y → (∀ tk, Q (.bool (lt x y)) { s with toks := tk }) →
    wpAny (MM w) A (compareOp .Lt a b) Q E s

theorem plain_nt {h : Heap} {p : Addr} {its : Array Value} (x : h.PlainList p its) : ∀ o, h.get? p = some o → o.cls ≠ .type "tuple" := by
  obtain ⟨n, ho⟩ := x
  intro o e; rw [ho] at e; rw [← Option.some.inj e]; intro q; exact absurd (Value.type.inj q) (by decide)
variable {w : World}
noncomputable abbrev Kind.I (K : Kind w) := Value × K.D
noncomputable def Kind.Is (K : Kind w) (h : Heap) (p : Addr) (xs : List K.I) : Prop := h.PlainList p (xs.map (·.1)).toArray ∧ ∀ x ∈ xs, K.At h x.1 x.2

section
variable {A : Around} {E : Value → Shared → Prop} {s : Shared} {g : Heap} {L : Addr} {l : List (String × Value)}
theorem lt_of_get {α : Type} {xs : List α} {k : Nat} {x : α} (h : xs[k]? = some x) : k < xs.length := by
  rcases Nat.lt_or_ge k xs.length with q | q
  · exact q
  · rw [List.getElem?_eq_none q] at h; cases h
theorem getK {K : Kind w} {value slice : Expr} {p : Addr} {xs : List K.I} {i : Int} {u : Tok} (k : Nat) {x : K.I} {Q : Value → Shared → Prop} (F : Fx g L s.heap l) (hl : K.Is g p xs) (hx : xs[k]? = some x) (hi : i = k) (hsz : xs.length < 2 ^ 20) (h : Q x.1 s)
    (hs : subscripted slice false (.ref p) (.int i u) = operate [.ref p, .int i u] (getItem (.ref p) (.int i u)) := by with_unfolding_all rfl) (hg : ∀ r, letTemporaryGo value (.ref p) r = pure () := by intro _; with_unfolding_all rfl) :
    wpAny (MM w) A (subscriptTail value slice (.ref p) (.int i u)) Q E s := by
  subst hi
  have := lt_of_get hx
  exact getX F hl.1 (by omega) (by omega) (by simp [hx]) h hs hg
theorem setK {K : Kind w} {p : Addr} {xs : List K.I} {i : Int} {u : Tok} (k : Nat) (x : K.I) {Q : Unit → Shared → Prop} (F : Fx g L s.heap l) (hl : K.Is g p xs) (hk : k < xs.length) (hi : i = k) (hsz : xs.length < 2 ^ 20) (hx : K.At g x.1 x.2)
    (h : ∀ g' h', Fx g' L h' l → K.Is g' p (xs.set k x) → (∀ b o, b ≠ p → g.get? b = some o → g'.get? b = some o) → Q () { s with heap := h' }) :
    wpAny (MM w) A (setItem (.ref p) (.int i u) x.1) Q E s := by
  subst hi
  refine setX F hl.1 (by omega) (by omega) (by simpa using hk) fun g' h' F' hl' hs => h g' h' F' ⟨?_, fun y hy => ?_⟩ hs
  · have e : (xs.map (·.1)).toArray.setIfInBounds (k : Int).toNat x.1 = ((xs.set k x).map (·.1)).toArray := by
      simp [List.map_set]
    rw [← e]; exact hl'
  · rcases List.mem_or_eq_of_mem_set hy with q | q
    · exact K.ext (hl.2 y q) (plain_nt hl.1) hs
    · subst q; exact K.ext hx (plain_nt hl.1) hs
end

/-- _siftdown on plain lists -/
noncomputable def sd {α : Type} (lt : α → α → Bool) (xs : List α) (new : α) (start pos : Nat) : List α :=
  if h : start < pos then
    match xs[(pos - 1) / 2]? with
    | some p => if lt new p then sd lt (xs.set pos p) new start ((pos - 1) / 2) else xs.set pos new
    | none => xs.set pos new
  else xs.set pos new
termination_by pos
decreasing_by omega

theorem sd_length {α : Type} (lt : α → α → Bool) (xs : List α) (new : α) (start pos : Nat) : (sd lt xs new start pos).length = xs.length := by
  induction pos using Nat.strongRecOn generalizing xs with
  | ind pos ih =>
    unfold sd
    split
    · split
      · split
        · rw [ih _ (by omega)]; simp
        · simp
      · simp
    · simp

section
variable {A : Around} {E : Value → Shared → Prop} {s : Shared}

/-- the loop of _siftdown -/
theorem spec_siftdown {K : Kind w} {fa hp : Addr} {xs : List K.I} {new : K.I} {start pos : Nat} {t1 t2 : Tok} {Q : Value → Shared → Prop}
    (R : Rm A 2) (f : FnAt s.heap 6 fa) (lim : s.heap.NoLimit) (hl : K.Is s.heap hp xs) (hpos : xs[pos]? = some new) (hsz : xs.length < 2 ^ 20)
    (h : ∀ h' tk, (∀ b o, b ≠ hp → s.heap.get? b = some o → h'.get? b = some o) → K.Is h' hp (sd (fun a b => K.lt a.2 b.2) xs new start pos) → Q .none { s with heap := h', toks := tk }) :
    wpAny (MM w) A (call (.ref fa) [.ref hp, .int start t1, .int pos t2]) Q E s := by
  have hlt : pos < xs.length := by
    rcases Nat.lt_or_ge pos xs.length with q | q
    · exact q
    · rw [List.getElem?_eq_none q] at hpos; cases hpos
  refine enter [("heap", .ref hp), ("startpos", .int start t1), ("pos", .int pos t2)] ["heap", "startpos", "pos"] (i := 6) R f lim (fun L h₁ pm c doc E' tk A' F R1 => ?_)
  refine wpAny_execs_cons ?_
  walk_at "S"
  refine getK pos (by assumption) hl hpos rfl hsz ?_
  walk_at "S"
  refine whileK (fun n s' => ∃ g' h' tk' xs' t', s' = { s with heap := h', toks := tk' } ∧ Fx g' L h' [("heap", .ref hp), ("startpos", .int start t1), ("pos", .int n t'), ("newitem", new.1)] ∧
      K.Is g' hp xs' ∧ K.At g' new.1 new.2 ∧ (∀ b o, b ≠ hp → s.heap.get? b = some o → g'.get? b = some o) ∧ n < xs'.length ∧ xs'.length = xs.length ∧
      sd (fun a b => K.lt a.2 b.2) xs' new start n = sd (fun a b => K.lt a.2 b.2) xs new start pos) pos ?_ (fun E₁ n s' Kn kn kc kb hI => ?_)
  · exact in5 _ _ _ xs _ ⟨rfl, by assumption, hl, hl.2 _ (List.mem_of_getElem? hpos), fun _ _ _ e => e, hlt, rfl, rfl⟩
  · refine ex5 hI fun g' h' tk' xs' t' hJ => ?_
    clear hI
    obtain ⟨rfl, F', hl', hn, hk, hb, hlen, heq⟩ := hJ
    walk_at "S"
    by_cases hc : (n : Int) > start
    · simp only [hc, decide_true, if_true]
      walk_at "S"
      refine wpAny_rshift1_int (by omega) ?_
      rw [show ((n : Int) - 1) / 2 = (((n - 1) / 2 : Nat) : Int) by omega]
      walk_at "S"
      obtain ⟨par, hpar⟩ : ∃ par, xs'[(n - 1) / 2]? = some par := ⟨_, List.getElem?_eq_getElem (by omega)⟩
      refine getK ((n - 1) / 2) (by assumption) hl' hpar (by omega) (by omega) ?_
      walk_at "S"
      refine K.cmp R1 (K.keeps hn (Fx.keep (by assumption))) (K.keeps (hl'.2 _ (List.mem_of_getElem? hpar)) (Fx.keep (by assumption))) fun tk3 => ?_
      walk_at "S"
      have hsc : start < n := by omega
      rw [sd] at heq
      simp only [hsc, dif_pos, hpar] at heq
      cases hlt' : K.lt new.2 par.2 with
      | true =>
        simp only [hlt', if_true] at heq ⊢
        walk_at "S"
        refine setK n par (by assumption) hl' hb rfl (by omega) (hl'.2 _ (List.mem_of_getElem? hpar)) fun g2 h2 F2 hl2 hk2 => ?_
        walk_at "S"
        exact kc ((n - 1) / 2) _ (by omega) (in5 g2 _ _ _ _ ⟨rfl, by walk_at "sub", hl2, K.ext hn (plain_nt hl'.1) hk2, fun b o hb' e => hk2 b o hb' (hk b o hb' e), by simp; omega, by simp [hlen], heq⟩)
      | false => 
        simp only [hlt', Bool.false_eq_true, if_false] at heq ⊢
        walk_at "S"
        refine kb _ ?_
        walk_at "S"
        refine setK n new (by assumption) hl' hb rfl (by omega) hn fun g2 h2 F2 hl2 hk2 => ?_
        walk_at "S"
        exact h _ _ (fun b o hb' e => F2.keep _ _ (hk2 b o hb' (hk b o hb' e))) (heq ▸ ⟨F2.list hl2.1, fun x hx => K.keeps (hl2.2 x hx) F2.keep⟩)
    · rw [sd] at heq
      have hsc : ¬ start < n := by omega
      simp only [hsc, dif_neg, not_false_eq_true] at heq
      simp only [hc, decide_false, Bool.false_eq_true, if_false]
      walk_at "S"
      refine setK n new (by assumption) hl' hb rfl (by omega) hn fun g2 h2 F2 hl2 hk2 => ?_
      walk_at "S"
      exact h _ _ (fun b o hb' e => F2.keep _ _ (hk2 b o hb' (hk b o hb' e))) (heq ▸ ⟨F2.list hl2.1, fun x hx => K.keeps (hl2.2 x hx) F2.keep⟩)
end
end
section
variable {w : World}
/-- the smaller child -/
noncomputable def pick {α : Type} (lt : α → α → Bool) (xs : List α) (pos : Nat) : Nat :=
  match xs[2 * pos + 1]?, xs[2 * pos + 2]? with
  | some a, some b => if lt a b then 2 * pos + 1 else 2 * pos + 2
  | _, _ => 2 * pos + 1
theorem pick_gt {α : Type} (lt : α → α → Bool) (xs : List α) (pos : Nat) : pos < pick lt xs pos := by
  unfold pick; split
  · split <;> omega
  · omega
theorem pick_lt {α : Type} (lt : α → α → Bool) (xs : List α) (pos : Nat) (h : 2 * pos + 1 < xs.length) : pick lt xs pos < xs.length := by
  unfold pick; split
  · rename_i b _ hb
    have := lt_of_get hb
    split <;> omega
  · exact h
/-- down to a leaf, the smaller children up -/
noncomputable def su {α : Type} (lt : α → α → Bool) (xs : List α) (pos : Nat) : List α × Nat :=
  if _h : 2 * pos + 1 < xs.length then
    match xs[pick lt xs pos]? with
    | some c => su lt (xs.set pos c) (pick lt xs pos)
    | none => (xs, pos)
  else (xs, pos)
termination_by xs.length - pos
decreasing_by
  have := pick_gt lt xs pos
  simp only [List.length_set]
  omega
noncomputable def siftup {α : Type} (lt : α → α → Bool) (xs : List α) (pos : Nat) : List α :=
  match xs[pos]? with
  | some new => sd lt ((su lt xs pos).1.set (su lt xs pos).2 new) new pos (su lt xs pos).2
  | none => xs
theorem su_length {α : Type} (lt : α → α → Bool) (xs : List α) (pos : Nat) : (su lt xs pos).1.length = xs.length := by
  generalize hn : xs.length - pos = n
  induction n using Nat.strongRecOn generalizing xs pos with
  | ind n ih =>
    unfold su
    split
    · split
      · have := pick_gt lt xs pos
        rw [ih _ (by simp only [List.length_set]; omega) _ _ rfl]; simp
      · rfl
    · rfl
theorem su_lt {α : Type} (lt : α → α → Bool) (xs : List α) (pos : Nat) (h : pos < xs.length) : (su lt xs pos).2 < xs.length := by
  generalize hn : xs.length - pos = n
  induction n using Nat.strongRecOn generalizing xs pos with
  | ind n ih =>
    unfold su
    split
    · rename_i hc
      have h1 := pick_gt lt xs pos
      have h2 := pick_lt lt xs pos hc
      split
      · rename_i c hc
        have := ih _ (by simp only [List.length_set]; omega) (xs.set pos c) (pick lt xs pos) (by simpa using h2) rfl
        simpa using this
      · exact h
    · exact h
theorem siftup_length {α : Type} (lt : α → α → Bool) (xs : List α) (pos : Nat) : (siftup lt xs pos).length = xs.length := by
  unfold siftup; split
  · rw [sd_length]; simp [su_length]
  · rfl

section
variable {A : Around} {E : Value → Shared → Prop} {s : Shared} {mg mb : Str → Option Value}
theorem spec_siftup {K : Kind w} {fa hp : Addr} {xs : List K.I} {pos : Nat} {t1 : Tok} {Q : Value → Shared → Prop}
    (R : Rm A 3) (f : FnAt s.heap 7 fa) (G : Gd w mg mb s.heap) (hl : K.Is s.heap hp xs) (hpos : pos < xs.length) (hsz : xs.length < 2 ^ 20)
    (h : ∀ h' tk, (∀ b o, b ≠ hp → s.heap.get? b = some o → h'.get? b = some o) → K.Is h' hp (siftup (fun a b => K.lt a.2 b.2) xs pos) → Q .none { s with heap := h', toks := tk }) :
    wpAny (MM w) A (call (.ref fa) [.ref hp, .int pos t1]) Q E s := by
  obtain ⟨new, hnew⟩ : ∃ new, xs[pos]? = some new := ⟨_, List.getElem?_eq_getElem hpos⟩
  refine enter [("heap", .ref hp), ("pos", .int pos t1)] ["heap", "pos"] (i := 7) R f G.lim (fun L h₁ pm c doc E' tk A' F R1 => ?_)
  refine wpAny_execs_cons ?_
  walk_at "S"
  walk_at "bl"
  walk_at "ev"
  refine evs_nil ?_
  refine len_list (Fx.list (by assumption) hl.1).isList (by simp; omega) ?_
  rw [show ((xs.map (·.1)).toArray.size : Int) = (xs.length : Int) by simp]
  walk_at "S"
  refine getK pos (by assumption) hl hnew rfl hsz ?_
  walk_at "S"
  refine P.mul_int ?_
  walk_at "S"
  refine whileK (fun n s' => ∃ p g' h' tk' xs' t2 t3 t4 t5, n = xs.length - p ∧ s' = { s with heap := h', toks := tk' } ∧
      Fx g' L h' [("heap", .ref hp), ("pos", .int p t2), ("endpos", .int xs.length t3), ("startpos", .int pos t4), ("newitem", new.1), ("childpos", .int (2 * p + 1) t5)] ∧
      K.Is g' hp xs' ∧ K.At g' new.1 new.2 ∧ Gd w mg mb g' ∧ (∀ b o, b ≠ hp → s.heap.get? b = some o → g'.get? b = some o) ∧ p < xs'.length ∧ xs'.length = xs.length ∧
      su (fun a b => K.lt a.2 b.2) xs' p = su (fun a b => K.lt a.2 b.2) xs pos) (xs.length - pos) ?_ (fun E₁ n s' Kn kn kc kb hI => ?_)
  · exact in9 pos _ _ _ xs _ _ _ _ ⟨rfl, rfl, by walk_at "sub", hl, hl.2 _ (List.mem_of_getElem? hnew), G, fun _ _ _ e => e, hpos, rfl, rfl⟩
  · refine ex9 hI fun p g' h' tk' xs' t2 t3 t4 t5 hJ => ?_
    clear hI
    obtain ⟨rfl, rfl, F', hl', hn, G', hk, hb, hlen, heq⟩ := hJ
    have ki : ∀ (q : Nat) (c : K.I) (g2 h2 : Heap) tk2 t2 t3 t4 t5, xs.length - q < xs.length - p →
        Fx g2 L h2 [("heap", .ref hp), ("pos", .int q t2), ("endpos", .int xs.length t3), ("startpos", .int pos t4), ("newitem", new.1), ("childpos", .int (2 * q + 1) t5)] →
        K.Is g2 hp (xs'.set p c) → (∀ b o, b ≠ hp → g'.get? b = some o → g2.get? b = some o) → q < xs'.length →
        su (fun a b => K.lt a.2 b.2) (xs'.set p c) q = su (fun a b => K.lt a.2 b.2) xs pos → Kn .next { s with heap := h2, toks := tk2 } :=
      fun q c g2 h2 tk2 t2 t3 t4 t5 e1 F2 l2 k2 e2 e3 => kn _ _ e1 (in9 q g2 h2 tk2 _ t2 t3 t4 t5 ⟨rfl, rfl, F2, l2, K.ext hn (plain_nt hl'.1) k2, G'.but hl'.1 k2, fun b o hb' e => k2 b o hb' (hk b o hb' e), by simpa using e2, by simp [hlen], e3⟩)
    walk_at "S"
    by_cases hc : (2 * (p : Int) + 1) < xs.length
    · simp only [hc, decide_true, if_true]
      walk_at "S"
      have hcn : 2 * p + 1 < xs'.length := by omega
      obtain ⟨cv, hcv⟩ : ∃ cv, xs'[2 * p + 1]? = some cv := ⟨_, List.getElem?_eq_getElem hcn⟩
      rw [su] at heq
      simp only [hcn, dif_pos] at heq
      by_cases hr : (2 * (p : Int) + 1 + 1) < xs.length
      · simp only [hr, decide_true, if_true]
        walk_at "S"
        refine getK (2 * p + 1) (by assumption) hl' hcv (by omega) (by omega) ?_
        walk_at "S"
        obtain ⟨rv, hrv⟩ : ∃ rv, xs'[2 * p + 2]? = some rv := ⟨_, List.getElem?_eq_getElem (by omega)⟩
        refine getK (2 * p + 2) (by assumption) hl' hrv (by omega) (by omega) ?_
        refine K.cmp (R1.le (by omega)) (K.keeps (hl'.2 _ (List.mem_of_getElem? hcv)) (Fx.keep (by assumption))) (K.keeps (hl'.2 _ (List.mem_of_getElem? hrv)) (Fx.keep (by assumption))) fun tk3 => ?_
        walk_at "S"
        cases hlt' : K.lt cv.2 rv.2 with
        | true =>
          have hq : pick (fun a b : K.I => K.lt a.2 b.2) xs' p = 2 * p + 1 := by simp [pick, hcv, hrv, hlt']
          simp only [hq, hcv] at heq
          simp only [Bool.not_true, Bool.false_eq_true, if_false]
          walk_at "S"
          refine getK (2 * p + 1) (by assumption) hl' hcv (by omega) (by omega) ?_
          walk_at "S"
          refine setK p cv (by assumption) hl' hb rfl (by omega) (hl'.2 _ (List.mem_of_getElem? hcv)) fun g2 h2 F2 hl2 hk2 => ?_
          walk_at "S"
          refine P.mul_int ?_
          walk_at "S"
          exact ki (2 * p + 1) cv _ _ _ _ _ _ _ (by omega) (by walk_at "sub") hl2 hk2 (by omega) heq
        | false =>
          have hq : pick (fun a b : K.I => K.lt a.2 b.2) xs' p = 2 * p + 2 := by simp [pick, hcv, hrv, hlt']
          simp only [hq, hrv] at heq
          simp only [Bool.not_false, if_true]
          walk_at "S"
          simp only [if_true]
          walk_at "S"
          rw [show (2 * (p : Int) + 1 + 1) = ((2 * p + 2 : Nat) : Int) by omega]
          refine getK (2 * p + 2) (by assumption) hl' hrv (by omega) (by omega) ?_
          walk_at "S"
          refine setK p rv (by assumption) hl' hb rfl (by omega) (hl'.2 _ (List.mem_of_getElem? hrv)) fun g2 h2 F2 hl2 hk2 => ?_
          walk_at "S"
          refine P.mul_int ?_
          walk_at "S"
          exact ki (2 * p + 2) rv _ _ _ _ _ _ _ (by omega) (by walk_at "sub") hl2 hk2 (by omega) heq
      · have hrv : xs'[2 * p + 2]? = none := List.getElem?_eq_none (by omega)
        have hq : pick (fun a b : K.I => K.lt a.2 b.2) xs' p = 2 * p + 1 := by simp [pick, hcv, hrv]
        simp only [hq, hcv] at heq
        simp only [hr, decide_false, Bool.false_eq_true, if_false]
        walk_at "S"
        refine getK (2 * p + 1) (by assumption) hl' hcv (by omega) (by omega) ?_
        walk_at "S"
        refine setK p cv (by assumption) hl' hb rfl (by omega) (hl'.2 _ (List.mem_of_getElem? hcv)) fun g2 h2 F2 hl2 hk2 => ?_
        walk_at "S"
        refine P.mul_int ?_
        walk_at "S"
        exact ki (2 * p + 1) cv _ _ _ _ _ _ _ (by omega) (by walk_at "sub") hl2 hk2 (by omega) heq
    · rw [su] at heq
      have hcn : ¬ 2 * p + 1 < xs'.length := by omega
      simp only [hcn, dif_neg, not_false_eq_true] at heq
      simp only [hc, decide_false, Bool.false_eq_true, if_false]
      walk_at "S"
      refine setK p new (by assumption) hl' hb rfl (by omega) hn fun g2 h2 F2 hl2 hk2 => ?_
      walk_at "S"
      have G2 := G'.but hl'.1 hk2
      refine callFn 6 (by assumption) G2 (fun b fb => ?_)
      walk_at "ev"
      walk_at "ev"
      walk_at "ev"
      refine evs_nil ⟨fun c o e _ => F2.keep c o e, ?_⟩
      refine spec_siftdown (R1.le (by omega)) (fb.keeps F2.keep) (G2.keeps F2.keep).lim (new := new) (start := pos) (pos := p) ⟨F2.list hl2.1, fun x hx => K.keeps (hl2.2 x hx) F2.keep⟩ (by simp [hb]) (by simp; omega) fun h' tk' k' i' => ?_
      walk_at "S"
      refine h _ _ (fun b o hb' e => k' b o hb' (F2.keep _ _ (hk2 b o hb' (hk b o hb' e)))) ?_
      have : siftup (fun a b : K.I => K.lt a.2 b.2) xs pos = sd (fun a b : K.I => K.lt a.2 b.2) (xs'.set p new) new pos p := by
        unfold siftup
        rw [hnew, ← heq]
      rw [this]; exact i'
end
end
section
open List
/-- heapify on plain lists: k, k - 1, .. , 0 -/
noncomputable def hfy {α : Type} (lt : α → α → Bool) : Nat → List α → List α
  | 0, xs => xs
  | k + 1, xs => hfy lt k (siftup lt xs k)
theorem hfy_length {α : Type} (lt : α → α → Bool) : ∀ (k : Nat) (xs : List α), (hfy lt k xs).length = xs.length
  | 0, _ => rfl
  | k + 1, xs => by rw [hfy, hfy_length, siftup_length]

theorem swap_perm {α : Type} {xs : List α} {p q : Nat} {c v : α} (hp : p < xs.length) (hq : xs[q]? = some c) (hne : p ≠ q) : ((xs.set p c).set q v) ~ xs.set p v := by
  have hq' := lt_of_get hq
  have h := List.set_set_perm (as := xs.set p v) (i := p) (j := q) (by simpa using hp) (by simpa using hq')
  have e1 : (xs.set p v)[q]'(by simpa using hq') = c := by
    rw [List.getElem_set_ne hne]
    rw [List.getElem?_eq_getElem hq'] at hq
    exact Option.some.inj hq
  have e2 : (xs.set p v)[p]'(by simpa using hp) = v := by simp
  rw [e1, e2, List.set_set] at h
  exact h
theorem sd_perm {α : Type} (lt : α → α → Bool) (xs : List α) (new : α) (start pos : Nat) (h : pos < xs.length) : sd lt xs new start pos ~ xs.set pos new := by
  induction pos using Nat.strongRecOn generalizing xs with
  | ind pos ih =>
    unfold sd
    split
    · split
      · rename_i hs _ p hp
        split
        · refine (ih _ (by omega) _ (by simp; omega)).trans ?_
          exact swap_perm h hp (by omega)
        · exact .refl _
      · exact .refl _
    · exact .refl _
theorem su_perm {α : Type} (lt : α → α → Bool) (xs : List α) (pos : Nat) (v : α) (h : pos < xs.length) : ((su lt xs pos).1.set (su lt xs pos).2 v) ~ xs.set pos v := by
  generalize hn : xs.length - pos = n
  induction n using Nat.strongRecOn generalizing xs pos with
  | ind n ih =>
    unfold su
    split
    · rename_i hc
      have h1 := pick_gt lt xs pos
      have h2 := pick_lt lt xs pos hc
      split
      · rename_i c hc'
        refine (ih _ (by simp only [List.length_set]; omega) (xs.set pos c) (pick lt xs pos) (by simpa using h2) rfl).trans ?_
        exact swap_perm h hc' (by omega)
      · exact .refl _
    · exact .refl _
theorem siftup_perm {α : Type} (lt : α → α → Bool) (xs : List α) (pos : Nat) : siftup lt xs pos ~ xs := by
  unfold siftup
  split
  · rename_i new hnew
    have h := lt_of_get hnew
    have h2 := su_lt lt xs pos h
    have h3 := su_length lt xs pos
    refine (sd_perm lt _ new pos _ (by simp [h3]; exact h2)).trans ?_
    rw [List.set_set]
    refine (su_perm lt xs pos new h).trans ?_
    have : xs.set pos new = xs := by
      rw [List.getElem?_eq_getElem h] at hnew
      rw [← Option.some.inj hnew]; simp
    rw [this]
  · exact .refl _
theorem hfy_perm {α : Type} (lt : α → α → Bool) : ∀ (k : Nat) (xs : List α), hfy lt k xs ~ xs
  | 0, _ => .refl _
  | k + 1, xs => (hfy_perm lt k _).trans (siftup_perm lt xs k)
end
section
variable {w : World}
section
variable {A : Around} {E : Value → Shared → Prop} {s : Shared} {mg mb : Str → Option Value}
theorem spec_siftdown_max {K : Kind w} {fa hp : Addr} {xs : List K.I} {new : K.I} {start pos : Nat} {t1 t2 : Tok} {Q : Value → Shared → Prop}
    (R : Rm A 2) (f : FnAt s.heap 8 fa) (lim : s.heap.NoLimit) (hl : K.Is s.heap hp xs) (hpos : xs[pos]? = some new) (hsz : xs.length < 2 ^ 20)
    (h : ∀ h' tk, (∀ b o, b ≠ hp → s.heap.get? b = some o → h'.get? b = some o) → K.Is h' hp (sd (fun a b => K.lt b.2 a.2) xs new start pos) → Q .none { s with heap := h', toks := tk }) :
    wpAny (MM w) A (call (.ref fa) [.ref hp, .int start t1, .int pos t2]) Q E s := by
  have hlt : pos < xs.length := by
    rcases Nat.lt_or_ge pos xs.length with q | q
    · exact q
    · rw [List.getElem?_eq_none q] at hpos; cases hpos
  refine enter [("heap", .ref hp), ("startpos", .int start t1), ("pos", .int pos t2)] ["heap", "startpos", "pos"] (i := 8) R f lim (fun L h₁ pm c doc E' tk A' F R1 => ?_)
  refine wpAny_execs_cons ?_
  walk_at "S"
  refine getK pos (by assumption) hl hpos rfl hsz ?_
  walk_at "S"
  refine whileK (fun n s' => ∃ g' h' tk' xs' t', s' = { s with heap := h', toks := tk' } ∧ Fx g' L h' [("heap", .ref hp), ("startpos", .int start t1), ("pos", .int n t'), ("newitem", new.1)] ∧
      K.Is g' hp xs' ∧ K.At g' new.1 new.2 ∧ (∀ b o, b ≠ hp → s.heap.get? b = some o → g'.get? b = some o) ∧ n < xs'.length ∧ xs'.length = xs.length ∧
      sd (fun a b => K.lt b.2 a.2) xs' new start n = sd (fun a b => K.lt b.2 a.2) xs new start pos) pos ?_ (fun E₁ n s' Kn kn kc kb hI => ?_)
  · exact in5 _ _ _ xs _ ⟨rfl, by assumption, hl, hl.2 _ (List.mem_of_getElem? hpos), fun _ _ _ e => e, hlt, rfl, rfl⟩
  · refine ex5 hI fun g' h' tk' xs' t' hJ => ?_
    clear hI
    obtain ⟨rfl, F', hl', hn, hk, hb, hlen, heq⟩ := hJ
    walk_at "S"
    by_cases hc : (n : Int) > start
    · simp only [hc, decide_true, if_true]
      walk_at "S"
      refine wpAny_rshift1_int (by omega) ?_
      rw [show ((n : Int) - 1) / 2 = (((n - 1) / 2 : Nat) : Int) by omega]
      walk_at "S"
      obtain ⟨par, hpar⟩ : ∃ par, xs'[(n - 1) / 2]? = some par := ⟨_, List.getElem?_eq_getElem (by omega)⟩
      refine getK ((n - 1) / 2) (by assumption) hl' hpar (by omega) (by omega) ?_
      walk_at "S"
      refine K.cmp R1 (K.keeps (hl'.2 _ (List.mem_of_getElem? hpar)) (Fx.keep (by assumption))) (K.keeps hn (Fx.keep (by assumption))) fun tk3 => ?_
      walk_at "S"
      have hsc : start < n := by omega
      rw [sd] at heq
      simp only [hsc, dif_pos, hpar] at heq
      cases hlt' : K.lt par.2 new.2 with
      | true =>
        simp only [hlt', if_true] at heq ⊢
        walk_at "S"
        refine setK n par (by assumption) hl' hb rfl (by omega) (hl'.2 _ (List.mem_of_getElem? hpar)) fun g2 h2 F2 hl2 hk2 => ?_
        walk_at "S"
        exact kc ((n - 1) / 2) _ (by omega) (in5 g2 _ _ _ _ ⟨rfl, by walk_at "sub", hl2, K.ext hn (plain_nt hl'.1) hk2, fun b o hb' e => hk2 b o hb' (hk b o hb' e), by simp; omega, by simp [hlen], heq⟩)
      | false => 
        simp only [hlt', Bool.false_eq_true, if_false] at heq ⊢
        walk_at "S"
        refine kb _ ?_
        walk_at "S"
        refine setK n new (by assumption) hl' hb rfl (by omega) hn fun g2 h2 F2 hl2 hk2 => ?_
        walk_at "S"
        exact h _ _ (fun b o hb' e => F2.keep _ _ (hk2 b o hb' (hk b o hb' e))) (heq ▸ ⟨F2.list hl2.1, fun x hx => K.keeps (hl2.2 x hx) F2.keep⟩)
    · rw [sd] at heq
      have hsc : ¬ start < n := by omega
      simp only [hsc, dif_neg, not_false_eq_true] at heq
      simp only [hc, decide_false, Bool.false_eq_true, if_false]
      walk_at "S"
      refine setK n new (by assumption) hl' hb rfl (by omega) hn fun g2 h2 F2 hl2 hk2 => ?_
      walk_at "S"
      exact h _ _ (fun b o hb' e => F2.keep _ _ (hk2 b o hb' (hk b o hb' e))) (heq ▸ ⟨F2.list hl2.1, fun x hx => K.keeps (hl2.2 x hx) F2.keep⟩)
theorem spec_siftup_max {K : Kind w} {fa hp : Addr} {xs : List K.I} {pos : Nat} {t1 : Tok} {Q : Value → Shared → Prop}
    (R : Rm A 3) (f : FnAt s.heap 9 fa) (G : Gd w mg mb s.heap) (hl : K.Is s.heap hp xs) (hpos : pos < xs.length) (hsz : xs.length < 2 ^ 20)
    (h : ∀ h' tk, (∀ b o, b ≠ hp → s.heap.get? b = some o → h'.get? b = some o) → K.Is h' hp (siftup (fun a b => K.lt b.2 a.2) xs pos) → Q .none { s with heap := h', toks := tk }) :
    wpAny (MM w) A (call (.ref fa) [.ref hp, .int pos t1]) Q E s := by
  obtain ⟨new, hnew⟩ : ∃ new, xs[pos]? = some new := ⟨_, List.getElem?_eq_getElem hpos⟩
  refine enter [("heap", .ref hp), ("pos", .int pos t1)] ["heap", "pos"] (i := 9) R f G.lim (fun L h₁ pm c doc E' tk A' F R1 => ?_)
  refine wpAny_execs_cons ?_
  walk_at "S"
  walk_at "bl"
  walk_at "ev"
  refine evs_nil ?_
  refine len_list (Fx.list (by assumption) hl.1).isList (by simp; omega) ?_
  rw [show ((xs.map (·.1)).toArray.size : Int) = (xs.length : Int) by simp]
  walk_at "S"
  refine getK pos (by assumption) hl hnew rfl hsz ?_
  walk_at "S"
  refine P.mul_int ?_
  walk_at "S"
  refine whileK (fun n s' => ∃ p g' h' tk' xs' t2 t3 t4 t5, n = xs.length - p ∧ s' = { s with heap := h', toks := tk' } ∧
      Fx g' L h' [("heap", .ref hp), ("pos", .int p t2), ("endpos", .int xs.length t3), ("startpos", .int pos t4), ("newitem", new.1), ("childpos", .int (2 * p + 1) t5)] ∧
      K.Is g' hp xs' ∧ K.At g' new.1 new.2 ∧ Gd w mg mb g' ∧ (∀ b o, b ≠ hp → s.heap.get? b = some o → g'.get? b = some o) ∧ p < xs'.length ∧ xs'.length = xs.length ∧
      su (fun a b => K.lt b.2 a.2) xs' p = su (fun a b => K.lt b.2 a.2) xs pos) (xs.length - pos) ?_ (fun E₁ n s' Kn kn kc kb hI => ?_)
  · exact in9 pos _ _ _ xs _ _ _ _ ⟨rfl, rfl, by walk_at "sub", hl, hl.2 _ (List.mem_of_getElem? hnew), G, fun _ _ _ e => e, hpos, rfl, rfl⟩
  · refine ex9 hI fun p g' h' tk' xs' t2 t3 t4 t5 hJ => ?_
    clear hI
    obtain ⟨rfl, rfl, F', hl', hn, G', hk, hb, hlen, heq⟩ := hJ
    have ki : ∀ (q : Nat) (c : K.I) (g2 h2 : Heap) tk2 t2 t3 t4 t5, xs.length - q < xs.length - p →
        Fx g2 L h2 [("heap", .ref hp), ("pos", .int q t2), ("endpos", .int xs.length t3), ("startpos", .int pos t4), ("newitem", new.1), ("childpos", .int (2 * q + 1) t5)] →
        K.Is g2 hp (xs'.set p c) → (∀ b o, b ≠ hp → g'.get? b = some o → g2.get? b = some o) → q < xs'.length →
        su (fun a b => K.lt b.2 a.2) (xs'.set p c) q = su (fun a b => K.lt b.2 a.2) xs pos → Kn .next { s with heap := h2, toks := tk2 } :=
      fun q c g2 h2 tk2 t2 t3 t4 t5 e1 F2 l2 k2 e2 e3 => kn _ _ e1 (in9 q g2 h2 tk2 _ t2 t3 t4 t5 ⟨rfl, rfl, F2, l2, K.ext hn (plain_nt hl'.1) k2, G'.but hl'.1 k2, fun b o hb' e => k2 b o hb' (hk b o hb' e), by simpa using e2, by simp [hlen], e3⟩)
    walk_at "S"
    by_cases hc : (2 * (p : Int) + 1) < xs.length
    · simp only [hc, decide_true, if_true]
      walk_at "S"
      have hcn : 2 * p + 1 < xs'.length := by omega
      obtain ⟨cv, hcv⟩ : ∃ cv, xs'[2 * p + 1]? = some cv := ⟨_, List.getElem?_eq_getElem hcn⟩
      rw [su] at heq
      simp only [hcn, dif_pos] at heq
      by_cases hr : (2 * (p : Int) + 1 + 1) < xs.length
      · simp only [hr, decide_true, if_true]
        walk_at "S"
        obtain ⟨rv, hrv⟩ : ∃ rv, xs'[2 * p + 2]? = some rv := ⟨_, List.getElem?_eq_getElem (by omega)⟩
        refine getK (2 * p + 2) (by assumption) hl' hrv (by omega) (by omega) ?_
        walk_at "S"
        refine getK (2 * p + 1) (by assumption) hl' hcv (by omega) (by omega) ?_
        refine K.cmp (R1.le (by omega)) (K.keeps (hl'.2 _ (List.mem_of_getElem? hrv)) (Fx.keep (by assumption))) (K.keeps (hl'.2 _ (List.mem_of_getElem? hcv)) (Fx.keep (by assumption))) fun tk3 => ?_
        walk_at "S"
        cases hlt' : K.lt rv.2 cv.2 with
        | true =>
          have hq : pick (fun a b : K.I => K.lt b.2 a.2) xs' p = 2 * p + 1 := by simp [pick, hcv, hrv, hlt']
          simp only [hq, hcv] at heq
          simp only [Bool.not_true, Bool.false_eq_true, if_false]
          walk_at "S"
          refine getK (2 * p + 1) (by assumption) hl' hcv (by omega) (by omega) ?_
          walk_at "S"
          refine setK p cv (by assumption) hl' hb rfl (by omega) (hl'.2 _ (List.mem_of_getElem? hcv)) fun g2 h2 F2 hl2 hk2 => ?_
          walk_at "S"
          refine P.mul_int ?_
          walk_at "S"
          exact ki (2 * p + 1) cv _ _ _ _ _ _ _ (by omega) (by walk_at "sub") hl2 hk2 (by omega) heq
        | false =>
          have hq : pick (fun a b : K.I => K.lt b.2 a.2) xs' p = 2 * p + 2 := by simp [pick, hcv, hrv, hlt']
          simp only [hq, hrv] at heq
          simp only [Bool.not_false, if_true]
          walk_at "S"
          simp only [if_true]
          walk_at "S"
          rw [show (2 * (p : Int) + 1 + 1) = ((2 * p + 2 : Nat) : Int) by omega]
          refine getK (2 * p + 2) (by assumption) hl' hrv (by omega) (by omega) ?_
          walk_at "S"
          refine setK p rv (by assumption) hl' hb rfl (by omega) (hl'.2 _ (List.mem_of_getElem? hrv)) fun g2 h2 F2 hl2 hk2 => ?_
          walk_at "S"
          refine P.mul_int ?_
          walk_at "S"
          exact ki (2 * p + 2) rv _ _ _ _ _ _ _ (by omega) (by walk_at "sub") hl2 hk2 (by omega) heq
      · have hrv : xs'[2 * p + 2]? = none := List.getElem?_eq_none (by omega)
        have hq : pick (fun a b : K.I => K.lt b.2 a.2) xs' p = 2 * p + 1 := by simp [pick, hcv, hrv]
        simp only [hq, hcv] at heq
        simp only [hr, decide_false, Bool.false_eq_true, if_false]
        walk_at "S"
        refine getK (2 * p + 1) (by assumption) hl' hcv (by omega) (by omega) ?_
        walk_at "S"
        refine setK p cv (by assumption) hl' hb rfl (by omega) (hl'.2 _ (List.mem_of_getElem? hcv)) fun g2 h2 F2 hl2 hk2 => ?_
        walk_at "S"
        refine P.mul_int ?_
        walk_at "S"
        exact ki (2 * p + 1) cv _ _ _ _ _ _ _ (by omega) (by walk_at "sub") hl2 hk2 (by omega) heq
    · rw [su] at heq
      have hcn : ¬ 2 * p + 1 < xs'.length := by omega
      simp only [hcn, dif_neg, not_false_eq_true] at heq
      simp only [hc, decide_false, Bool.false_eq_true, if_false]
      walk_at "S"
      refine setK p new (by assumption) hl' hb rfl (by omega) hn fun g2 h2 F2 hl2 hk2 => ?_
      walk_at "S"
      have G2 := G'.but hl'.1 hk2
      refine callFn 8 (by assumption) G2 (fun b fb => ?_)
      walk_at "ev"
      walk_at "ev"
      walk_at "ev"
      refine evs_nil ⟨fun c o e _ => F2.keep c o e, ?_⟩
      refine spec_siftdown_max (R1.le (by omega)) (fb.keeps F2.keep) (G2.keeps F2.keep).lim (new := new) (start := pos) (pos := p) ⟨F2.list hl2.1, fun x hx => K.keeps (hl2.2 x hx) F2.keep⟩ (by simp [hb]) (by simp; omega) fun h' tk' k' i' => ?_
      walk_at "S"
      refine h _ _ (fun b o hb' e => k' b o hb' (F2.keep _ _ (hk2 b o hb' (hk b o hb' e)))) ?_
      have : siftup (fun a b : K.I => K.lt b.2 a.2) xs pos = sd (fun a b : K.I => K.lt b.2 a.2) (xs'.set p new) new pos p := by
        unfold siftup
        rw [hnew, ← heq]
      rw [this]; exact i'
end
end
section
variable {w : World}
section
variable {A : Around} {E : Value → Shared → Prop} {s : Shared} {mg mb : Str → Option Value}
theorem Kind.Is.keeps {K : Kind w} {h h' : Heap} {p : Addr} {xs : List K.I} (x : K.Is h p xs) (k : ∀ b o, h.get? b = some o → h'.get? b = some o) : K.Is h' p xs :=
  ⟨x.1.at fun o e => k _ o e, fun y hy => K.keeps (x.2 y hy) k⟩

theorem spec_heapreplace {K : Kind w} {fa hp : Addr} {xs : List K.I} {top it : K.I} {Q : Value → Shared → Prop}
    (R : Rm A 4) (f : FnAt s.heap 2 fa) (G : Gd w mg mb s.heap) (hl : K.Is s.heap hp xs) (hx : xs[0]? = some top) (hit : K.At s.heap it.1 it.2) (hsz : xs.length < 2 ^ 20)
    (h : ∀ h' tk, (∀ b o, b ≠ hp → s.heap.get? b = some o → h'.get? b = some o) → K.Is h' hp (siftup (fun a b => K.lt a.2 b.2) (xs.set 0 it) 0) → Q top.1 { s with heap := h', toks := tk }) :
    wpAny (MM w) A (call (.ref fa) [.ref hp, it.1]) Q E s := by
  have hlen := lt_of_get hx
  refine enter [("heap", .ref hp), ("item", it.1)] ["heap", "item"] (i := 2) R f G.lim (fun L h₁ pm c doc E' tk A' F R1 => ?_)
  refine wpAny_execs_cons ?_
  walk_at "S"
  refine getK 0 (by assumption) hl hx rfl hsz ?_
  walk_at "S"
  refine setK 0 it (by assumption) hl hlen rfl hsz hit fun g2 h2 F2 hl2 hk2 => ?_
  walk_at "S"
  have G2 := G.but hl.1 hk2
  refine callFn 7 (by assumption) G2 (fun b fb => ?_)
  walk_at "ev"
  walk_at "ev"
  refine evs_nil ⟨fun c o e _ => F2.keep c o e, ?_⟩
  refine spec_siftup (pos := 0) R1 (fb.keeps F2.keep) (G2.keeps F2.keep) (hl2.keeps F2.keep) (by simpa using hlen) (by simpa using hsz) fun h' tk' k' i' => ?_
  obtain ⟨F3, k3, _⟩ := F2.change (h' := h') (list_ne hl2.1 F2.noL) k'
  walk_at "S"
  exact h _ _ (fun b o hb' e => k' b o hb' (F2.keep _ _ (hk2 b o hb' e))) i'

theorem spec_heapreplace_max {K : Kind w} {fa hp : Addr} {xs : List K.I} {top it : K.I} {Q : Value → Shared → Prop}
    (R : Rm A 4) (f : FnAt s.heap 4 fa) (G : Gd w mg mb s.heap) (hl : K.Is s.heap hp xs) (hx : xs[0]? = some top) (hit : K.At s.heap it.1 it.2) (hsz : xs.length < 2 ^ 20)
    (h : ∀ h' tk, (∀ b o, b ≠ hp → s.heap.get? b = some o → h'.get? b = some o) → K.Is h' hp (siftup (fun a b => K.lt b.2 a.2) (xs.set 0 it) 0) → Q top.1 { s with heap := h', toks := tk }) :
    wpAny (MM w) A (call (.ref fa) [.ref hp, it.1]) Q E s := by
  have hlen := lt_of_get hx
  refine enter [("heap", .ref hp), ("item", it.1)] ["heap", "item"] (i := 4) R f G.lim (fun L h₁ pm c doc E' tk A' F R1 => ?_)
  refine wpAny_execs_cons ?_
  walk_at "S"
  refine getK 0 (by assumption) hl hx rfl hsz ?_
  walk_at "S"
  refine setK 0 it (by assumption) hl hlen rfl hsz hit fun g2 h2 F2 hl2 hk2 => ?_
  walk_at "S"
  have G2 := G.but hl.1 hk2
  refine callFn 9 (by assumption) G2 (fun b fb => ?_)
  walk_at "ev"
  walk_at "ev"
  refine evs_nil ⟨fun c o e _ => F2.keep c o e, ?_⟩
  refine spec_siftup_max (pos := 0) R1 (fb.keeps F2.keep) (G2.keeps F2.keep) (hl2.keeps F2.keep) (by simpa using hlen) (by simpa using hsz) fun h' tk' k' i' => ?_
  obtain ⟨F3, k3, _⟩ := F2.change (h' := h') (list_ne hl2.1 F2.noL) k'
  walk_at "S"
  exact h _ _ (fun b o hb' e => k' b o hb' (F2.keep _ _ (hk2 b o hb' e))) i'

theorem spec_heappop {K : Kind w} {fa hp : Addr} {xs : List K.I} {last : K.I} {Q : Value → Shared → Prop}
    (R : Rm A 4) (f : FnAt s.heap 1 fa) (G : Gd w mg mb s.heap) (hl : K.Is s.heap hp (xs ++ [last])) (hsz : xs.length < 2 ^ 19)
    (h0 : xs = [] → ∀ h' tk, (∀ b o, b ≠ hp → s.heap.get? b = some o → h'.get? b = some o) → K.Is h' hp [] → Q last.1 { s with heap := h', toks := tk })
    (h : ∀ top, xs[0]? = some top → ∀ h' tk, (∀ b o, b ≠ hp → s.heap.get? b = some o → h'.get? b = some o) → K.Is h' hp (siftup (fun a b => K.lt a.2 b.2) (xs.set 0 last) 0) → Q top.1 { s with heap := h', toks := tk }) :
    wpAny (MM w) A (call (.ref fa) [.ref hp]) Q E s := by
  refine enter [("heap", .ref hp)] ["heap"] (i := 1) R f G.lim (fun L h₁ pm c doc E' tk A' F R1 => ?_)
  refine wpAny_execs_cons ?_
  walk_at "S"
  have hl1 : s.heap.PlainList hp (xs.map (·.1) ++ [last.1]).toArray := by have := hl.1; simpa using this
  refine methList PySem.F.slot_list_pop PySem.F.type_list_pop ?_
  walk_at "S"
  refine ⟨hp, _, rfl, F.list hl1, evs_nil ?_⟩
  refine popX F hl1 (by simp; omega) fun g2 h2 F2 hl2 hk2 => ?_
  have i2 : K.Is g2 hp xs := ⟨hl2, fun x hx => K.ext (hl.2 x (by simp [hx])) (plain_nt hl.1) hk2⟩
  have a2 : K.At g2 last.1 last.2 := K.ext (hl.2 last (by simp)) (plain_nt hl.1) hk2
  have G2 := G.but hl.1 hk2
  walk_at "S"
  refine wpAny_truthy_list (Heap.PlainList.isList (Fx.list (by assumption) hl2)) (by simp; omega) ?_
  cases xs with
  | nil =>
    simp only [List.map_nil, List.isEmpty_toArray, List.isEmpty_nil, Bool.not_true, Bool.false_eq_true, if_false]
    walk_at "S"
    have F9 := ‹Fx g2 L _ _›
    exact h0 rfl _ _ (fun b o hb' e => F9.keep _ _ (hk2 b o hb' e)) (i2.keeps F9.keep)
  | cons x r =>
    simp only [List.map_cons, List.isEmpty_toArray, List.isEmpty_cons, Bool.not_false, if_true]
    walk_at "S"
    refine getK 0 (by assumption) i2 (x := x) rfl rfl (by simp at hsz ⊢; omega) ?_
    walk_at "S"
    refine setK 0 last (by assumption) i2 (by simp) rfl (by simp at hsz ⊢; omega) a2 fun g3 h3 F3 hl3 hk3 => ?_
    walk_at "S"
    have G3 := G2.but i2.1 hk3
    refine callFn 7 (by assumption) G3 (fun b fb => ?_)
    walk_at "ev"
    walk_at "ev"
    refine evs_nil ⟨fun c o e _ => F3.keep c o e, ?_⟩
    refine spec_siftup (pos := 0) R1 (fb.keeps F3.keep) (G3.keeps F3.keep) (hl3.keeps F3.keep) (by simp) (by simp at hsz ⊢; omega) fun h' tk' k' i' => ?_
    obtain ⟨F4, k4, _⟩ := F3.change (h' := h') (list_ne hl3.1 F3.noL) k'
    walk_at "S"
    exact h x rfl _ _ (fun b o hb' e => k' b o hb' (F3.keep _ _ (hk3 b o hb' (hk2 b o hb' e)))) i'
end
end
section
section
variable {w : World} {A : Around} {E : Value → Shared → Prop} {s : Shared} {g : Heap} {L a : Addr} {l : List (String × Value)} {mg mb : Str → Option Value} {env : Env}

theorem callTy {T : String} {k : String} {p pos : Pos} {args : List Expr} {Q : Value → Shared → Prop} (F : Fx g L s.heap l) (G : Gd w mg mb g) (hv : blts.lookup k = some (.type T))
    (h : evs (MM w) A env E args (fun vs s₁ => wpAny (MM w) A (call (.type T) vs) Q E s₁) s) (hns : noStar args = true := by rfl)
    (hgl : env.globals = mainGlobals := by rfl) (hbl : env.builtins = builtinsNs := by rfl)
    (hk : env.scope.kind = .function := by kernel_rfl) (hl : env.kindOf (Str.ofString k) = some .globalImplicit := by kernel_rfl) (hd : (Str.ofString k == ("__debug__" : Str)) = false := by kernel_rfl) :
    wpAny (MM w) A (eval (.Call (.Name (Str.ofString k) p) args [] pos) env) Q E s :=
  callN (ldBl F G hv (PySem.callWith_type (noStar_any hns) (args_evs hns h)) hgl hbl hk hl hd)

theorem forLoopX {target : Expr} {it : Value} {body : List Stmt} {Q : Flow → Shared → Prop} (I : Nat → Shared → Prop) (n : Nat) (h : I n s)
    (turn : ∀ E₁ n s, I n s → wpAny (MM w) A (pyNext it) (fun r s₁ => match r with
      | none => Q .next s₁
      | some v => wpAny (MM w) A (letOwnedTupleGo target it v) (fun _ s₁' => wpAny (MM w) A (assign target env v) (fun _ s₂ => wpAny (MM w) A (execs body env) (fun f s₃ => match f with
            | .next | .cont => ∃ m, m < n ∧ I m s₃
            | .brk => Q .next s₃
            | .ret v => Q (.ret v) s₃) E₁ s₂) E₁ s₁') E₁ s₁) E₁ s) :
    codeAny (MM w) A (.forLoop target it body [] env) (fun r s' => match r with | .ok f => Q f s' | .error e => cameBackBy (MM w) A env E e s') s := by
  refine codeAny_forLoop_any I (fun n s hI => ?_) n h
  refine wpAny_mono (turn _ n s hI) (fun r s₁ h₁ => ?_) fun _ _ x => x
  cases r with
  | none => exact wpAny_execs_nil h₁
  | some v =>
    refine wpAny_mono h₁ (fun _ s₂ h₂ => wpAny_mono h₂ (fun _ s₃ h₃ => wpAny_mono h₃ (fun f s₄ h₄ => ?_) fun _ _ x => x) fun _ _ x => x) fun _ _ x => x
    cases f <;> exact h₄

theorem forLoopK {target : Expr} {it : Value} {body : List Stmt} {Q : Flow → Shared → Prop} (I : Nat → Shared → Prop) (n : Nat) (h : I n s)
    (turn : ∀ E₁ n s (K : Flow → Shared → Prop), (∀ m s₃, m < n → I m s₃ → K .next s₃) → I n s → wpAny (MM w) A (pyNext it) (fun r s₁ => match r with
      | none => Q .next s₁
      | some v => wpAny (MM w) A (letOwnedTupleGo target it v) (fun _ s₁' => wpAny (MM w) A (assign target env v) (fun _ s₂ => wpAny (MM w) A (execs body env) K E₁ s₂) E₁ s₁') E₁ s₁) E₁ s) :
    codeAny (MM w) A (.forLoop target it body [] env) (fun r s' => match r with | .ok f => Q f s' | .error e => cameBackBy (MM w) A env E e s') s :=
  forLoopX I n h fun E₁ n s hI => turn E₁ n s _ (fun m _ a b => ⟨m, a, b⟩) hI

theorem owned_name {x : Str} {p : Pos} {it v : Value} {Q : Unit → Shared → Prop} (h : Q () s) : wpAny (MM w) A (letOwnedTupleGo (.Name x p) it v) Q E s := wpAny_of_eq (a := ()) rfl h

/-! ### reversed(range(n)) -/
noncomputable def rrObj (x n c : Int) : Obj := { cls := .type "range_iterator", data := .fields #[rawInt x, rawInt n, rawInt c] }
theorem sub_ri_reversed : isSubtype (.type "range_iterator") (.type "reversed") = pure false := by rw [isSubtype_type]; kernel_rfl

theorem call_range_reversed {r : Addr} {n : Nat} {t u v : Tok} {Q : Value → Shared → Prop} (hr : IsRange s.heap r 0 n 1 t u v) (hn : n < 2 ^ 20)
    (h : Q (.ref s.heap.objs.size) { s with heap := s.heap.push (rrObj ((n : Int) - 1) n (-1)) }) : wpAny (MM w) A (call (.builtin "range.__reversed__") [.ref r]) Q E s := by
  have hT : s.TypeIs (.ref r) "range" := ⟨_, hr, rfl⟩
  refine wpAny_call_entry F.slot_range_reversed hT F.entry_range_reversed ?_ (F.args_range_reversed_1 _)
  unfold Builtin.«range.__reversed__»
  refine wpAny_bind (wpAny_of_eq (a := Value.ref r) rfl ?_)
  have hf : ∀ {Q : Int × Int × Int → Shared → Prop}, Q (0, (n : Int), 1) s → wpAny (MM w) A.in1 (Builtin.Range.rangeFields (.ref r)) Q E s := by
    intro Q hq
    unfold Builtin.Range.rangeFields
    refine wpAny_bind (wpAny_field hr rfl (x := .int 0 t) rfl (wpAny_bind (wpAny_of_eq (a := some 0) rfl ?_)))
    refine wpAny_bind (wpAny_field hr rfl (x := .int n u) rfl (wpAny_bind (wpAny_of_eq (a := some (n : Int)) rfl ?_)))
    refine wpAny_bind (wpAny_field hr rfl (x := .int 1 v) rfl (wpAny_bind (wpAny_of_eq (a := some 1) rfl ?_)))
    exact wpAny_pure hq
  refine wpAny_bind (hf ?_)
  have hsz : Builtin.Range.rangeSize 0 n 1 = n := by rw [rangeSize_one]; split <;> omega
  dsimp only
  rw [hsz]
  have hsm : (Builtin.Range.rangeFitsLong 0 && Builtin.Range.rangeFitsLong (n : Int) && Builtin.Range.rangeFitsLong 1 && Builtin.Range.rangeFitsLong (-1) && Builtin.Range.rangeFitsLong (0 - 1) && Builtin.Range.rangeFitsLong (n : Int)) = true := by
    simp only [Builtin.Range.rangeFitsLong, Bool.and_eq_true, decide_eq_true_eq]
    omega
  rw [hsm]
  simp only [Bool.not_true, Bool.false_eq_true, if_false, if_true]
  refine wpAny_bind ?_
  unfold newFields
  refine wpAny_newObj_type (wpAny_pure ⟨_, rfl, ?_⟩) (by size_fits)
  rw [show (0 : Int) + ((n : Int) - 1) * 1 = (n : Int) - 1 by omega]
  exact h

theorem call_reversed_range {r : Addr} {n : Nat} {t u v : Tok} {Q : Value → Shared → Prop} (hr : IsRange s.heap r 0 n 1 t u v) (hn : n < 2 ^ 20)
    (h : Q (.ref s.heap.objs.size) { s with heap := s.heap.push (rrObj ((n : Int) - 1) n (-1)) }) : wpAny (MM w) A (call (.type "reversed") [.ref r]) Q E s := by
  have hT : s.TypeIs (.ref r) "range" := ⟨_, hr, rfl⟩
  refine callType_other (U := "range_iterator") (Q₁ := fun obj s₁ => obj = .ref s.heap.objs.size ∧ s₁ = { s with heap := s.heap.push (rrObj ((n : Int) - 1) n (-1)) }) (by decide +kernel) PySem.F.create_reversed ⟨_, _, PySem.F.mro_reversed⟩ PySem.F.made_reversed sub_ri_reversed (PySem.F.typeCall_reversed_1 _) ?_ ?_
  · refine codeAny_of_tree ?_
    show wpAny _ A.in1.in1 (do checkBuiltinCall "reversed.__new__" ⟨[.type "reversed", .ref r], []⟩; again (.builtin "reversed.__new__" ⟨[.type "reversed", .ref r], []⟩)) _ _ s
    refine wpAny_bind (wpAny_of_eq (PySem.F.newCall_reversed_1 _) (wpAny_pure ⟨plainId_quiet PySem.F.plain_reversed_new _, codeAny_builtin PySem.F.entry_reversed_new ?_⟩))
    rw [Around.under_plainId PySem.F.plain_reversed_new _]
    unfold Builtin.«reversed.__new__»
    refine wpAny_bind (wpAny_of_eq (newClass_reversed _) ?_)
    (try dsimp only)
    refine wpAny_bind (wpAny_of_eq (a := ()) (by kernel_rfl) ?_)
    refine wpAny_bind (wpAny_of_eq (a := ()) (by kernel_rfl) ?_)
    (try dsimp only)
    refine wpAny_bind (wpAny_specialOf hT PySem.F.slot_range_reversed.lookup ?_)
    (try dsimp only)
    refine wpAny_bind (wpAny_of_eq (PySem.F.slot_range_reversed.bind _) ?_)
    rw [if_neg (show ¬ ((Value.builtin "range.__reversed__" == Value.none) = true) from Bool.false_ne_true)]
    refine wpAny_bind (wpAny_rule (wpAny_bind ?_))
    refine (show wpAny _ _ (call (.builtin "range.__reversed__") [.ref r]) _ _ _ from call_range_reversed hr hn ?_)
    exact wpAny_pure ⟨rfl, rfl⟩
  · rintro obj s₁ ⟨rfl, rfl⟩
    exact ⟨⟨_, Heap.get?_push_size _ rfl, rfl⟩, h⟩

theorem fresh_none {h : Heap} : h.get? h.objs.size = none := by
  cases e : h.get? h.objs.size with
  | none => rfl
  | some o => exact absurd (Heap.lt_size e) (Nat.lt_irrefl _)

/-- a new object -/
theorem Fx.push {h : Heap} (F : Fx g L h l) (o : Obj) (hf : o.isFreed = false := by rfl) :
    ∃ g', Fx g' L (h.push o) l ∧ g'.get? h.objs.size = some o ∧ (∀ b x, g.get? b = some x → g'.get? b = some x) ∧ g.get? h.objs.size = none ∧ h.objs.size ≠ L := by
  have hL : L ≠ h.objs.size := by
    obtain ⟨m, hn, _⟩ := F.ns
    exact Nat.ne_of_lt hn.lt
  obtain ⟨F', k1, k2⟩ := F.grow (h' := h.push o) fun b x e => Heap.get?_push_of_some _ e
  refine ⟨_, F', k2 _ _ (Ne.symm hL) (Heap.get?_push_size _ hf), k1, ?_, Ne.symm hL⟩
  cases e : g.get? h.objs.size with
  | none => rfl
  | some x => exact absurd (Heap.lt_size (F.keep _ _ e)) (Nat.lt_irrefl _)

theorem pushX {o : Obj} {C : Addr → Shared → Prop} {tk : Nat} (F : Fx g L s.heap l)
    (h : ∀ g' h' a, Fx g' L h' l → g'.get? a = some o → (∀ b x, g.get? b = some x → g'.get? b = some x) → g.get? a = none → (∀ b x, s.heap.get? b = some x → b < a) → C a { s with heap := h', toks := tk }) (hf : o.isFreed = false := by rfl) :
    C s.heap.objs.size { s with heap := s.heap.push o, toks := tk } := by
  obtain ⟨g', F', o', k', n', _⟩ := F.push o hf
  exact h g' _ _ F' o' k' n' fun b x e => Heap.lt_size e

theorem rangeX {n : Int} {t : Tok} {Q : Value → Shared → Prop} (F : Fx g L s.heap l)
    (h : ∀ g' h' a t1 t2 tk, Fx g' L h' l → IsRange g' a 0 n 1 t1 t t2 → (∀ b x, g.get? b = some x → g'.get? b = some x) → g.get? a = none → Q (.ref a) { s with heap := h', toks := tk }) :
    wpAny (MM w) A (call (.type "range") [.int n t]) Q E s :=
  call_range_1 (pushX (C := fun a s' => Q (.ref a) s') F fun g' h' a F' o' k' n' _ => h g' h' a _ _ _ F' o' k' n')

theorem revRangeX {r : Addr} {n : Nat} {t u v : Tok} {Q : Value → Shared → Prop} (F : Fx g L s.heap l) (hr : IsRange g r 0 n 1 t u v) (hn : n < 2 ^ 20)
    (h : ∀ g' h' a, Fx g' L h' l → g'.get? a = some (rrObj ((n : Int) - 1) n (-1)) → (∀ b x, g.get? b = some x → g'.get? b = some x) → g.get? a = none → Q (.ref a) { s with heap := h' }) :
    wpAny (MM w) A (call (.type "reversed") [.ref r]) Q E s :=
  call_reversed_range (F.keep _ _ hr) hn (pushX (C := fun a s' => Q (.ref a) s') (tk := s.toks) F fun g' h' a F' o' k' n' _ => h g' h' a F' o' k' n')

theorem nextRangeX {it : Addr} {x left step : Int} {Q : Option Value → Shared → Prop} (F : Fx g L s.heap l) (hit : IsRangeIter g it x left step) (hh : A.handled = none)
    (h1 : 0 < left → ∀ g' h' tk, Fx g' L h' l → IsRangeIter g' it (x + step) (left - 1) step → (∀ b o, b ≠ it → g.get? b = some o → g'.get? b = some o) → Q (some (.int x s.toks)) { s with heap := h', toks := tk })
    (h0 : left ≤ 0 → ∀ g' h', Fx g' L h' l → (∀ b o, b ≠ it → g.get? b = some o → g'.get? b = some o) → Q none { s with heap := h' }) : wpAny (MM w) A (pyNext (.ref it)) Q E s := by
  by_cases hl : 0 < left
  · refine wpAny_pyNext_range_item (F.keep _ _ hit) hl fun h' hit' hs => ?_
    obtain ⟨F', k1, k2⟩ := F.change (h' := h') (F.ne hit) fun b o hb e => (hs.2 b hb).trans e
    exact h1 hl _ _ _ F' (k2 _ _ (F.ne hit) hit') k1
  · refine wpAny_pyNext_range_end hh (F.keep _ _ hit) (by omega) fun h' hs => ?_
    obtain ⟨F', k1, k2⟩ := F.change (h' := h') (F.ne hit) fun b o hb e => hs b o hb e
    exact h0 (by omega) _ _ F' k1

/-- a change at p of an object, by an equation -/
theorem Fx.turn {h h' : Heap} {p : Addr} {o o' : Obj} (F : Fx g L h l) (hp : g.get? p = some o) (ho : h'.get? p = some o') (hs : ∀ b x, b ≠ p → h.get? b = some x → h'.get? b = some x) :
    ∃ g', Fx g' L h' l ∧ g'.get? p = some o' ∧ (∀ b x, b ≠ p → g.get? b = some x → g'.get? b = some x) := by
  have hpL := F.ne hp
  obtain ⟨F', k1, k2⟩ := F.change (h' := h') hpL hs
  exact ⟨_, F', k2 _ _ hpL ho, k1⟩
end

section
variable {w : World} {A : Around} {E : Value → Shared → Prop} {s : Shared} {mg mb : Str → Option Value}
theorem spec_heapify {K : Kind w} {fa hp : Addr} {xs : List K.I} {Q : Value → Shared → Prop}
    (R : Rm A 4) (f : FnAt s.heap 3 fa) (G : Gd w mg mb s.heap) (hl : K.Is s.heap hp xs) (hsz : xs.length < 2 ^ 19)
    (h : ∀ h' tk, (∀ b o, b ≠ hp → s.heap.get? b = some o → h'.get? b = some o) → K.Is h' hp (hfy (fun a b => K.lt a.2 b.2) (xs.length / 2) xs) → Q .none { s with heap := h', toks := tk }) :
    wpAny (MM w) A (call (.ref fa) [.ref hp]) Q E s := by
  refine enter [("x", .ref hp)] ["x"] (i := 3) R f G.lim (fun L h₁ pm c doc E' tk A' F R1 => ?_)
  refine wpAny_execs_cons ?_
  walk_at "S"
  walk_at "bl"
  walk_at "ev"
  refine evs_nil ?_
  refine len_list (Heap.PlainList.isList (Fx.list (by assumption) hl.1)) (by simp; omega) ?_
  rw [show ((xs.map (·.1)).toArray.size : Int) = (xs.length : Int) by simp]
  walk_at "S"
  refine wpAny_For ?_
  refine callTy (by assumption) G (by (simp only [blts, List.lookup, String.reduceBEq] <;> rfl)) ?_
  refine evs_cons ?_
  refine callTy (by assumption) G (by (simp only [blts, List.lookup, String.reduceBEq] <;> rfl)) ?_
  walk_at "ev"
  refine floordiv_int (by decide) ?_ (Or.inl (PyProof.noPylong_small (by omega)))
  rw [show Int.fdiv (xs.length : Int) 2 = ((xs.length / 2 : Nat) : Int) by rw [Int.fdiv_eq_ediv_of_nonneg _ (by decide)]; omega]
  refine evs_nil ?_
  refine rangeX (by assumption) fun g2 h2 a2 t1 t2 tk2 F2 o2 k2 n2 => ?_
  refine evs_nil ?_
  refine revRangeX F2 o2 (by omega) fun g3 h3 it F3 o3 k3 n3 => ?_
  have hit0 : s.heap.get? it = none := by
    cases e : s.heap.get? it with
    | none => rfl
    | some o => rw [k2 _ _ e] at n3; cases n3
  refine wpAny_pyIter_rangeiter (F3.keep _ _ o3) ?_
  refine forLoopK (fun n s' => ∃ g' h' tk' xs' k, n = k + 1 ∧ s' = { s with heap := h', toks := tk' } ∧ Fx g' L h' [("x", .ref hp)] ∧ IsRangeIter g' it ((k : Int) - 1) k (-1) ∧ k ≤ xs.length / 2 ∧
      K.Is g' hp xs' ∧ (∀ b o, b ≠ hp → s.heap.get? b = some o → g'.get? b = some o) ∧ xs'.length = xs.length ∧ hfy (fun a b => K.lt a.2 b.2) k xs' = hfy (fun a b => K.lt a.2 b.2) (xs.length / 2) xs) (xs.length / 2 + 1) ?_ (fun E₁ n s' Kn kn hI => ?_)
  · exact in5 g3 _ _ xs (xs.length / 2) ⟨rfl, rfl, by walk_at "sub", o3, Nat.le_refl _, hl.keeps fun b o e => k3 b o (k2 b o e), fun b o _ e => k3 b o (k2 b o e), rfl, rfl⟩
  · refine ex5 hI fun g' h' tk' xs' k hJ => ?_
    clear hI
    obtain ⟨rfl, rfl, F', oi, hkl, hl', hk, hlen, heq⟩ := hJ
    have hpi : hp ≠ it := by
      rintro rfl; obtain ⟨n, ho⟩ := hl'.1; rw [oi] at ho; exact absurd (Value.type.inj (congrArg (fun x : Option Obj => (x.getD default).cls) ho)) (by decide)
    have nt : ∀ o, g'.get? it = some o → o.cls ≠ .type "tuple" := by
      intro o e; rw [oi] at e; rw [← Option.some.inj e]; intro q; exact absurd (Value.type.inj q) (by decide)
    refine nextRangeX F' oi R1.h (fun hk0 g4 h4 tk4 F4 o4 k4 => ?_) (fun hk0 g4 h4 F4 k4 => ?_)
    · refine owned_name (wpAny_assign_Name ?_)
      walk_at "S"
      have hl4 : K.Is g4 hp xs' := ⟨hl'.1.at fun o e => k4 _ _ hpi e, fun x hx => K.ext (hl'.2 x hx) nt k4⟩
      have hk4 : ∀ b o, b ≠ hp → s.heap.get? b = some o → g4.get? b = some o := fun b o hb e => k4 b o (by rintro rfl; rw [hit0] at e; cases e) (hk b o hb e)
      have G4 := G.but hl.1 hk4
      obtain ⟨j, rfl⟩ : ∃ j, k = j + 1 := ⟨k - 1, by omega⟩
      rw [show (((j + 1 : Nat) : Int) - 1) = (j : Int) by omega] at *
      refine callFn 7 (by assumption) G4 (fun b fb => ?_)
      walk_at "ev"
      walk_at "ev"
      have F5 := ‹Fx g4 L _ [("x", Value.ref hp), ("i", _)]›
      refine evs_nil ⟨fun c o e _ => F5.keep c o e, ?_⟩
      refine spec_siftup (pos := j) R1 (fb.keeps F5.keep) (G4.keeps F5.keep) (hl4.keeps F5.keep) (by omega) (by omega) fun h' tk' k' i' => ?_
      obtain ⟨F6, k6, k6'⟩ := F5.change (h' := h') (list_ne hl4.1 F5.noL) k'
      walk_at "S"
      refine kn (j + 1) _ (by omega) (in5 _ _ _ _ j ⟨rfl, rfl, by walk_at "sub", ?_, by omega, ?_, fun b o hb e => k6 b o hb (hk4 b o hb e), by rw [siftup_length]; exact hlen, heq⟩)
      · have := k6 _ _ (Ne.symm hpi) o4
        rw [show (j : Int) + -1 = (j : Int) - 1 by omega] at this
        exact this
      · exact ⟨i'.1.at fun o e => k6' _ _ (list_ne hl4.1 F5.noL) e, fun x hx => K.ext (hl4.2 x ((siftup_perm _ _ _).mem_iff.mp hx)) (plain_nt hl4.1) k6⟩
    · have : k = 0 := by omega
      subst this
      walk_at "S"
      exact h _ _ (fun b o hb e => F4.keep _ _ (k4 b o (by rintro rfl; rw [hit0] at e; cases e) (hk b o hb e))) (heq ▸ ⟨(F4.list (hl'.1.at fun o e => k4 _ _ hpi e)), fun x hx => K.keeps (K.ext (hl'.2 x hx) nt k4) F4.keep⟩)
theorem spec_heapify_max {K : Kind w} {fa hp : Addr} {xs : List K.I} {Q : Value → Shared → Prop}
    (R : Rm A 4) (f : FnAt s.heap 5 fa) (G : Gd w mg mb s.heap) (hl : K.Is s.heap hp xs) (hsz : xs.length < 2 ^ 19)
    (h : ∀ h' tk, (∀ b o, b ≠ hp → s.heap.get? b = some o → h'.get? b = some o) → K.Is h' hp (hfy (fun a b => K.lt b.2 a.2) (xs.length / 2) xs) → Q .none { s with heap := h', toks := tk }) :
    wpAny (MM w) A (call (.ref fa) [.ref hp]) Q E s := by
  refine enter [("x", .ref hp)] ["x"] (i := 5) R f G.lim (fun L h₁ pm c doc E' tk A' F R1 => ?_)
  refine wpAny_execs_cons ?_
  walk_at "S"
  walk_at "bl"
  walk_at "ev"
  refine evs_nil ?_
  refine len_list (Heap.PlainList.isList (Fx.list (by assumption) hl.1)) (by simp; omega) ?_
  rw [show ((xs.map (·.1)).toArray.size : Int) = (xs.length : Int) by simp]
  walk_at "S"
  refine wpAny_For ?_
  refine callTy (by assumption) G (by (simp only [blts, List.lookup, String.reduceBEq] <;> rfl)) ?_
  refine evs_cons ?_
  refine callTy (by assumption) G (by (simp only [blts, List.lookup, String.reduceBEq] <;> rfl)) ?_
  walk_at "ev"
  refine floordiv_int (by decide) ?_ (Or.inl (PyProof.noPylong_small (by omega)))
  rw [show Int.fdiv (xs.length : Int) 2 = ((xs.length / 2 : Nat) : Int) by rw [Int.fdiv_eq_ediv_of_nonneg _ (by decide)]; omega]
  refine evs_nil ?_
  refine rangeX (by assumption) fun g2 h2 a2 t1 t2 tk2 F2 o2 k2 n2 => ?_
  refine evs_nil ?_
  refine revRangeX F2 o2 (by omega) fun g3 h3 it F3 o3 k3 n3 => ?_
  have hit0 : s.heap.get? it = none := by
    cases e : s.heap.get? it with
    | none => rfl
    | some o => rw [k2 _ _ e] at n3; cases n3
  refine wpAny_pyIter_rangeiter (F3.keep _ _ o3) ?_
  refine forLoopK (fun n s' => ∃ g' h' tk' xs' k, n = k + 1 ∧ s' = { s with heap := h', toks := tk' } ∧ Fx g' L h' [("x", .ref hp)] ∧ IsRangeIter g' it ((k : Int) - 1) k (-1) ∧ k ≤ xs.length / 2 ∧
      K.Is g' hp xs' ∧ (∀ b o, b ≠ hp → s.heap.get? b = some o → g'.get? b = some o) ∧ xs'.length = xs.length ∧ hfy (fun a b => K.lt b.2 a.2) k xs' = hfy (fun a b => K.lt b.2 a.2) (xs.length / 2) xs) (xs.length / 2 + 1) ?_ (fun E₁ n s' Kn kn hI => ?_)
  · exact in5 g3 _ _ xs (xs.length / 2) ⟨rfl, rfl, by walk_at "sub", o3, Nat.le_refl _, hl.keeps fun b o e => k3 b o (k2 b o e), fun b o _ e => k3 b o (k2 b o e), rfl, rfl⟩
  · refine ex5 hI fun g' h' tk' xs' k hJ => ?_
    clear hI
    obtain ⟨rfl, rfl, F', oi, hkl, hl', hk, hlen, heq⟩ := hJ
    have hpi : hp ≠ it := by
      rintro rfl; obtain ⟨n, ho⟩ := hl'.1; rw [oi] at ho; exact absurd (Value.type.inj (congrArg (fun x : Option Obj => (x.getD default).cls) ho)) (by decide)
    have nt : ∀ o, g'.get? it = some o → o.cls ≠ .type "tuple" := by
      intro o e; rw [oi] at e; rw [← Option.some.inj e]; intro q; exact absurd (Value.type.inj q) (by decide)
    refine nextRangeX F' oi R1.h (fun hk0 g4 h4 tk4 F4 o4 k4 => ?_) (fun hk0 g4 h4 F4 k4 => ?_)
    · refine owned_name (wpAny_assign_Name ?_)
      walk_at "S"
      have hl4 : K.Is g4 hp xs' := ⟨hl'.1.at fun o e => k4 _ _ hpi e, fun x hx => K.ext (hl'.2 x hx) nt k4⟩
      have hk4 : ∀ b o, b ≠ hp → s.heap.get? b = some o → g4.get? b = some o := fun b o hb e => k4 b o (by rintro rfl; rw [hit0] at e; cases e) (hk b o hb e)
      have G4 := G.but hl.1 hk4
      obtain ⟨j, rfl⟩ : ∃ j, k = j + 1 := ⟨k - 1, by omega⟩
      rw [show (((j + 1 : Nat) : Int) - 1) = (j : Int) by omega] at *
      refine callFn 9 (by assumption) G4 (fun b fb => ?_)
      walk_at "ev"
      walk_at "ev"
      have F5 := ‹Fx g4 L _ [("x", Value.ref hp), ("i", _)]›
      refine evs_nil ⟨fun c o e _ => F5.keep c o e, ?_⟩
      refine spec_siftup_max (pos := j) R1 (fb.keeps F5.keep) (G4.keeps F5.keep) (hl4.keeps F5.keep) (by omega) (by omega) fun h' tk' k' i' => ?_
      obtain ⟨F6, k6, k6'⟩ := F5.change (h' := h') (list_ne hl4.1 F5.noL) k'
      walk_at "S"
      refine kn (j + 1) _ (by omega) (in5 _ _ _ _ j ⟨rfl, rfl, by walk_at "sub", ?_, by omega, ?_, fun b o hb e => k6 b o hb (hk4 b o hb e), by rw [siftup_length]; exact hlen, heq⟩)
      · have := k6 _ _ (Ne.symm hpi) o4
        rw [show (j : Int) + -1 = (j : Int) - 1 by omega] at this
        exact this
      · exact ⟨i'.1.at fun o e => k6' _ _ (list_ne hl4.1 F5.noL) e, fun x hx => K.ext (hl4.2 x ((siftup_perm _ _ _).mem_iff.mp hx)) (plain_nt hl4.1) k6⟩
    · have : k = 0 := by omega
      subst this
      walk_at "S"
      exact h _ _ (fun b o hb e => F4.keep _ _ (k4 b o (by rintro rfl; rw [hit0] at e; cases e) (hk b o hb e))) (heq ▸ ⟨(F4.list (hl'.1.at fun o e => k4 _ _ hpi e)), fun x hx => K.keeps (K.ext (hl'.2 x hx) nt k4) F4.keep⟩)
end
end
section
section
variable {w : World} {A : Around} {E : Value → Shared → Prop} {s : Shared} {g : Heap} {L a : Addr} {l : List (String × Value)} {mg mb : Str → Option Value} {env : Env}

theorem ldGv {k : String} {v : Value} {pos : Pos} {Q : Value → Shared → Prop} (F : Fx g L s.heap l) (G : Gd w mg mb g) (e : mg (Str.ofString k) = some v) (h : Q v s)
    (hgl : env.globals = mainGlobals := by rfl)
    (hk : env.scope.kind = .function := by kernel_rfl) (hl : env.kindOf (Str.ofString k) = some .globalImplicit := by kernel_rfl) (hd : (Str.ofString k == ("__debug__" : Str)) = false := by kernel_rfl) :
    wpAny (MM w) A (eval (.Name (Str.ofString k) pos) env) Q E s := by
  have G' := G.keeps F.keep
  exact Name_function_global hk hl (loadGlobal_global (mg := mg) (v := v) (by show s.heap.Ns env.globals mg; rw [hgl]; exact G'.g) e h) hd

theorem spec_in_b1 {fa : Addr} {c : Nat} {t : Tok} {Q : Value → Shared → Prop}
    (R : Rm A 2) (f : FnAt s.heap 13 fa) (G : Gd w mg mb s.heap)
    (h : ∀ h' tk, (∀ b o, s.heap.get? b = some o → h'.get? b = some o) → Q (.bool (b1L.contains (c : Int))) { s with heap := h', toks := tk }) :
    wpAny (MM w) A (call (.ref fa) [.str ⟨#[c]⟩ t]) Q E s := by
  refine enter [("code", .str ⟨#[c]⟩ t)] ["code"] (i := 13) R f G.lim (fun L h₁ pm c' doc E' tk A' F R1 => ?_)
  refine wpAny_execs_cons ?_
  walk_at "S"
  walk_at "bl"
  walk_at "ev"
  refine evs_nil ?_
  refine P.ord_of_char ?_
  walk_at "S"
  have G1 := G.keeps F.keep
  obtain ⟨a, S, n, e, hS, hS'⟩ := G1.b1
  refine ldGv F G e ?_
  refine wpAny_inSet_of (intKind_is _ _ _ _) rfl hS ?_
  rw [hS']
  walk_at "S"
  exact h _ _ (fun b o e => F.keep b o e)

noncomputable def mapB3 (c : Nat) : Str := match b3L.lookup (c : Int) with | some r => r | none => Txt.lower ⟨#[c]⟩
noncomputable def lettersOf (c : Nat) : Str := if b1L.contains (c : Int) then (Str.ofString "") else mapB3 c

theorem spec_map_b3 {fa : Addr} {c : Nat} {t : Tok} {Q : Value → Shared → Prop}
    (R : Rm A 2) (f : FnAt s.heap 15 fa) (G : Gd w mg mb s.heap)
    (h : ∀ h' tk t', (∀ b o, s.heap.get? b = some o → h'.get? b = some o) → Q (.str (mapB3 c) t') { s with heap := h', toks := tk }) :
    wpAny (MM w) A (call (.ref fa) [.str ⟨#[c]⟩ t]) Q E s := by
  refine enter [("code", .str ⟨#[c]⟩ t)] ["code"] (i := 15) R f G.lim (fun L h₁ pm c' doc E' tk A' F R1 => ?_)
  have G1 := G.keeps F.keep
  obtain ⟨a, fm, e, ha, hM, hdn, hf⟩ := G1.b3
  refine wpAny_execs_cons ?_
  walk_at "S"
  with_reducible refine methX PySem.F.plainAttrs_dict PySem.F.slot_dict_get PySem.F.type_dict_get ?_
  refine ldGv F G e ⟨hM.typeIs, fun b e => by cases e; exact hdn, ?_⟩
  refine callW_bltF (first := [.ref a]) ?_
  refine evs_cons ?_
  walk_at "bl"
  walk_at "ev"
  refine evs_nil ?_
  refine P.ord_of_char ?_
  refine evs_nil ?_
  refine call_meetsIn PySem.F.slot_dict_get hM.typeIs PySem.F.entry_dict_get (PySem.F.args_dict_get_2 _ _) (meets_dict_get (intKind P0 w) a (intKind_is _ _ _ _) ha) ⟨_, hM, ?_⟩
  have hfc := hf (c : Int)
  unfold mapB3 at h
  cases e2 : b3L.lookup (c : Int) with
  | some r =>
    rw [e2] at hfc h
    obtain ⟨t', e3⟩ := hfc
    rw [e3]
    show wpAny _ _ _ _ _ _
    walk_at "S"
    refine wpAny_isNot_other rfl (by intro e; cases e) ?_
    walk_at "S"
    rw [if_pos rfl]
    walk_at "S"
    exact h _ _ _ (fun b o e => Fx.keep (by assumption) b o e)
  | none =>
    rw [e2] at hfc h
    dsimp only at hfc
    rw [hfc]
    show wpAny _ _ _ _ _ _
    walk_at "S"
    refine wpAny_isNot_plain rfl ?_
    rw [show (!((none : Option Value).getD Value.none == Value.none)) = false from rfl]
    walk_at "S"
    rw [if_neg Bool.false_ne_true]
    walk_at "S"
    with_reducible refine methX PySem.F.plainAttrs_str PySem.F.slot_str_lower PySem.F.type_str_lower ?_
    walk_at "S"
    refine ⟨typeIs_str _ _ _, fun b e => (nomatch e), ?_⟩
    refine callW_bltF (first := [_]) ?_
    refine evs_nil ?_
    refine SC.lower (fit_lower (by show (1:Nat) ≤ _; omega)) ?_
    walk_at "S"
    exact h _ _ _ (fun b o e => Fx.keep (by assumption) b o e)

theorem spec_letters {fa : Addr} {c : Nat} {t : Tok} {Q : Value → Shared → Prop}
    (R : Rm A 3) (f : FnAt s.heap 19 fa) (G : Gd w mg mb s.heap)
    (h : ∀ h' tk t', (∀ b o, s.heap.get? b = some o → h'.get? b = some o) → Q (.str (lettersOf c) t') { s with heap := h', toks := tk }) :
    wpAny (MM w) A (call (.ref fa) [.str ⟨#[c]⟩ t]) Q E s := by
  refine enter [("sign", .str ⟨#[c]⟩ t)] ["sign"] (i := 19) R f G.lim (fun L h₁ pm c' doc E' tk A' F R1 => ?_)
  refine wpAny_execs_cons ?_
  walk_at "S"
  refine callFn 13 F G (fun b fb => ?_)
  walk_at "ev"
  refine evs_nil ⟨fun c o e _ => F.keep c o e, ?_⟩
  refine spec_in_b1 R1 (fb.keeps F.keep) (G.keeps F.keep) fun h2 tk2 k2 => ?_
  obtain ⟨F2, k3, _⟩ := F.grow k2
  unfold lettersOf at h
  walk_at "S"
  cases eb : b1L.contains (c : Int) with
  | true =>
    rw [eb] at h
    rw [if_pos rfl] at h ⊢
    walk_at "S"
    exact h _ _ _ (fun b o e => k2 b o (F.keep b o e))
  | false =>
    rw [eb] at h
    rw [if_neg Bool.false_ne_true] at h ⊢
    refine callFn 15 F2 (G.keeps k3) (fun b fb => ?_)
    walk_at "ev"
    refine evs_nil ⟨fun c o e _ => F2.keep c o e, ?_⟩
    refine spec_map_b3 R1 (fb.keeps F2.keep) ((G.keeps k3).keeps F2.keep) fun h2 tk2 t2 k4 => ?_
    walk_at "S"
    exact h _ _ _ (fun b o e => k4 b o (k2 b o (F.keep b o e)))
end
end
section
section
variable {w : World} {A : Around} {E : Value → Shared → Prop} {s : Shared} {g : Heap} {L a : Addr} {l : List (String × Value)} {fd : FuncData} {mg mb : Str → Option Value} {env : Env}

noncomputable def tupObj (vs : List Value) : Obj := { cls := .type "tuple", data := .seq vs.toArray }

theorem evs_mono {M : Model} : ∀ {args : List Expr} {Q Q' : List Value → Shared → Prop} {s : Shared}, evs M A env E args Q s → (∀ vs s', Q vs s' → Q' vs s') → evs M A env E args Q' s
  | [], _, _, _, h, hq => hq _ _ h
  | _ :: _, _, _, _, h, hq => wpAny_mono h (fun _ _ h₁ => evs_mono h₁ (fun _ _ => hq _ _)) fun _ _ x => x

theorem tupD {elts : List Expr} {x : Nat} {pos : Pos} {Q : Value → Shared → Prop}
    (h : evs (MM w) A env E elts (fun vs s' => vs.length ≤ 100 ∧ Q (.ref s'.heap.objs.size) { s' with heap := s'.heap.push (tupObj vs) }) s) (hn : noStar elts = true := by rfl) :
    wpAny (MM w) A (eval (.Tuple elts x pos) env) Q E s := by
  rw [arm_eval_Tuple]
  refine wpAny_bind (wpAny_standAt (wpAny_bind (spliced_evs elts hn (evs_mono h fun vs s' hv => ?_))))
  refine wpAny_newTuple hv.2 (Nat.le_trans hv.1 (by decide))

theorem listD {elts : List Expr} {pos : Pos} {Q : Value → Shared → Prop}
    (h : evs (MM w) A env E elts (fun vs s' => vs.length ≤ 100 ∧ Q (.ref s'.heap.objs.size) { s' with heap := s'.heap.push { cls := .type "list", data := .seq vs.toArray } }) s) (hn : noStar elts = true := by rfl) :
    wpAny (MM w) A (eval (.List elts pos) env) Q E s := by
  rw [arm_eval_List]
  refine wpAny_bind (wpAny_standAt (wpAny_bind (spliced_evs elts hn (evs_mono h fun vs s' hv => ?_))))
  refine wpAny_newList hv.2 (Nat.le_trans hv.1 (by decide))

/-- a display, its new object put into the ghost -/
noncomputable def New (L : Addr) (o : Obj) (Q : Value → Shared → Prop) (s : Shared) : Prop :=
  ∃ g l, Fx g L s.heap l ∧ ∀ g' h' a, Fx g' L h' l → g'.get? a = some o → (∀ b x, g.get? b = some x → g'.get? b = some x) → g.get? a = none → (∀ b x, s.heap.get? b = some x → b < a) → Q (.ref a) { s with heap := h' }

theorem New.of {o : Obj} {Q : Value → Shared → Prop} (h : New L o Q s) (hf : o.isFreed = false := by rfl) : Q (.ref s.heap.objs.size) { s with heap := s.heap.push o } := by
  obtain ⟨g, l, F, h⟩ := h
  exact pushX (C := fun a s => Q (.ref a) s) F (fun g' h' a F' e k n lt => h g' h' a F' e k n lt) hf

theorem tupF {elts : List Expr} {x : Nat} {pos : Pos} {Q : Value → Shared → Prop}
    (h : evs (MM w) A env E elts (fun vs s' => vs.length ≤ 100 ∧ New L (tupObj vs) Q s') s) (hn : noStar elts = true := by rfl) :
    wpAny (MM w) A (eval (.Tuple elts x pos) env) Q E s :=
  tupD (evs_mono h fun _ _ hv => ⟨hv.1, hv.2.of⟩) hn

noncomputable def lstObj (vs : List Value) : Obj := { cls := .type "list", data := .seq vs.toArray }
theorem listF {elts : List Expr} {pos : Pos} {Q : Value → Shared → Prop}
    (h : evs (MM w) A env E elts (fun vs s' => vs.length ≤ 100 ∧ New L (lstObj vs) Q s') s) (hn : noStar elts = true := by rfl) :
    wpAny (MM w) A (eval (.List elts pos) env) Q E s :=
  listD (evs_mono h fun _ _ hv => ⟨hv.1, hv.2.of⟩) hn
theorem plain_obj {h : Heap} {a : Addr} {vs : List Value} (e : h.get? a = some (lstObj vs)) : h.PlainList a vs.toArray := ⟨_, e⟩

theorem isTup_obj {h : Heap} {a : Addr} {vs : List Value} (e : h.get? a = some (tupObj vs)) : IsTup h a vs.toArray := ⟨_, e, rfl, _, rfl⟩

theorem seqIdx {i n : Nat} (hi : i < n) : seqIndex? (i : Int) n = some i := by
  have h0 : ¬ ((i : Int) < 0) := by omega
  have h1 : (i : Int) < (n : Int) := by omega
  have h2 : (0 : Int) ≤ i := by omega
  simp only [seqIndex?, h0, if_false, h1, h2, if_true, Int.toNat_natCast, decide_true, Bool.and_self]

theorem strItem {value slice : Expr} {x : Str} {i c : Nat} {k : Int} {t u : Tok} {Q : Value → Shared → Prop} (tab : List Nat) (hx : x = ⟨tab.toArray⟩) (hc : tab[i]? = some c) (hk : k = i) (hs : tab.length < 2 ^ 20)
    (h : Q (.str ⟨#[c]⟩ s.toks) { s with toks := s.toks + 1 }) (hsl : subscripted slice false (.str x t) (.int k u) = operate [.str x t, .int k u] (getItem (.str x t) (.int k u)) := by with_unfolding_all rfl) : wpAny (MM w) A (subscriptTail value slice (.str x t) (.int k u)) Q E s := by
  have hi : i < tab.length := by
    rcases Nat.lt_or_ge i tab.length with h | h
    · exact h
    · rw [List.getElem?_eq_none h] at hc; cases hc
  subst hk hx
  refine tail_any (typeIs_str _ _ _) PySem.F.slot_str_getitem.lookup (P.getItem_str (c := c) ?_ ?_ h) hsl
  · simp only [Bool.or_eq_false_iff, decide_eq_false_iff_not]; omega
  · show (seqIndex? (i : Int) tab.toArray.size).bind _ = _
    rw [List.size_toArray, seqIdx hi]
    show tab.toArray[i]? = some c
    simpa using hc

theorem tupItem {value slice : Expr} {t : Addr} {vs : List Value} {i : Nat} {k : Int} {u : Tok} {v : Value} {Q : Value → Shared → Prop} (ht : IsTup s.heap t vs.toArray) (hv : vs[i]? = some v) (hk : k = i) (hs : vs.length < 2 ^ 20) (h : Q v s)
    (hsl : subscripted slice false (.ref t) (.int k u) = operate [.ref t, .int k u] (getItem (.ref t) (.int k u)) := by with_unfolding_all rfl) :
    wpAny (MM w) A (subscriptTail value slice (.ref t) (.int k u)) Q E s := by
  have hi : i < vs.length := by
    rcases Nat.lt_or_ge i vs.length with h | h
    · exact h
    · rw [List.getElem?_eq_none h] at hv; cases hv
  subst hk
  exact item_tupleT ht (by omega) (by omega) (j := i) (seqIdx hi) hv h hsl

theorem tupItemP {value slice : Expr} {t : Addr} {vs : List Value} (i : Nat) {k : Int} {u : Tok} {Q : Value → Shared → Prop} (ht : IsTup s.heap t vs.toArray) (hv : i < vs.length) (hk : k = i) (hs : vs.length < 2 ^ 20) (h : ∀ v, vs[i]? = some v → Q v s)
    (hsl : subscripted slice false (.ref t) (.int k u) = operate [.ref t, .int k u] (getItem (.ref t) (.int k u)) := by with_unfolding_all rfl) :
    wpAny (MM w) A (subscriptTail value slice (.ref t) (.int k u)) Q E s :=
  tupItem ht (List.getElem?_eq_getElem hv) hk hs (h _ (List.getElem?_eq_getElem hv)) hsl

theorem lstItem {value slice : Expr} {t : Addr} {its : Array Value} {i : Nat} {k : Int} {u : Tok} {v : Value} {Q : Value → Shared → Prop} (hl : s.heap.PlainList t its) (hv : its[i]? = some v) (hk : k = i) (hs : its.size < 2 ^ 20) (h : Q v s)
    (hsl : subscripted slice false (.ref t) (.int k u) = operate [.ref t, .int k u] (getItem (.ref t) (.int k u)) := by with_unfolding_all rfl) :
    wpAny (MM w) A (subscriptTail value slice (.ref t) (.int k u)) Q E s := by
  have hi : i < its.size := by
    rcases Nat.lt_or_ge i its.size with h | h
    · exact h
    · rw [Array.getElem?_eq_none h] at hv; cases hv
  subst hk
  exact tail_any hl.isList.typeIs slot_list_getitem.lookup (wpAny_getItem_list hl.isList (by omega) (by omega) (by simpa using hv) h) hsl

theorem Gd.gt3 {h : Heap} (G : Gd w mg mb h) : 3 < h.objs.size := by
  obtain ⟨o, _, _, ho, _⟩ := G.g
  exact Heap.lt_size ho

noncomputable def signTab : List Nat := [0xad, 0x34f, 0x1806, 0x180b, 0x180c, 0x180d, 0x200b, 0x200c, 0x200d, 0x2060, 0xfeff]
noncomputable def signCp (k n : Nat) : Nat :=
  if k = 0 then (if n % 27 < 11 then signTab.getD (n % 27) 0 else 65013 + n % 27)
  else if 3 < k then [0xfb00, 0xfb01, 0xfb03, 0xdf].getD (k - 4) 0
  else
    let le := [5, 8, 18].getD (k - 1) 0
    if n % 15 < 2 then 97 + le - 32 * (n % 15)
    else
      let c := 119808 + le + 52 * (n % 15 - 2)
      if c = 119969 then 8497 else if c = 119972 then 8464 else if c = 120076 then 8465 else c

theorem getD_some {α} {xs : List α} {i : Nat} {d : α} (h : i < xs.length) : xs[i]? = some (xs.getD i d) := by
  simp [List.getD, h]

set_option maxHeartbeats 4000000 in
theorem spec_sign {fa : Addr} {k n : Nat} {t t2 : Tok} {Q : Value → Shared → Prop}
    (R : Rm A 2) (f : FnAt s.heap 17 fa) (G : Gd w mg mb s.heap) (hk : k < 8)
    (h : ∀ h' tk t', (∀ b o, s.heap.get? b = some o → h'.get? b = some o) → Q (.str ⟨#[signCp k n]⟩ t') { s with heap := h', toks := tk }) :
    wpAny (MM w) A (call (.ref fa) [.int k t, .int n t2]) Q E s := by
  refine enter [("kind", .int k t), ("turn", .int n t2)] ["kind", "turn"] (i := 17) R f G.lim (fun L h₁ pm c' doc E' tk A' F R1 => ?_)
  refine wpAny_execs_cons ?_
  walk_at "S"
  rcases Nat.eq_zero_or_pos k with h0 | h0
  · subst h0
    rw [if_pos (by rfl)]
    walk_at "S"
    have hc : signCp 0 n = if n % 27 < 11 then signTab.getD (n % 27) 0 else 65013 + n % 27 := rfl
    have hp : n % 27 < 27 := Nat.mod_lt _ (by decide)
    rw [hc] at h
    generalize n % 27 = p at *
    by_cases h1 : p < 11
    · rw [if_pos h1] at h
      rw [if_pos (by simp; omega)]
      walk_at "S"
      refine strItem (i := p) (c := signTab.getD p 0) signTab (by kernel_rfl) (getD_some h1) rfl (by decide) ?_
      walk_at "S"
      exact h _ _ _ (fun b o e => Fx.keep (by assumption) b o e)
    · rw [if_neg h1] at h
      rw [if_neg (by simp; omega)]
      walk_at "bl"
      walk_at "ev"
      refine evs_nil ?_
      refine P.chr_of_int (by simp; omega) ?_
      walk_at "S"
      rw [show ((65013 : Int) + (p : Int)).toNat = 65013 + p by omega]
      exact h _ _ _ (fun b o e => Fx.keep (by assumption) b o e)
  · rw [if_neg (by simp; omega)]
    walk_at "S"
    unfold signCp at h
    rw [if_neg (by omega)] at h
    by_cases h3 : 3 < k
    · rw [if_pos h3] at h
      rw [if_pos (by simp; omega)]
      walk_at "S"
      refine strItem (i := k - 4) (c := [0xfb00, 0xfb01, 0xfb03, 0xdf].getD (k - 4) 0) [0xfb00, 0xfb01, 0xfb03, 0xdf] (by kernel_rfl) (getD_some (by show k - 4 < 4; omega)) (by omega) (by decide) ?_
      walk_at "S"
      exact h _ _ _ (fun b o e => Fx.keep (by assumption) b o e)
    · rw [if_neg h3] at h
      rw [if_neg (by simp; omega)]
      walk_at "S"
      refine tupF (L := L) ?_
      walk_at "ev"; walk_at "ev"; walk_at "ev"
      refine evs_nil ⟨Nat.le_of_ble_eq_true rfl, _, _, F, fun g2 h2 a2 F2 e2 k2 n2 l2 => ?_⟩
      have G2 := G.keeps k2
      walk_at "S"
      refine tupItemP (k - 1) (isTup_obj (F2.keep _ _ e2)) (by show k - 1 < 3; omega) (by omega) (by show 3 < _; decide) fun v hv => ?_
      have hv' : ∃ t, v = .int (([5, 8, 18].getD (k - 1) 0 : Nat) : Int) t := by
        have : k = 1 ∨ k = 2 ∨ k = 3 := by omega
        rcases this with rfl | rfl | rfl <;> exact ⟨_, (Option.some.inj hv).symm⟩
      obtain ⟨tv, rfl⟩ := hv'
      have hle : [5, 8, 18].getD (k - 1) 0 < 26 := by
        have : k = 1 ∨ k = 2 ∨ k = 3 := by omega
        rcases this with rfl | rfl | rfl <;> decide
      clear hv
      dsimp only at h
      generalize [5, 8, 18].getD (k - 1) 0 = le at *
      walk_at "S"
      have hp : n % 15 < 15 := Nat.mod_lt _ (by decide)
      generalize n % 15 = p at *
      by_cases h1 : p < 2
      · rw [if_pos h1] at h
        rw [if_pos (by simp; omega)]
        walk_at "S"
        walk_at "bl"
        walk_at "ev"
        refine P.mul_int ?_ (PySem.IntMulOk.of_left (by decide))
        walk_at "S"
        refine evs_nil ?_
        refine P.chr_of_int (by simp; omega) ?_
        walk_at "S"
        rw [show ((97 : Int) + (le : Int) - 32 * (p : Int)).toNat = 97 + le - 32 * p by omega]
        exact h _ _ _ (fun b o e => Fx.keep (by assumption) b o (k2 _ _ e))
      · rw [if_neg h1] at h
        rw [if_neg (by simp; omega)]
        walk_at "S"
        refine P.mul_int ?_ (PySem.IntMulOk.of_left (by decide))
        walk_at "S"
        rw [show (119808 : Int) + (le : Int) + 52 * ((p : Int) - 2) = ((119808 + le + 52 * (p - 2) : Nat) : Int) by omega] at *
        have hcb : 119808 + le + 52 * (p - 2) < 120600 := by omega
        generalize 119808 + le + 52 * (p - 2) = c at *
        clear l2
        rename_i hST _
        have FH := (by assumption : Fx g2 L hST _)
        walk_at "bl"
        refine evs_cons ?_
        with_reducible refine methX PySem.F.plainAttrs_dict PySem.F.slot_dict_get PySem.F.type_dict_get ?_
        with_reducible refine wpAny_Dict_walk (knd := intKind P0 w) ?_ ?_ ?_ ?_ ?_
        · rfl
        · rfl
        · simp
        · decide
        refine pairTrees_cons_walk ?_
        walk_at "S"
        refine pairTrees_cons_walk ?_
        walk_at "S"
        refine pairTrees_cons_walk ?_
        walk_at "S"
        refine pairTrees_nil_walk ?_
        refine display_done_int rfl (by simp only [intKeyPairs, List.map]; decide) (Heap.DictOf.new _) fun h3 hd3 hs3 => ?_
        obtain ⟨F4, k4, _⟩ := FH.grow (h' := h3) fun b o e => (hs3.2 b (Nat.ne_of_lt (Heap.lt_size e))).trans (Heap.get?_push_of_some _ e)
        have hm3 := hd3.mapOf
        have ha3 : (hST.objs.size == sysModules) = false := by
          have := (G2.keeps FH.keep).gt3
          simp only [beq_eq_false_iff_ne, ne_eq]
          show ¬ hST.objs.size = 1
          omega
        refine ⟨hm3.typeIs, hm3.noDict, ?_⟩
        refine callW_bltF (first := [_]) ?_
        walk_at "ev"
        walk_at "ev"
        refine evs_nil ?_
        refine call_meetsIn PySem.F.slot_dict_get hm3.typeIs PySem.F.entry_dict_get (PySem.F.args_dict_get_3 _ _ _) (meets_dict_get_default (intKind P0 w) _ (intKind_is _ _ _ _) ha3 _) ⟨_, hm3, ?_⟩
        have hval : ∀ (t1 t2 t3 t4 t5 t6 t7 : Tok), ∃ t, (valueAt (intKeyPairs [(.int 119969 t1, .int 8497 t2), (.int 119972 t3, .int 8464 t4), (.int 120076 t5, .int 8465 t6)]) (c : Int)).getD (.int (c : Int) t7) =
            .int ((if c = 119969 then 8497 else if c = 119972 then 8464 else if c = 120076 then 8465 else c : Nat) : Int) t := by
          intro t1 t2 t3 t4 t5 t6 t7
          simp only [intKeyPairs, valueAt, List.find?]
          by_cases c1 : c = 119969
          · subst c1; exact ⟨_, rfl⟩
          by_cases c2 : c = 119972
          · subst c2; exact ⟨_, rfl⟩
          by_cases c3 : c = 120076
          · subst c3; exact ⟨_, rfl⟩
          have d1 : ¬ ((119969 : Int) = (c : Int)) := by omega
          have d2 : ¬ ((119972 : Int) = (c : Int)) := by omega
          have d3 : ¬ ((120076 : Int) = (c : Int)) := by omega
          simp only [d1, d2, d3, c1, c2, c3, decide_false, if_false]
          exact ⟨_, rfl⟩
        obtain ⟨tt, ett⟩ := hval _ _ _ _ _ _ _
        rw [ett]
        have hfb : (if c = 119969 then 8497 else if c = 119972 then 8464 else if c = 120076 then 8465 else c) < 120600 := by split <;> (try split) <;> (try split) <;> omega
        generalize (if c = 119969 then 8497 else if c = 119972 then 8464 else if c = 120076 then 8465 else c) = d at *
        refine evs_nil ?_
        refine P.chr_of_int (by simp; omega) ?_
        walk_at "S"
        rw [show ((d : Int)).toNat = d by omega]
        exact h _ _ _ (fun b o e => F4.keep b o (k4 _ _ (k2 _ _ e)))
end
end
section
noncomputable def pieces : List Str := [Str.ofString "", Str.ofString "f", Str.ofString "i", Str.ofString "s", Str.ofString "ff", Str.ofString "fi", Str.ofString "ffi", Str.ofString "ss"]
noncomputable def piece (k : Nat) : Str := pieces.getD k (Str.ofString "")
theorem tab0 : ∀ n, n < 27 → (lettersOf (signCp 0 n)).cps.toList = (piece 0).cps.toList := by decide +kernel
theorem tab1 : ∀ k, k < 4 → k = 0 ∨ ∀ n, n < 15 → (lettersOf (signCp k n)).cps.toList = (piece k).cps.toList := by decide +kernel
theorem tab4 : ∀ k, k < 8 → k < 4 ∨ (lettersOf (signCp k 0)).cps.toList = (piece k).cps.toList := by decide +kernel
theorem str_ext {x y : Str} (h : x.cps.toList = y.cps.toList) : x = y := by
  cases x; cases y; exact congrArg Str.mk (Array.toList_inj.mp h)
theorem letters_sign {k : Nat} (hk : k < 8) (n : Nat) : lettersOf (signCp k n) = piece k := by
  refine str_ext ?_
  rcases Nat.eq_zero_or_pos k with rfl | h0
  · have e : signCp 0 n = signCp 0 (n % 27) := by unfold signCp; rw [Nat.mod_mod]; rfl
    rw [e]; exact tab0 _ (Nat.mod_lt _ (by decide))
  by_cases h4 : k < 4
  · have e : signCp k n = signCp k (n % 15) := by
      have e1 : ¬ k = 0 := by omega
      have e2 : ¬ 3 < k := by omega
      simp only [signCp, e1, e2, if_false, Nat.mod_mod]
    rw [e]
    rcases tab1 k h4 with h | h
    · omega
    · exact h _ (Nat.mod_lt _ (by decide))
  · have e : signCp k n = signCp k 0 := by unfold signCp; rw [if_neg (by omega), if_pos (by omega), if_neg (by omega), if_pos (by omega)]
    rw [e]
    rcases tab4 k hk with h | h
    · omega
    · exact h
end
section
noncomputable def letL (sp : List Nat) : List Nat := sp.flatMap fun c => (lettersOf c).cps.toList
noncomputable def headsOf (sp : List Nat) : List (List Nat) := (List.range (sp.length + 1)).map fun i => letL (sp.take i)
noncomputable def sv (l : List Nat) (t : Tok) : Value := .str ⟨l.toArray⟩ t
/-- values that are these strings -/
noncomputable def SL (vs : List Value) (xs : List (List Nat)) : Prop := vs.length = xs.length ∧ ∀ (i : Nat) (x : List Nat), xs[i]? = some x → ∃ t, vs[i]? = some (sv x t)
structure Nm (sp : List Nat) : Prop where
  len : sp.length ≤ 5
  sh : ∀ c ∈ sp, (lettersOf c).cps.size ≤ 3

theorem headsOf_snoc (sp : List Nat) (c : Nat) : headsOf (sp ++ [c]) = headsOf sp ++ [letL (sp ++ [c])] := by
  unfold headsOf
  rw [List.length_append, List.length_singleton, List.range_succ, List.map_append]
  congr 1
  · refine List.map_congr_left fun i hi => ?_
    rw [List.take_append_of_le_length (by have := List.mem_range.mp hi; omega)]
  · simp only [List.map_cons, List.map_nil]
    rw [List.take_of_length_le (by simp)]
theorem headsOf_length (sp : List Nat) : (headsOf sp).length = sp.length + 1 := by simp [headsOf]
theorem headsOf_get (sp : List Nat) {i : Nat} (h : i ≤ sp.length) : (headsOf sp)[i]? = some (letL (sp.take i)) := by
  simp [headsOf, Nat.lt_succ_of_le h]
theorem letL_snoc (sp : List Nat) (c : Nat) : letL (sp ++ [c]) = letL sp ++ (lettersOf c).cps.toList := by simp [letL]
theorem letL_len : ∀ {sp : List Nat}, (∀ c ∈ sp, (lettersOf c).cps.size ≤ 3) → (letL sp).length ≤ 3 * sp.length
  | [], _ => by simp [letL]
  | c :: r, h => by
    have h1 := h c (by simp)
    have h2 := letL_len (sp := r) fun d hd => h d (by simp [hd])
    simp only [letL, List.flatMap_cons, List.length_append, List.length_cons, Array.length_toList] at *
    omega

theorem SL.snoc {vs : List Value} {xs : List (List Nat)} (h : SL vs xs) {x : List Nat} {t : Tok} : SL (vs ++ [sv x t]) (xs ++ [x]) := by
  refine ⟨by simp [h.1], fun i y e => ?_⟩
  rcases Nat.lt_or_ge i xs.length with hi | hi
  · rw [List.getElem?_append_left hi] at e
    rw [List.getElem?_append_left (by rw [h.1]; exact hi)]
    exact h.2 i y e
  · rw [List.getElem?_append_right hi] at e
    rw [List.getElem?_append_right (by rw [h.1]; exact hi), h.1]
    cases e2 : i - xs.length with
    | zero => rw [e2] at e; cases e; exact ⟨t, rfl⟩
    | succ n => rw [e2] at e; simp at e

theorem str_app (x y : List Nat) : (⟨x.toArray⟩ : Str) ++ (⟨y.toArray⟩ : Str) = ⟨(x ++ y).toArray⟩ := by
  show Str.mk (x.toArray ++ y.toArray) = _
  simp only [List.append_toArray]

section
variable {w : World} {A : Around} {E : Value → Shared → Prop} {s : Shared} {g : Heap} {L a : Addr} {l : List (String × Value)} {fd : FuncData} {mg mb : Str → Option Value} {env : Env}
theorem Fx.up {h h' : Heap} (F : Fx g L h l) (hs : ∀ b o, h.get? b = some o → h'.get? b = some o) : Fx g L h' l := by
  obtain ⟨m, ⟨o, es, ep, ho, r⟩, hh⟩ := F.ns
  exact ⟨⟨m, ⟨o, es, ep, hs L o ho, r⟩, hh⟩, fun b o e => hs b o (F.keep b o e), F.noL⟩

theorem unpackX {elts : List Expr} {k : Nat} {pos : Pos} {t : Addr} {vs : List Value} {Q : Unit → Shared → Prop} (F : Fx g L s.heap l) (hh : A.handled = none) (ht : IsTup g t vs.toArray)
    (h : ∀ h', Fx g L h' l → wpAny (MM w) A (assignInOrder ((assignEach elts env).map (·.2)) vs) Q E { s with heap := h' })
    (hn : (assignEach elts env).length = vs.length := by rfl) (hstar : (assignEach elts env).findIdx? (·.1) = none := by rfl) :
    wpAny (MM w) A (assign (.Tuple elts k pos) env (.ref t)) Q E s := by
  refine assign_Tuple_tuple hh (ht.keeps F.keep) (by simpa using hn) hstar fun h' he => h h' (F.up fun b o e => he b o (Nat.ne_of_lt (Heap.lt_size e)) e)

theorem unpackItemsX {t : Addr} {vs : List Value} {n : Nat} {Q : List Value → Shared → Prop} (F : Fx g L s.heap l) (hh : A.handled = none) (ht : IsTup g t vs.toArray) (hn : n = vs.length)
    (h : ∀ h', Fx g L h' l → Q vs { s with heap := h' }) : wpAny (MM w) A (unpackItems (.ref t) n none) Q E s := by
  subst hn
  have := unpackItems_tuple (prog := P0) (w := w) (E := E) hh (ht.keeps F.keep) (Q := Q) fun h' he => h h' (F.up fun b o e => he b o (Nat.ne_of_lt (Heap.lt_size e)) e)
  simpa using this

theorem lstLast {value slice : Expr} {t : Addr} {vs : List Value} {n : Nat} {u : Tok} {v : Value} {Q : Value → Shared → Prop} (hl : s.heap.PlainList t vs.toArray) (hn : vs.length = n + 1) (hv : vs[n]? = some v) (hs : vs.length < 2 ^ 20) (h : Q v s)
    (hsl : subscripted slice false (.ref t) (.int (-1) u) = operate [.ref t, .int (-1) u] (getItem (.ref t) (.int (-1) u)) := by with_unfolding_all rfl) :
    wpAny (MM w) A (subscriptTail value slice (.ref t) (.int (-1) u)) Q E s := by
  refine tail_any hl.isList.typeIs slot_list_getitem.lookup (wpAny_getItem_list_neg hl.isList (by decide) (by simp; omega) (by decide) ?_ h) hsl
  simp only [List.size_toArray, hn]
  rw [show ((-1 : Int) + ((n + 1 : Nat) : Int)).toNat = n by omega]
  simpa using hv

set_option maxHeartbeats 4000000 in
theorem spec_name {fa : Addr} {n : Nat} {t : Tok} {Q : Value → Shared → Prop}
    (R : Rm A 3) (f : FnAt s.heap 18 fa) (G : Gd w mg mb s.heap) (hn : n < 32768)
    (h : ∀ h' tk sp t' tp hp vs, (∀ b o, s.heap.get? b = some o → h'.get? b = some o) → Nm sp → h'.get? tp = some (tupObj [sv sp t', .ref hp]) → h'.PlainList hp vs.toArray → SL vs (headsOf sp) → (∀ b o, s.heap.get? b = some o → b < tp ∧ b < hp) → Q (.ref tp) { s with heap := h', toks := tk }) :
    wpAny (MM w) A (call (.ref fa) [.int n t]) Q E s := by
  refine enter [("number", .int n t)] ["number"] (i := 18) R f G.lim (fun L h₁ pm c' doc E' tk A' F R1 => ?_)
  refine wpAny_execs_cons ?_
  refine Assign_Tuple_swapped (names := [Str.ofString "spelled", Str.ofString "heads"]) ?_ (by kernel_rfl) (by kernel_rfl)
  refine tupF (L := L) ?_
  walk_at "ev"
  refine evs_cons ?_
  refine listF (L := L) ?_
  walk_at "ev"
  refine evs_nil ⟨Nat.le_of_ble_eq_true rfl, _, _, F, fun g2 h2 hp F2 e2 k2 n2 l2 => ?_⟩
  have hl2 : ∀ b o, s.heap.get? b = some o → b < hp := fun b o e => l2 _ _ (F.keep _ _ e)
  clear l2
  refine evs_nil ⟨Nat.le_of_ble_eq_true rfl, _, _, F2, fun g3 h3 tp F3 e3 k3 n3 l3 => ?_⟩
  clear l3
  refine unpackItemsX F3 R1.h (isTup_obj e3) rfl fun h4 F4 => ?_
  show wpAny _ _ (assignInOrder [bindName _ (Str.ofString "heads"), bindName _ (Str.ofString "spelled")] [_, _]) _ _ _
  walk_at "S"
  refine whileK (fun r s' => ∃ g' h' tk' sp vs t1 t2, s' = { s with heap := h', toks := tk' } ∧ Fx g' L h' [("number", .int n t), ("heads", .ref hp), ("spelled", sv sp t1), ("rest", .int r t2)] ∧
      Nm sp ∧ g'.PlainList hp vs.toArray ∧ SL vs (headsOf sp) ∧ (∀ b o, s.heap.get? b = some o → g'.get? b = some o) ∧ r < 8 ^ (5 - sp.length)) n ?_ (fun E₁ r s' Kn kn kc kb hI => ?_)
  · refine in7 _ _ _ [] _ _ _ ⟨rfl, by walk_at "sub", ⟨by decide, by simp⟩, plain_obj (k3 _ _ e2), ?_, fun b o e => k3 _ _ (k2 _ _ e), hn⟩
    refine ⟨rfl, fun i x e => ?_⟩
    match i, e with
    | 0, e => cases e; exact ⟨_, rfl⟩
  · refine ex7 hI fun g' h' tk' sp vs t1 t2 hJ => ?_
    clear hI
    obtain ⟨rfl, F', nmm, hl', hs', k', hr⟩ := hJ
    walk_at "S"
    rcases Nat.eq_zero_or_pos r with h0 | h0
    · subst h0
      rw [if_neg (by decide)]
      walk_at "S"
      refine tupF (L := L) ?_
      walk_at "ev"; walk_at "ev"
      refine evs_nil ⟨Nat.le_of_ble_eq_true rfl, _, _, F', fun g5 h5 tp F5 e5 k5 n5 l5 => ?_⟩
      walk_at "S"
      exact h _ _ sp _ tp hp vs (fun b o e => F5.keep _ _ (k5 _ _ (k' _ _ e))) nmm (F5.keep _ _ e5) (F5.list (hl'.at fun o e => k5 _ o e)) hs' fun b o e => ⟨l5 _ _ (F'.keep _ _ (k' _ _ e)), hl2 b o e⟩
    · rw [if_pos (by simp; omega)]
      walk_at "S"
      refine methList PySem.F.slot_list_append PySem.F.type_list_append ?_
      walk_at "S"
      refine ⟨hp, _, rfl, F'.list hl', ?_⟩
      refine evs_cons ?_
      walk_at "S"
      refine wpAny_UnaryOp ?_
      walk_at "S"
      refine P.neg_int ?_
      have hlen : sp.length < 5 := by
        rcases Nat.lt_or_ge sp.length 5 with h | h
        · exact h
        · rw [show 5 - sp.length = 0 by omega] at hr; omega
      have hvl : vs.length = sp.length + 1 := by rw [hs'.1, headsOf_length]
      obtain ⟨tl, hlast⟩ := hs'.2 sp.length _ (headsOf_get sp (Nat.le_refl _))
      rw [List.take_of_length_le (Nat.le_refl _)] at hlast
      refine lstLast (v := sv (letL sp) tl) (F'.list hl') hvl hlast (by omega) ?_
      walk_at "S"
      refine tupF (L := L) ?_
      walk_at "ev"; walk_at "ev"; walk_at "ev"; walk_at "ev"; walk_at "ev"; walk_at "ev"; walk_at "ev"; walk_at "ev"
      refine evs_nil ⟨Nat.le_of_ble_eq_true rfl, _, _, F', fun g5 h5 tp F5 e5 k5 n5 l5 => ?_⟩
      clear l5
      walk_at "S"
      have hq : r % 8 < 8 := Nat.mod_lt _ (by decide)
      refine tupItemP (r % 8) (isTup_obj (F5.keep _ _ e5)) hq rfl (by show 8 < _; decide) fun v hv => ?_
      have hv' : ∃ t, v = .str (piece (r % 8)) t := by
        clear e5
        generalize r % 8 = q at *
        have : q = 0 ∨ q = 1 ∨ q = 2 ∨ q = 3 ∨ q = 4 ∨ q = 5 ∨ q = 6 ∨ q = 7 := lt8 q hq
        rcases this with rfl | rfl | rfl | rfl | rfl | rfl | rfl | rfl <;> exact ⟨_, (Option.some.inj hv).symm⟩
      obtain ⟨tv, rfl⟩ := hv'
      clear hv
      have hpl : (piece (r % 8)).length ≤ 3 := by
        have : ∀ q, q < 8 → (piece q).length ≤ 3 := by decide +kernel
        exact this _ hq
      have hll := letL_len nmm.sh
      refine add_str (fun t5 tk5 => ?_) (by rw [sizeLine_eq]; show (letL sp).toArray.size + _ ≤ _; simp only [List.size_toArray]; omega)
      have hx : (⟨(letL sp).toArray⟩ : Str) ++ piece (r % 8) = ⟨(letL (sp ++ [signCp (r % 8) (n + 4 * sp.length)])).toArray⟩ := by
        rw [letL_snoc, ← str_app, letters_sign hq]
      rw [hx]
      refine evs_nil ?_
      refine appX (y := sv (letL (sp ++ [signCp (r % 8) (n + 4 * sp.length)])) t5) F5 (hl'.at fun o e => k5 _ o e) (by omega) fun g6 h6 F6 hl6 k6 => ?_
      walk_at "S"
      have hl5 : g5.PlainList hp vs.toArray := hl'.at fun o e => k5 _ o e
      have G5 := (G.keeps k').keeps k5
      have G6 := G5.but hl5 k6
      clear e5
      refine callFn 17 F6 G6 (fun b fb => ?_)
      walk_at "ev"
      walk_at "ev"
      walk_at "bl"
      walk_at "ev"
      refine evs_nil ?_
      refine P.len_str (x := ⟨sp.toArray⟩) (by show ¬ ((sp.toArray.size : Nat) : Int) ≥ _; simp only [List.size_toArray]; omega) ?_
      walk_at "S"
      refine P.mul_int ?_ (PySem.IntMulOk.of_left (by decide))
      walk_at "S"
      rw [show (n : Int) + 4 * (((⟨sp.toArray⟩ : Str).length : Nat) : Int) = ((n + 4 * sp.length : Nat) : Int) by show (n : Int) + 4 * ((sp.toArray.size : Nat) : Int) = _; simp only [List.size_toArray]; omega]
      refine evs_nil ⟨fun c o e _ => F6.keep c o e, ?_⟩
      refine spec_sign R1 (fb.keeps F6.keep) (G6.keeps F6.keep) hq fun h7 tk7 t7 k7 => ?_
      have F7 := F6.up k7
      walk_at "S"
      refine iadd_str (x := ⟨sp.toArray⟩) (y := ⟨#[_]⟩) (fun t8 tk8 => ?_) (by rw [sizeLine_eq]; show sp.toArray.size + 1 ≤ _; simp only [List.size_toArray]; omega)
      rw [show (⟨sp.toArray⟩ : Str) ++ (⟨#[signCp (r % 8) (n + 4 * sp.length)]⟩ : Str) = ⟨(sp ++ [signCp (r % 8) (n + 4 * sp.length)]).toArray⟩ from str_app sp [_]]
      walk_at "S"
      refine fdivN rfl (by decide) (by decide) ?_
      walk_at "S"
      refine kn (r / 8) _ (by omega) (in7 g6 _ _ (sp ++ [signCp (r % 8) (n + 4 * sp.length)]) _ _ _ ⟨rfl, by walk_at "sub", ⟨by simp; omega, ?_⟩, hl6, ?_, ?_, ?_⟩)
      · intro d hd
        rcases List.mem_append.mp hd with hd | hd
        · exact nmm.sh d hd
        · rw [List.mem_singleton.mp hd, letters_sign hq]; exact hpl
      · rw [headsOf_snoc]; exact hs'.snoc
      · intro b o e
        refine k6 b o ?_ (k5 _ _ (k' _ _ e))
        rintro rfl; rw [n2] at e; cases e
      · rw [List.length_append, List.length_singleton]
        have : 8 ^ (5 - sp.length) = 8 * 8 ^ (5 - (sp.length + 1)) := by
          rw [subSucc hlen, Nat.pow_succ, Nat.mul_comm]
        omega
end
end
section
section
variable {w : World} {A : Around} {E : Value → Shared → Prop} {s : Shared} {R : Result → Shared → Prop} {elt target iter c target2 iter2 : Expr} {scope : Scope} {pos : Pos} {it acc : Value} {env : Env}

theorem compTurn_list1f (elt target iter c : Expr) (scope : Scope) (pos : Pos) (it acc : Value) (env : Env) :
    compTurn (.ListComp elt [⟨target, iter, [c], 0⟩] scope pos) 0 it acc env = (standAt iter.pos >>= fun _ => pyNext it >>= fun r => match r with
      | none => pure (.done .next)
      | some v => letOwnedTupleGo target it v >>= fun _ => assign target env v >>= fun _ =>
        (forIn [c] true fun c r => if r = true then (isTrue c env (eval c env) >>= fun ok => pure (ForInStep.yield ok)) else pure (ForInStep.yield r)) >>= fun ok =>
        (if ok = true then ((eval elt env >>= fun x => call (.builtin "list.append") [acc, x] >>= fun _ => pure ()) >>= fun _ => again (.compLoop (.ListComp elt [⟨target, iter, [c], 0⟩] scope pos) 0 it acc env))
          else again (.compLoop (.ListComp elt [⟨target, iter, [c], 0⟩] scope pos) 0 it acc env))) := by rfl

theorem wp_for1 {c : Expr} {Q : Bool → Shared → Prop} (h : wpAny (MM w) A (isTrue c env (eval c env)) Q E s) :
    wpAny (MM w) A (forIn [c] true fun c r => if r = true then (isTrue c env (eval c env) >>= fun ok => pure (ForInStep.yield ok)) else pure (ForInStep.yield r)) Q E s := by
  rw [List.forIn_cons, if_pos rfl]
  refine wpAny_bind (wpAny_bind (wpAny_mono h (fun b s₁ h₁ => wpAny_pure ?_) fun _ _ x => x))
  show wpAny _ _ (forIn [] b _) _ _ _
  rw [List.forIn_nil]
  exact wpAny_pure h₁

theorem compLoop1f (I : Nat → Shared → Prop) (n : Nat) (h : I n s)
    (turn : ∀ E₁ n s, I n s → wpAny (MM w) A (pyNext it) (fun r s₁ => match r with
      | none => R (.ok .next) s₁
      | some v => wpAny (MM w) A (letOwnedTupleGo target it v) (fun _ s₁' => wpAny (MM w) A (assign target env v) (fun _ s₂ => wpAny (MM w) A (isTrue c env (eval c env)) (fun ok s₂' =>
          if ok = true then wpAny (MM w) A (eval elt env) (fun x s₃ => wpAny (MM w) A (call (.builtin "list.append") [acc, x]) (fun _ s₄ => ∃ m, m < n ∧ I m s₄) E₁ s₃) E₁ s₂' else ∃ m, m < n ∧ I m s₂') E₁ s₂) E₁ s₁') E₁ s₁) E₁ s) :
    codeAny (MM w) A (.compLoop (.ListComp elt [⟨target, iter, [c], 0⟩] scope pos) 0 it acc env) R s := by
  refine codeAny_loop rfl I (fun n s hI => ?_) n h
  show wpAny _ _ ((compTurn (.ListComp elt [⟨target, iter, [c], 0⟩] scope pos) 0 it acc env).onRaise (fun x => do noteFrame x env; theTreesLotGoes x)) _ _ s
  refine wpAny_noted ?_
  rw [compTurn_list1f]
  refine wpAny_bind (wpAny_standAt (wpAny_bind (wpAny_mono (turn _ n s hI) (fun r s₁ h₁ => ?_) fun _ _ h' => h')))
  cases r with
  | none => exact wpAny_pure h₁
  | some v =>
    refine wpAny_bind (wpAny_mono h₁ (fun _ s₁' h₁' => ?_) fun _ _ h' => h')
    refine wpAny_bind (wpAny_mono h₁' (fun _ s₂ h₂ => wpAny_bind (wp_for1 (wpAny_mono h₂ (fun ok s₃ h₃ => ?_) fun _ _ h' => h'))) fun _ _ h' => h')
    cases ok with
    | false => rw [if_neg Bool.false_ne_true] at h₃ ⊢; exact wpAny_pure ⟨rfl, h₃⟩
    | true =>
      rw [if_pos rfl] at h₃ ⊢
      exact wpAny_bind (wpAny_bind (wpAny_mono h₃ (fun x s₃ h₃ => wpAny_bind (wpAny_mono h₃ (fun _ s₄ h₄ => wpAny_pure (wpAny_pure ⟨rfl, h₄⟩)) fun _ _ h' => h')) fun _ _ h' => h'))

theorem compLoop1 (I : Nat → Shared → Prop) (n : Nat) (h : I n s)
    (turn : ∀ E₁ n s, I n s → wpAny (MM w) A (pyNext it) (fun r s₁ => match r with
      | none => R (.ok .next) s₁
      | some v => wpAny (MM w) A (letOwnedTupleGo target it v) (fun _ s₁' => wpAny (MM w) A (assign target env v) (fun _ s₂ => wpAny (MM w) A (eval elt env) (fun x s₃ =>
          wpAny (MM w) A (call (.builtin "list.append") [acc, x]) (fun _ s₄ => ∃ m, m < n ∧ I m s₄) E₁ s₃) E₁ s₂) E₁ s₁') E₁ s₁) E₁ s) :
    codeAny (MM w) A (.compLoop (.ListComp elt [⟨target, iter, [], 0⟩] scope pos) 0 it acc env) R s := by
  refine codeAny_loop rfl I (fun n s hI => ?_) n h
  show wpAny _ _ ((compTurn (.ListComp elt [⟨target, iter, [], 0⟩] scope pos) 0 it acc env).onRaise (fun x => do noteFrame x env; theTreesLotGoes x)) _ _ s
  refine wpAny_noted ?_
  rw [compTurn_list1]
  refine wpAny_bind (wpAny_standAt (wpAny_bind (wpAny_mono (turn _ n s hI) (fun r s₁ h₁ => ?_) fun _ _ h' => h')))
  cases r with
  | none => exact wpAny_pure h₁
  | some v =>
    refine wpAny_bind (wpAny_mono h₁ (fun _ s₁' h₁' => ?_) fun _ _ h' => h')
    exact wpAny_bind (wpAny_mono h₁' (fun _ s₂ h₂ => wpAny_bind (wpAny_bind (wpAny_mono h₂ (fun x s₃ h₃ => wpAny_bind (wpAny_mono h₃
      (fun _ s₄ h₄ => wpAny_pure (wpAny_pure ⟨rfl, h₄⟩)) fun _ _ h' => h')) fun _ _ h' => h'))) fun _ _ h' => h')

theorem compTurn_list2 (elt target iter target2 iter2 : Expr) (scope : Scope) (pos : Pos) (it acc : Value) (env : Env) :
    compTurn (.ListComp elt [⟨target, iter, [], 0⟩, ⟨target2, iter2, [], 0⟩] scope pos) 0 it acc env = (standAt iter.pos >>= fun _ => pyNext it >>= fun r => match r with
      | none => pure (.done .next)
      | some v => letOwnedTupleGo target it v >>= fun _ => assign target env v >>= fun _ => eval iter2 env >>= fun x => standAt iter2.pos >>= fun _ => foldedSetIterable iter2 env x >>= fun x =>
        holding [x] (pyIter x) >>= fun it2 => runOwn (.compStart (.ListComp elt [⟨target, iter, [], 0⟩, ⟨target2, iter2, [], 0⟩] scope pos) 1 it2 acc env) env >>= fun _ =>
          again (.compLoop (.ListComp elt [⟨target, iter, [], 0⟩, ⟨target2, iter2, [], 0⟩] scope pos) 0 it acc env)) := by rfl
theorem compTurn_list2i (elt target iter target2 iter2 : Expr) (scope : Scope) (pos : Pos) (it acc : Value) (env : Env) :
    compTurn (.ListComp elt [⟨target, iter, [], 0⟩, ⟨target2, iter2, [], 0⟩] scope pos) 1 it acc env = (standAt iter2.pos >>= fun _ => pyNext it >>= fun r => match r with
      | none => pure (.done .next)
      | some v => letOwnedTupleGo target2 it v >>= fun _ => assign target2 env v >>= fun _ =>
        (eval elt env >>= fun x => call (.builtin "list.append") [acc, x] >>= fun _ => pure ()) >>= fun _ =>
          again (.compLoop (.ListComp elt [⟨target, iter, [], 0⟩, ⟨target2, iter2, [], 0⟩] scope pos) 1 it acc env)) := by rfl

theorem compLoop2 (I : Nat → Shared → Prop) (n : Nat) (h : I n s)
    (turn : ∀ E₁ n s, I n s → wpAny (MM w) A (pyNext it) (fun r s₁ => match r with
      | none => R (.ok .next) s₁
      | some v => wpAny (MM w) A (letOwnedTupleGo target it v) (fun _ s₁' => wpAny (MM w) A (assign target env v) (fun _ s₂ => wpAny (MM w) A (eval iter2 env) (fun x s₃ =>
          wpAny (MM w) A (pyIter x) (fun it2 s₄ => codeAny (MM w) A (.compStart (.ListComp elt [⟨target, iter, [], 0⟩, ⟨target2, iter2, [], 0⟩] scope pos) 1 it2 acc env)
            (fun r s' => match r with | .ok _ => ∃ m, m < n ∧ I m s' | .error e => cameBackBy (MM w) A env E₁ e s') s₄) E₁ s₃) E₁ s₂) E₁ s₁') E₁ s₁) E₁ s)
    (hs : ∀ x, foldedSetIterable iter2 env x = pure x := by intro _; rfl) :
    codeAny (MM w) A (.compLoop (.ListComp elt [⟨target, iter, [], 0⟩, ⟨target2, iter2, [], 0⟩] scope pos) 0 it acc env) R s := by
  refine codeAny_loop rfl I (fun n s hI => ?_) n h
  show wpAny _ _ ((compTurn (.ListComp elt [⟨target, iter, [], 0⟩, ⟨target2, iter2, [], 0⟩] scope pos) 0 it acc env).onRaise (fun x => do noteFrame x env; theTreesLotGoes x)) _ _ s
  refine wpAny_noted ?_
  rw [compTurn_list2]
  refine wpAny_bind (wpAny_standAt (wpAny_bind (wpAny_mono (turn _ n s hI) (fun r s₁ h₁ => ?_) fun _ _ h' => h')))
  cases r with
  | none => exact wpAny_pure h₁
  | some v =>
    refine wpAny_bind (wpAny_mono h₁ (fun _ s₁' h₁' => ?_) fun _ _ h' => h')
    refine wpAny_bind (wpAny_mono h₁' (fun _ s₂ h₂ => wpAny_bind (wpAny_mono h₂ (fun x s₃ h₃ => wpAny_bind (wpAny_standAt ?_)) fun _ _ h' => h')) fun _ _ h' => h')
    rw [hs]
    refine wpAny_bind (wpAny_pure (wpAny_bind (wpAny_holding (wpAny_mono h₃ (fun it2 s₄ h₄ => wpAny_bind (wpAny_runOwn (h := none) (codeAny_mono h₄ fun r s' hr => ?_))) fun _ _ h' => h'))))
    cases r with
    | ok f => exact wpAny_pure ⟨rfl, hr⟩
    | error e => exact hr

theorem compLoop2i (I : Nat → Shared → Prop) (n : Nat) (h : I n s)
    (turn : ∀ E₁ n s, I n s → wpAny (MM w) A (pyNext it) (fun r s₁ => match r with
      | none => R (.ok .next) s₁
      | some v => wpAny (MM w) A (letOwnedTupleGo target2 it v) (fun _ s₁' => wpAny (MM w) A (assign target2 env v) (fun _ s₂ => wpAny (MM w) A (eval elt env) (fun x s₃ =>
          wpAny (MM w) A (call (.builtin "list.append") [acc, x]) (fun _ s₄ => ∃ m, m < n ∧ I m s₄) E₁ s₃) E₁ s₂) E₁ s₁') E₁ s₁) E₁ s) :
    codeAny (MM w) A (.compLoop (.ListComp elt [⟨target, iter, [], 0⟩, ⟨target2, iter2, [], 0⟩] scope pos) 1 it acc env) R s := by
  refine codeAny_loop rfl I (fun n s hI => ?_) n h
  show wpAny _ _ ((compTurn (.ListComp elt [⟨target, iter, [], 0⟩, ⟨target2, iter2, [], 0⟩] scope pos) 1 it acc env).onRaise (fun x => do noteFrame x env; theTreesLotGoes x)) _ _ s
  refine wpAny_noted ?_
  rw [compTurn_list2i]
  refine wpAny_bind (wpAny_standAt (wpAny_bind (wpAny_mono (turn _ n s hI) (fun r s₁ h₁ => ?_) fun _ _ h' => h')))
  cases r with
  | none => exact wpAny_pure h₁
  | some v =>
    refine wpAny_bind (wpAny_mono h₁ (fun _ s₁' h₁' => ?_) fun _ _ h' => h')
    exact wpAny_bind (wpAny_mono h₁' (fun _ s₂ h₂ => wpAny_bind (wpAny_bind (wpAny_mono h₂ (fun x s₃ h₃ => wpAny_bind (wpAny_mono h₃
      (fun _ s₄ h₄ => wpAny_pure (wpAny_pure ⟨rfl, h₄⟩)) fun _ _ h' => h')) fun _ _ h' => h'))) fun _ _ h' => h')

theorem compStart2i
    (h0 : codeAny (MM w) A (.compLoop (.ListComp elt [⟨target, iter, [], 0⟩, ⟨target2, iter2, [], 0⟩] scope pos) 1 it acc env) R s)
    (h : ∀ E₁, wpAny (MM w) A (pyIter it) (fun it' s' => codeAny (MM w) A (.compLoop (.ListComp elt [⟨target, iter, [], 0⟩, ⟨target2, iter2, [], 0⟩] scope pos) 1 it' acc env) R s') E₁ s) :
    codeAny (MM w) A (.compStart (.ListComp elt [⟨target, iter, [], 0⟩, ⟨target2, iter2, [], 0⟩] scope pos) 1 it acc env) R s := by
  refine codeAny_of_tree ?_
  show wpAny _ _ ((compStart (.ListComp elt [⟨target, iter, [], 0⟩, ⟨target2, iter2, [], 0⟩] scope pos) 1 it acc env).onRaise (fun x => do noteFrame x env; standAt theWindowsPlace)) _ _ s
  refine wpAny_notedAt ?_
  unfold compStart
  show wpAny _ _ (ask >>= _) _ _ s
  refine wpAny_bind (wpAny_askSetting (wpAny_ite ?_))
  split
  · first
      | exact wpAny_bind (wpAny_pure (wpAny_pure (And.intro rfl h0)))
      | exact wpAny_pure (And.intro rfl h0)
  · first
      | exact wpAny_bind (wpAny_rule (wpAny_bind (wpAny_standAt (wpAny_bind (wpAny_mono (h _) (fun it' s' h' => wpAny_pure (And.intro rfl h')) fun _ _ x => x)))))
      | (refine wpAny_bind (wpAny_rule ?_); show wpAny _ _ (standAt iter2.pos >>= _) _ _ s; exact wpAny_bind (wpAny_standAt (wpAny_bind (wpAny_mono (h _) (fun it' s' h' => wpAny_pure (And.intro rfl h')) fun _ _ x => x))))
end
end
section
section
variable {w : World} {A : Around} {E : Value → Shared → Prop} {s : Shared} {elt target iter : Expr} {ifs : List Expr} {rest : List Comprehension} {scope : Scope} {pos : Pos} {it : Value} {env : Env} {cl : List (Str × Addr)} {g : Heap} {L : Addr} {l : List (String × Value)}

theorem Fx.re {h h' : Heap} (F : Fx g L h l) (hs : ∀ o, h.get? L = some o → h'.get? L = some o) : Fx (h'.hide L) L h' l := by
  obtain ⟨m, ⟨o, es, ep, ho, r⟩, hh⟩ := F.ns
  exact ⟨⟨m, ⟨o, es, ep, hs o ho, r⟩, hh⟩, fun b o e => Heap.of_hide e, Heap.hide_self _ _⟩

/-- an iterator is its own -/
noncomputable def Self (w : World) (A : Around) (it : Value) (s : Shared) : Prop :=
  ∀ (E₁ : Value → Shared → Prop) (Q' : Value → Shared → Prop) (h₃ : Heap) (tk : Nat), (∀ b o, s.heap.get? b = some o → h₃.get? b = some o) → Q' it { s with heap := h₃, toks := tk } → wpAny (MM w) A (pyIter it) Q' E₁ { s with heap := h₃, toks := tk }

theorem compBlock {RR : Value → Addr → Result → Shared → Prop} (hcell : ∀ y ∈ scope.names, y.2 ≠ .cell) (hkind : scope.kind = .function) (hself : Self w A it s)
    (h : ∀ D C g₃ h₃ tk, Fx g₃ C h₃ [] → g₃.PlainList D ([] : List Value).toArray → (∀ b o, s.heap.get? b = some o → g₃.get? b = some o) → s.heap.get? D = none → s.heap.get? C = none → (s.heap.objs.size ≤ D ∧ D < C) →
      codeAny (MM w) A (.compLoop (.ListComp elt (⟨target, iter, ifs, 0⟩ :: rest) scope pos) 0 it (.ref D) (compEnvC scope cl C env)) (RR (.ref D) C) { s with heap := h₃, toks := tk }) :
    wpAny (MM w) A (newList []) (fun acc s₃ => wpAny (MM w) A (newFunctionEnv scope env.globals cl [] env.qual none .none (some env)) (fun cenv s₄ =>
      codeAny (MM w) A (.compStart (.ListComp elt (⟨target, iter, ifs, 0⟩ :: rest) scope pos) 0 it acc { cenv with scope := relabel scope env }) (RR acc cenv.locals) s₄) E s₃) E s := by
  refine wpAny_newObj_type (wpAny_newFunctionEnv hcell (by intro y hy; simp at hy) (fun h₁ hns₁ hsb₁ => ?_) hkind)
  dsimp only at hns₁ hsb₁ ⊢
  generalize hH2 : s.heap.push { cls := .type "list", dict := none, data := .seq ([] : List Value).toArray } = H2 at hns₁ hsb₁ ⊢
  have hC : H2.objs.size = s.heap.objs.size + 1 := by rw [← hH2, Heap.size_push]
  have hDC : s.heap.objs.size ≠ H2.objs.size := by rw [hC]; exact Nat.ne_of_lt (Nat.lt_succ_self _)
  have below : ∀ b, b < s.heap.objs.size → b ≠ H2.objs.size := fun b hb => by rw [hC]; exact Nat.ne_of_lt (Nat.lt_succ_of_lt hb)
  have old : ∀ b o, s.heap.get? b = some o → h₁.get? b = some o := fun b o e => hsb₁.extBut b o (below b (Heap.lt_size e)) (Heap.get?_push_of_some _ (hH2 ▸ Heap.get?_push_of_some _ e))
  have hacc : h₁.get? s.heap.objs.size = some { cls := .type "list", dict := none, data := .seq ([] : List Value).toArray } := hsb₁.extBut _ _ hDC (Heap.get?_push_of_some _ (hH2 ▸ Heap.get?_push_size _ rfl))
  have fresh : ∀ a, s.heap.objs.size ≤ a → s.heap.get? a = none := fun a ha => by
    cases e : s.heap.get? a with
    | none => rfl
    | some o' => exact absurd (Heap.lt_size e) (Nat.not_lt.mpr ha)
  have FC : Fx (h₁.hide H2.objs.size) H2.objs.size h₁ [] := ⟨⟨_, hns₁, fun k v e => by simp at e⟩, fun b o e => Heap.of_hide e, Heap.hide_self _ _⟩
  have loop : ∀ s₃ : Shared, s₃ = { s with heap := h₁, toks := s.toks + ([] : List (Str × Value)).length } →
      codeAny (MM w) A (.compLoop (.ListComp elt (⟨target, iter, ifs, 0⟩ :: rest) scope pos) 0 it (.ref s.heap.objs.size) (compEnvC scope cl H2.objs.size env)) (RR (.ref s.heap.objs.size) H2.objs.size) s₃ := by
    rintro s₃ rfl
    exact h _ _ _ _ _ FC ⟨_, (Heap.hide_ne _ hDC).trans hacc⟩ (fun b o e => (Heap.hide_ne _ (below b (Heap.lt_size e))).trans (old b o e)) (fresh _ (Nat.le_refl _)) (fresh _ (by rw [hC]; exact Nat.le_succ _)) ⟨Nat.le_refl _, by rw [hC]; exact Nat.lt_succ_self _⟩
  refine codeAny_compStart_list (loop _ rfl) ?_
  exact hself _ (fun it' s' => codeAny (MM w) A (.compLoop (.ListComp elt (⟨target, iter, ifs, 0⟩ :: rest) scope pos) 0 it' (.ref s.heap.objs.size) (compEnvC scope cl H2.objs.size env)) (RR (.ref s.heap.objs.size) H2.objs.size) s') h₁ _ old (loop _ rfl)

/-- what a comprehension's loop must leave -/
noncomputable def CompEnd (L : Addr) (h₂ : Heap) (K : Addr → Heap → Shared → Prop) (D C : Addr) (r : Result) (s' : Shared) : Prop :=
  match r with
  | .ok _ => ∃ g' l', Fx g' C s'.heap l' ∧ (∀ o, h₂.get? L = some o → g'.get? L = some o) ∧ K D g' s'
  | .error _ => False

theorem compE {Q : Value → Shared → Prop} (hclos : closureFor scope env = pure cl)
    (h : wpAny (MM w) A (eval iter env) (fun xv s₁ => wpAny (MM w) A (pyIter xv) (fun it s₂ => ∃ g l, Fx g L s₂.heap l ∧ Self w A it s₂ ∧
      ∀ D C g₃ h₃ tk, Fx g₃ C h₃ [] → g₃.PlainList D ([] : List Value).toArray → (∀ b o, s₂.heap.get? b = some o → g₃.get? b = some o) → s₂.heap.get? D = none → s₂.heap.get? C = none → (s₂.heap.objs.size ≤ D ∧ D < C) →
        codeAny (MM w) A (.compLoop (.ListComp elt (⟨target, iter, ifs, 0⟩ :: rest) scope pos) 0 it (.ref D) (compEnvC scope cl C env))
          (CompEnd L s₂.heap (fun D g' s' => ∀ g'' h'', Fx g'' L h'' l → (∀ b o, b ≠ L → g'.get? b = some o → g''.get? b = some o) → Q (.ref D) { s' with heap := h'' }) D C) { s₂ with heap := h₃, toks := tk }) E s₁) E s)
    (hcell : ∀ y ∈ scope.names, y.2 ≠ .cell := by decide +kernel) (hkind : scope.kind = .function := by kernel_rfl)
    (hnames : ∀ y ∈ scope.names, y.2 = .local → scope.names.lookup y.1 = some .local := by decide +kernel)
    (hs : ∀ x, foldedSetIterable iter env x = pure x := by intro _; rfl) :
    wpAny (MM w) A (eval (.ListComp elt (⟨target, iter, ifs, 0⟩ :: rest) scope pos) env) Q E s := by
  rw [eval_ListComp]
  refine wpAny_comprehension_free (g := ⟨target, iter, ifs, 0⟩) (gs := rest) rfl hs hclos hkind hnames ?_
  refine wpAny_mono h (fun xv s₁ h₁ => wpAny_mono h₁ (fun it s₂ h₂ => ?_) fun _ _ x => x) fun _ _ x => x
  obtain ⟨g, l, F, hself, h₂⟩ := h₂
  refine compBlock (RR := fun acc C => compPost (MM w) A E none Q acc C) hcell hkind hself fun D C g₃ h₃ tk F₃ hD k₃ nD nC lt => codeAny_mono (h₂ D C g₃ h₃ tk F₃ hD k₃ nD nC lt) fun r s' hr => ?_
  cases r with
  | error x => exact hr.elim
  | ok f =>
    obtain ⟨g', l', F', hL, hK⟩ := hr
    obtain ⟨m, hn, _⟩ := F'.ns
    refine ⟨m, hn, fun h' hs' => ?_⟩
    have keep : ∀ b o, g'.get? b = some o → h'.get? b = some o := fun b o e => (hs'.2 b (F'.ne e)).trans (F'.keep b o e)
    refine hK (h'.hide L) h' (F.re fun o e => keep _ _ (hL o e)) fun b o hb e => (Heap.hide_ne _ hb).trans (keep b o e)

theorem compA {x : String} {pos' spos : Pos} {Q : Flow → Shared → Prop} (hclos : closureFor scope env = pure cl)
    (h : wpAny (MM w) A (eval iter env) (fun xv s₁ => wpAny (MM w) A (pyIter xv) (fun it s₂ => ∃ g l, Fx g L s₂.heap l ∧ Self w A it s₂ ∧
      ∀ D C g₃ h₃ tk, Fx g₃ C h₃ [] → g₃.PlainList D ([] : List Value).toArray → (∀ b o, s₂.heap.get? b = some o → g₃.get? b = some o) → s₂.heap.get? D = none → s₂.heap.get? C = none → (s₂.heap.objs.size ≤ D ∧ D < C) →
        codeAny (MM w) A (.compLoop (.ListComp elt (⟨target, iter, ifs, 0⟩ :: rest) scope pos) 0 it (.ref D) (compEnvC scope cl C env))
          (CompEnd L s₂.heap (fun D g' s' => ∀ g'' h'' tk, Fx g'' L h'' (put l x (.ref D)) → (∀ b o, b ≠ L → g'.get? b = some o → g''.get? b = some o) → Q .next { s' with heap := h'', toks := tk }) D C) { s₂ with heap := h₃, toks := tk }) E s₁) E s)
    (hsw : swapsWith (.ListComp elt (⟨target, iter, ifs, 0⟩ :: rest) scope pos) (some (.Name (Str.ofString x) pos')) spos.line env = pure true := by kernel_rfl)
    (hloc : env.locals = L := by rfl) (hk : env.scope.kind = .function := by kernel_rfl) (hl : env.kindOf (Str.ofString x) = some .local := by kernel_rfl)
    (hcell : ∀ y ∈ scope.names, y.2 ≠ .cell := by decide +kernel) (hkind : scope.kind = .function := by kernel_rfl)
    (hnames : ∀ y ∈ scope.names, y.2 = .local → scope.names.lookup y.1 = some .local := by decide +kernel)
    (hs : ∀ x, foldedSetIterable iter env x = pure x := by intro _; rfl) :
    wpAny (MM w) A (exec (.Assign [.Name (Str.ofString x) pos'] (.ListComp elt (⟨target, iter, ifs, 0⟩ :: rest) scope pos) spos) env) Q E s := by
  rw [exec_Assign_Name_used _ _ _ _ hsw]
  refine wpAny_bind (wpAny_standAt (wpAny_bind ?_))
  show wpAny _ A (do let _ ← comprehension (.ListComp elt (⟨target, iter, ifs, 0⟩ :: rest) scope pos) scope env _ (newList []) false (eval iter env) (some (assign (.Name (Str.ofString x) pos') env))) _ _ s
  refine wpAny_bind (wpAny_mono (wpAny_comprehension_free (g := ⟨target, iter, ifs, 0⟩) (gs := rest) (use := some (assign (.Name (Str.ofString x) pos') env)) (Q := fun _ s' => Q .next s') rfl hs hclos hkind hnames
    (wpAny_mono h (fun xv s₁ h₁ => wpAny_mono h₁ (fun it s₂ h₂ => ?_) fun _ _ e => e) fun _ _ e => e)) (fun _ s' hq => wpAny_pure (wpAny_pure hq)) fun _ _ e => e)
  obtain ⟨g, l, F, hself, h₂⟩ := h₂
  refine compBlock (RR := fun acc C => compPost (MM w) A E (some (assign (.Name (Str.ofString x) pos') env)) (fun _ s' => Q .next s') acc C) hcell hkind hself fun D C g₃ h₃ tk F₃ hD k₃ nD nC lt => codeAny_mono (h₂ D C g₃ h₃ tk F₃ hD k₃ nD nC lt) fun r s' hr => ?_
  cases r with
  | error x => exact hr.elim
  | ok f =>
    obtain ⟨g', l', F', hL, hK⟩ := hr
    have FL := F.re (h' := s'.heap) fun o e => F'.keep _ _ (hL o e)
    have hLC : C ≠ L := by
      obtain ⟨m, ⟨o, _, _, ho, _⟩, _⟩ := F.ns
      rintro rfl
      have := hL o ho
      rw [F'.noL] at this; cases this
    show wpAny _ A (assign (.Name (Str.ofString x) pos') env (.ref D)) _ _ _
    refine assign_Name (stL FL (fun h2 F2 => ?_) hloc hk hl)
    obtain ⟨m, ⟨o, es, ep, ho, r⟩, hh⟩ := F'.ns
    refine ⟨m, ⟨o, es, ep, F2.keep _ _ ((Heap.hide_ne _ hLC).trans ho), r⟩, fun h' hs' => ?_⟩
    refine hK (h'.hide L) h' _ (F2.re fun o e => (hs'.2 L (Ne.symm hLC)).trans e) fun b o hb e => ?_
    exact (Heap.hide_ne _ hb).trans ((hs'.2 b (F'.ne e)).trans (F2.keep _ _ ((Heap.hide_ne _ hb).trans (F'.keep _ _ e))))
end
end
section
open PySem.W
section
variable {w : World} {A : Around} {E : Value → Shared → Prop} {s s' : Shared} {target : Expr} {I D C : Addr} {fp wr : List Addr} {n k : Nat} {P Md : Nat → Value → Heap → Prop} {St : Nat → Heap → Prop} {cenv : Env} {g₀ : Heap}
  {J : Nat → List Value → Heap → Prop} {l : List (String × Value)}

/-- how a comprehension's loop stands -/
structure Inv (s : Shared) (D C : Addr) (wr : List Addr) (n : Nat) (St : Nat → Heap → Prop) (g₀ : Heap) (J : Nat → List Value → Heap → Prop) (i : Nat) (g h : Heap) (vs : List Value) (l : List (String × Value)) : Prop where
  le : i ≤ n
  fx : Fx g C h l
  hid : ∀ b o, b ≠ C → h.get? b = some o → g.get? b = some o
  st : St i h
  ls : g.PlainList D vs.toArray
  sz : vs.length < 2 ^ 20
  j : J i vs g
  kp : ∀ b o, b ≠ D → b ∉ wr → g₀.get? b = some o → g.get? b = some o

noncomputable def InvS (s : Shared) (D C : Addr) (wr : List Addr) (n : Nat) (St : Nat → Heap → Prop) (g₀ : Heap) (J : Nat → List Value → Heap → Prop) (l : List (String × Value)) (k : Nat) (s' : Shared) : Prop :=
  ∃ i g h tk vs, k = n - i ∧ s' = { s with heap := h, toks := tk } ∧ Inv s D C wr n St g₀ J i g h vs l

theorem turnA {M : Addr → Prop} (hM : ∀ b, M b → b ≠ D ∧ b ∉ wr) (W : KTurns P0 w A target I fp wr n P Md St) (hC : C ∉ fp) (hDf : D ∉ fp)
    (mono : ∀ i vs (g g' : Heap), J i vs g → (∀ b o, M b → g.get? b = some o → g'.get? b = some o) → J i vs g')
    {N : Shared → Prop} {B : Shared → Prop} (hI : InvS s D C wr n St g₀ J l k s')
    (none' : ∀ g h tk vs, Fx g C h l → g.PlainList D vs.toArray → J n vs g → (∀ b o, b ≠ D → b ∉ wr → g₀.get? b = some o → g.get? b = some o) → N { s with heap := h, toks := tk })
    (some' : ∀ i g h tk vs v, i < n → k = n - i → Fx g C h l → (∀ b o, b ≠ C → h.get? b = some o → g.get? b = some o) → St (i + 1) h → P i v h → g.PlainList D vs.toArray → vs.length < 2 ^ 20 → J i vs g →
      (∀ b o, b ≠ D → b ∉ wr → g₀.get? b = some o → g.get? b = some o) → wpAny (MM w) A (assign target cenv v) (fun _ s₂ => B s₂) E { s with heap := h, toks := tk }) :
    wpAny (MM w) A (pyNext (.ref I)) (fun r s₁ => match r with
      | none => N s₁
      | some v => wpAny (MM w) A (letOwnedTupleGo target (.ref I) v) (fun _ s₁' => wpAny (MM w) A (assign target cenv v) (fun _ s₂ => B s₂) E s₁') E s₁) E s' := by
  obtain ⟨i, g, h, tk, vs, hk, rfl, V⟩ := hI
  have hCw : C ∉ wr := fun hc => hC (W.sub _ hc)
  have hDw : D ∉ wr := fun hc => hDf (W.sub _ hc)
  -- a heap that differs at wr alone
  have nxt : ∀ h' : Heap, (∀ b o, b ∉ wr → h.get? b = some o → h'.get? b = some o) →
      Fx (h'.hide C) C h' l ∧ (h'.hide C).PlainList D vs.toArray ∧ J i vs (h'.hide C) ∧ (∀ b o, b ≠ D → b ∉ wr → g₀.get? b = some o → (h'.hide C).get? b = some o) := by
    intro h' kk
    have up : ∀ b o, b ∉ wr → g.get? b = some o → (h'.hide C).get? b = some o := fun b o hb e => (Heap.hide_ne _ (V.fx.ne e)).trans (kk b o hb (V.fx.keep b o e))
    refine ⟨V.fx.re fun o e => kk _ _ hCw e, ?_, mono _ _ _ _ V.j fun b o hb e => up b o (hM b hb).2 e, fun b o hb hw e => up b o hw (V.kp b o hb hw e)⟩
    obtain ⟨m, ho⟩ := V.ls
    exact ⟨m, up _ _ hDw ho⟩
  rcases Nat.lt_or_ge i n with hi | hi
  · refine W.item i _ _ _ hi V.st fun v h' tk' md kk => ?_
    refine W.go i v _ _ _ md fun h2 hp st2 k2 => ?_
    have kk2 : ∀ b o, b ∉ wr → h.get? b = some o → h2.get? b = some o := fun b o hb e => k2 b o hb (kk b o hb e)
    obtain ⟨F2, l2, j2, kp2⟩ := nxt h2 kk2
    exact some' i _ h2 tk' vs v hi hk F2 (fun b o hb e => (Heap.hide_ne _ hb).trans e) st2 hp l2 V.sz j2 kp2
  · have : i = n := Nat.le_antisymm V.le hi
    subst this
    refine W.done _ _ _ V.st fun h' tk' kk => ?_
    obtain ⟨F2, l2, j2, kp2⟩ := nxt h' kk
    exact none' _ h' tk' vs F2 l2 j2 kp2

theorem turnB {M : Addr → Prop} (hM : ∀ b, M b → b ≠ D ∧ b ∉ wr) (W : KTurns P0 w A target I fp wr n P Md St) (hC : C ∉ fp) (hDf : D ∉ fp)
    (mono : ∀ i vs (g g' : Heap), J i vs g → (∀ b o, M b → g.get? b = some o → g'.get? b = some o) → J i vs g')
    {i tk2 : Nat} {g h g' h' : Heap} {vs : List Value} {x : Value} (hi : i < n) (hk : k = n - i)
    (hid : ∀ b o, b ≠ C → h.get? b = some o → g.get? b = some o) (st : St (i + 1) h) (hl : g.PlainList D vs.toArray) (hsz : vs.length + 1 < 2 ^ 20) (kp : ∀ b o, b ≠ D → b ∉ wr → g₀.get? b = some o → g.get? b = some o)
    (F' : Fx g' C h' l) (kk : ∀ b o, g.get? b = some o → g'.get? b = some o) (hj : J (i + 1) (vs ++ [x]) g') :
    wpAny (MM w) A (call (.builtin "list.append") [.ref D, x]) (fun _ s₄ => ∃ m, m < k ∧ InvS s D C wr n St g₀ J l m s₄) E { s with heap := h', toks := tk2 } := by
  have hl' : g'.PlainList D vs.toArray := by obtain ⟨m, ho⟩ := hl; exact ⟨m, kk _ _ ho⟩
  refine appX F' hl' (by omega) fun g2 h2 F2 hl2 k2 => ?_
  have F3 := F2.re (h' := h2) fun o e => e
  have up : ∀ b o, g2.get? b = some o → (h2.hide C).get? b = some o := fun b o e => (Heap.hide_ne _ (F2.ne e)).trans (F2.keep b o e)
  refine ⟨n - (i + 1), by rw [hk]; exact subLt hi, i + 1, h2.hide C, h2, _, vs ++ [x], rfl, rfl, ⟨hi, F3, fun b o hb e => (Heap.hide_ne _ hb).trans e, ?_, ?_, by simp; omega, ?_, ?_⟩⟩
  · refine W.frame _ _ _ st fun b hb o e => ?_
    have hbC : b ≠ C := fun e => hC (e ▸ hb)
    have hbD : b ≠ D := fun e => hDf (e ▸ hb)
    exact F2.keep _ _ (k2 b o hbD (kk _ _ (hid b o hbC e)))
  · obtain ⟨m, ho⟩ := hl2; exact ⟨m, up _ _ ho⟩
  · exact mono _ _ _ _ hj fun b o hb e => up _ _ (k2 b o (hM b hb).1 e)
  · exact fun b o hb hw e => up _ _ (k2 b o hb (kk _ _ (kp b o hb hw e)))

theorem inv0 {vs : List Value} (F : Fx g₀ C s.heap l) (st : St 0 s.heap) (hl : g₀.PlainList D vs.toArray) (hsz : vs.length < 2 ^ 20) (j0 : ∀ g, (∀ b o, g₀.get? b = some o → g.get? b = some o) → J 0 vs g) (n : Nat) : InvS s D C wr n St g₀ J l n s := by
  have up : ∀ b o, g₀.get? b = some o → (s.heap.hide C).get? b = some o := fun b o e => (Heap.hide_ne _ (F.ne e)).trans (F.keep b o e)
  refine ⟨0, s.heap.hide C, s.heap, s.toks, vs, rfl, rfl, Nat.zero_le _, F.re fun o e => e, fun b o hb e => (Heap.hide_ne _ hb).trans e, st, ?_, hsz, j0 _ up, fun b o _ _ e => up b o e⟩
  obtain ⟨m, ho⟩ := hl; exact ⟨m, up _ _ ho⟩

theorem above {D : Addr} {wr : List Addr} (hwr : ∀ b ∈ wr, b < D) (b : Addr) (h : D < b) : b ≠ D ∧ b ∉ wr := ⟨Nat.ne_of_gt h, fun hw => absurd (hwr b hw) (Nat.not_lt.mpr (Nat.le_of_lt h))⟩

/-- a comprehension of one clause: what each turn puts -/
theorem compL1 {elt iter : Expr} {scope : Scope} {pos : Pos} {R : Result → Shared → Prop} (W : KTurns P0 w A target I fp wr n P Md St) (hC : C ∉ fp) (hDf : D ∉ fp) (hwr : ∀ b ∈ wr, b < D)
    (F : Fx g₀ C s.heap []) (st : St 0 s.heap) (hl : g₀.PlainList D ([] : List Value).toArray) (hn : n < 2 ^ 19)
    (J : Nat → List Value → Heap → Prop) (j0 : ∀ g, J 0 [] g) (jlen : ∀ i vs g, J i vs g → vs.length ≤ i)
    (mono : ∀ i vs (g g' : Heap), J i vs g → (∀ b o, D < b → g.get? b = some o → g'.get? b = some o) → J i vs g')
    (step : ∀ E₁ i g h tk vs v, i < n → Fx g C h [] → (∀ b o, b ≠ C → h.get? b = some o → g.get? b = some o) → P i v h → g.PlainList D vs.toArray → J i vs g → (∀ b o, b ≠ D → b ∉ wr → g₀.get? b = some o → g.get? b = some o) →
      ∀ Kx : Value → Shared → Prop, (∀ x g' h' tk' l', Fx g' C h' l' → (∀ b o, g.get? b = some o → g'.get? b = some o) → J (i + 1) (vs ++ [x]) g' → Kx x { s with heap := h', toks := tk' }) →
      wpAny (MM w) A (assign target cenv v) (fun _ s₂ => wpAny (MM w) A (eval elt cenv) Kx E₁ s₂) E₁ { s with heap := h, toks := tk })
    (fin : ∀ g h tk vs, Fx g C h [] → g.PlainList D vs.toArray → J n vs g → (∀ b o, b ≠ D → b ∉ wr → g₀.get? b = some o → g.get? b = some o) → R (.ok .next) { s with heap := h, toks := tk }) :
    codeAny (MM w) A (.compLoop (.ListComp elt [⟨target, iter, [], 0⟩] scope pos) 0 (.ref I) (.ref D) cenv) R s := by
  refine compLoop1 (InvS s D C wr n St g₀ J []) n (inv0 F st hl (by decide) (fun g _ => j0 g) n) fun E₁ k s' hI => ?_
  refine turnA (above hwr) W hC hDf mono (N := fun s₁ => R (.ok .next) s₁) hI (fun g h tk vs F l' j kp => fin g h tk vs F l' j kp) fun i g h tk vs v hi hk F hid st hp hl hsz j kp => ?_
  have hle := jlen _ _ _ j
  refine wpAny_mono (step E₁ i g h tk vs v hi F hid hp hl j kp _ ?_) (fun _ s₂ h₂ => h₂) fun _ _ x => x
  intro x g' h' tk' l' F' kk hj
  exact turnB (above hwr) W hC hDf mono hi hk hid st hl (by omega) kp (F'.sub (l' := []) fun k v e => by simp at e) kk hj

theorem turnB0 {M : Addr → Prop} (W : KTurns P0 w A target I fp wr n P Md St) (hC : C ∉ fp)
    (mono : ∀ i vs (g g' : Heap), J i vs g → (∀ b o, M b → g.get? b = some o → g'.get? b = some o) → J i vs g')
    {i tk2 : Nat} {g h g' h' : Heap} {vs : List Value} (hi : i < n) (hk : k = n - i)
    (hid : ∀ b o, b ≠ C → h.get? b = some o → g.get? b = some o) (st : St (i + 1) h) (hl : g.PlainList D vs.toArray) (hsz : vs.length < 2 ^ 20) (kp : ∀ b o, b ≠ D → b ∉ wr → g₀.get? b = some o → g.get? b = some o)
    (F' : Fx g' C h' l) (kk : ∀ b o, g.get? b = some o → g'.get? b = some o) (hj : J (i + 1) vs g') :
    ∃ m, m < k ∧ InvS s D C wr n St g₀ J l m { s with heap := h', toks := tk2 } := by
  have F3 := F'.re (h' := h') fun o e => e
  have up : ∀ b o, g'.get? b = some o → (h'.hide C).get? b = some o := fun b o e => (Heap.hide_ne _ (F'.ne e)).trans (F'.keep b o e)
  refine ⟨n - (i + 1), by rw [hk]; exact subLt hi, i + 1, h'.hide C, h', _, vs, rfl, rfl, ⟨hi, F3, fun b o hb e => (Heap.hide_ne _ hb).trans e, ?_, ?_, hsz, ?_, ?_⟩⟩
  · refine W.frame _ _ _ st fun b hb o e => ?_
    have hbC : b ≠ C := fun e => hC (e ▸ hb)
    exact F'.keep _ _ (kk _ _ (hid b o hbC e))
  · obtain ⟨m, ho⟩ := hl; exact ⟨m, up _ _ (kk _ _ ho)⟩
  · exact mono _ _ _ _ hj fun b o _ e => up _ _ e
  · exact fun b o hb hw e => up _ _ (kk _ _ (kp b o hb hw e))

theorem compL1f {elt iter c : Expr} {scope : Scope} {pos : Pos} {R : Result → Shared → Prop} (W : KTurns P0 w A target I fp wr n P Md St) (hC : C ∉ fp) (hDf : D ∉ fp) (hwr : ∀ b ∈ wr, b < D)
    (F : Fx g₀ C s.heap []) (st : St 0 s.heap) (hl : g₀.PlainList D ([] : List Value).toArray) (hn : n < 2 ^ 19)
    (J : Nat → List Value → Heap → Prop) (j0 : ∀ g, J 0 [] g) (jlen : ∀ i vs g, J i vs g → vs.length ≤ i)
    (mono : ∀ i vs (g g' : Heap), J i vs g → (∀ b o, D < b → g.get? b = some o → g'.get? b = some o) → J i vs g')
    (step : ∀ E₁ i g h tk vs v, i < n → Fx g C h [] → (∀ b o, b ≠ C → h.get? b = some o → g.get? b = some o) → P i v h → g.PlainList D vs.toArray → J i vs g → (∀ b o, b ≠ D → b ∉ wr → g₀.get? b = some o → g.get? b = some o) →
      ∀ (Kx : Value → Shared → Prop) (Ky : Shared → Prop), (∀ x g' h' tk' l', Fx g' C h' l' → (∀ b o, g.get? b = some o → g'.get? b = some o) → J (i + 1) (vs ++ [x]) g' → Kx x { s with heap := h', toks := tk' }) → (∀ g' h' tk' l', Fx g' C h' l' → (∀ b o, g.get? b = some o → g'.get? b = some o) → J (i + 1) vs g' → Ky { s with heap := h', toks := tk' }) →
      wpAny (MM w) A (assign target cenv v) (fun _ s₂ => wpAny (MM w) A (isTrue c cenv (eval c cenv)) (fun ok s₂' =>
        if ok = true then wpAny (MM w) A (eval elt cenv) Kx E₁ s₂'
        else Ky s₂') E₁ s₂) E₁ { s with heap := h, toks := tk })
    (fin : ∀ g h tk vs, Fx g C h [] → g.PlainList D vs.toArray → J n vs g → (∀ b o, b ≠ D → b ∉ wr → g₀.get? b = some o → g.get? b = some o) → R (.ok .next) { s with heap := h, toks := tk }) :
    codeAny (MM w) A (.compLoop (.ListComp elt [⟨target, iter, [c], 0⟩] scope pos) 0 (.ref I) (.ref D) cenv) R s := by
  refine compLoop1f (InvS s D C wr n St g₀ J []) n (inv0 F st hl (by decide) (fun g _ => j0 g) n) fun E₁ k s' hI => ?_
  refine turnA (above hwr) W hC hDf mono (N := fun s₁ => R (.ok .next) s₁) hI (fun g h tk vs F l' j kp => fin g h tk vs F l' j kp) fun i g h tk vs v hi hk F hid st hp hl hsz j kp => ?_
  have hle := jlen _ _ _ j
  refine wpAny_mono (step E₁ i g h tk vs v hi F hid hp hl j kp _ _ ?_ ?_) (fun _ s₂ h₂ => h₂) fun _ _ x => x
  · intro x g' h' tk' l' F' kk hj
    exact turnB (above hwr) W hC hDf mono hi hk hid st hl (by omega) kp (F'.sub (l' := []) fun k v e => by simp at e) kk hj
  · intro g' h' tk' l' F' kk hj
    exact turnB0 W hC mono hi hk hid st hl hsz kp (F'.sub (l' := []) fun k v e => by simp at e) kk hj

theorem turnB1 {M : Addr → Prop} (W : KTurns P0 w A target I fp wr n P Md St) (hC : C ∉ fp) (hDf : D ∉ fp)
    (mono : ∀ i vs (g g' : Heap), J i vs g → (∀ b o, M b → g.get? b = some o → g'.get? b = some o) → J i vs g')
    {i tk2 : Nat} {g h g' h' : Heap} {vs : List Value} (hi : i < n) (hk : k = n - i)
    (hid : ∀ b o, b ≠ C → h.get? b = some o → g.get? b = some o) (st : St (i + 1) h) (kp : ∀ b o, b ≠ D → b ∉ wr → g₀.get? b = some o → g.get? b = some o)
    (F' : Fx g' C h' l) (hl : g'.PlainList D vs.toArray) (hsz : vs.length < 2 ^ 20) (kk : ∀ b o, b ≠ D → g.get? b = some o → g'.get? b = some o) (hj : J (i + 1) vs g') :
    ∃ m, m < k ∧ InvS s D C wr n St g₀ J l m { s with heap := h', toks := tk2 } := by
  have F3 := F'.re (h' := h') fun o e => e
  have up : ∀ b o, g'.get? b = some o → (h'.hide C).get? b = some o := fun b o e => (Heap.hide_ne _ (F'.ne e)).trans (F'.keep b o e)
  refine ⟨n - (i + 1), by rw [hk]; exact subLt hi, i + 1, h'.hide C, h', _, vs, rfl, rfl, ⟨hi, F3, fun b o hb e => (Heap.hide_ne _ hb).trans e, ?_, ?_, hsz, ?_, ?_⟩⟩
  · refine W.frame _ _ _ st fun b hb o e => ?_
    have hbC : b ≠ C := fun e => hC (e ▸ hb)
    have hbD : b ≠ D := fun e => hDf (e ▸ hb)
    exact F'.keep _ _ (kk _ _ hbD (hid b o hbC e))
  · obtain ⟨m, ho⟩ := hl; exact ⟨m, up _ _ ho⟩
  · exact mono _ _ _ _ hj fun b o _ e => up _ _ e
  · exact fun b o hb hw e => up _ _ (kk _ _ hb (kp b o hb hw e))

/-- the inner clause of two -/
theorem compL2i {elt target0 iter0 iter : Expr} {scope : Scope} {pos : Pos} {R : Result → Shared → Prop} {vs₀ : List Value} (W : KTurns P0 w A target I fp wr n P Md St) (hC : C ∉ fp) (hDf : D ∉ fp) 
    (F : Fx g₀ C s.heap l) (st : St 0 s.heap) (hl : g₀.PlainList D vs₀.toArray) (hn : n + vs₀.length < 2 ^ 19)
    (J : Nat → List Value → Heap → Prop) (j0 : ∀ g, (∀ b o, g₀.get? b = some o → g.get? b = some o) → J 0 vs₀ g) (jlen : ∀ i vs g, J i vs g → vs.length ≤ vs₀.length + i)
    (mono : ∀ i vs (g g' : Heap), J i vs g → (∀ b o, b ≠ D → b ∉ wr → g.get? b = some o → g'.get? b = some o) → J i vs g')
    (step : ∀ E₁ i g h tk vs v, i < n → Fx g C h l → (∀ b o, b ≠ C → h.get? b = some o → g.get? b = some o) → P i v h → St (i + 1) h → g.PlainList D vs.toArray → J i vs g → (∀ b o, b ≠ D → b ∉ wr → g₀.get? b = some o → g.get? b = some o) →
      ∀ Kx : Value → Shared → Prop, (∀ x g' h' tk', Fx g' C h' l → (∀ b o, g.get? b = some o → g'.get? b = some o) → J (i + 1) (vs ++ [x]) g' → Kx x { s with heap := h', toks := tk' }) →
      wpAny (MM w) A (assign target cenv v) (fun _ s₂ => wpAny (MM w) A (eval elt cenv) Kx E₁ s₂) E₁ { s with heap := h, toks := tk })
    (fin : ∀ g h tk vs, Fx g C h l → g.PlainList D vs.toArray → J n vs g → (∀ b o, b ≠ D → b ∉ wr → g₀.get? b = some o → g.get? b = some o) → R (.ok .next) { s with heap := h, toks := tk }) :
    codeAny (MM w) A (.compLoop (.ListComp elt [⟨target0, iter0, [], 0⟩, ⟨target, iter, [], 0⟩] scope pos) 1 (.ref I) (.ref D) cenv) R s := by
  refine compLoop2i (InvS s D C wr n St g₀ J l) n (inv0 F st hl (by omega) j0 n) fun E₁ k s' hI => ?_
  refine turnA (M := fun b => b ≠ D ∧ b ∉ wr) (fun _ h => h) W hC hDf (fun i vs g g' hj hk => mono i vs g g' hj fun b o h1 h2 => hk b o ⟨h1, h2⟩) (N := fun s₁ => R (.ok .next) s₁) hI (fun g h tk vs F l' j kp => fin g h tk vs F l' j kp) fun i g h tk vs v hi hk F hid st hp hl hsz j kp => ?_
  have hle := jlen _ _ _ j
  refine wpAny_mono (step E₁ i g h tk vs v hi F hid hp st hl j kp _ ?_) (fun _ s₂ h₂ => h₂) fun _ _ x => x
  intro x g' h' tk' F' kk hj
  exact turnB (M := fun b => b ≠ D ∧ b ∉ wr) (fun _ h => h) W hC hDf (fun i vs g g' hj hk => mono i vs g g' hj fun b o h1 h2 => hk b o ⟨h1, h2⟩) hi hk hid st hl (by omega) kp F' kk hj
end
end
section
open PySem.W
theorem join_letL : ∀ sp : List Nat, Str.join ⟨#[]⟩ (sp.map lettersOf) = ⟨(letL sp).toArray⟩
  | [] => rfl
  | c :: r => by
    rw [List.map_cons, join_nil_cons, join_letL r]
    show _ = (⟨((lettersOf c).cps.toList ++ letL r).toArray⟩ : Str)
    rw [← str_app]
section
variable {w : World} {A : Around} {E : Value → Shared → Prop} {s : Shared} {mg mb : Str → Option Value}
theorem turnsName {target : Expr} {I : Addr} {fp wr : List Addr} {n : Nat} {P : Nat → Value → Prop} {St : Nat → Heap → Prop} (W : Walks P0 w A I fp wr n P St) (ht : ∀ v, letOwnedTupleGo target (.ref I) v = pure ()) :
    KTurns P0 w A target I fp wr n (fun i v _ => P i v) (fun i v h => P i v ∧ St (i + 1) h) St :=
  .ofWalks W fun _ v _ _ _ _ hq => wpAny_of_eq (ht v) hq

theorem Walks.selfOf {I : Addr} {fp wr : List Addr} {n : Nat} {P : Nat → Value → Prop} {St : Nat → Heap → Prop} (W : Walks P0 w A I fp wr n P St) (st : St 0 s.heap) : Self w A (.ref I) s :=
  fun _ _ _ _ k hq => W.self 0 _ _ _ (W.frame _ _ _ st fun b _ o e => k b o e) hq

theorem notIn_of {fp : List Addr} {n : Nat} {D : Addr} (h : ∀ b ∈ fp, b < n) (h2 : n ≤ D) : D ∉ fp := fun hm => absurd (h D hm) (Nat.not_lt.mpr h2)
theorem all1 {I : Addr} {n : Nat} (h : I < n) : ∀ b ∈ [I], b < n := fun b hb => by rw [List.mem_singleton.mp hb]; exact h
theorem lt_of_fp {fp : List Addr} {n : Nat} {D : Addr} (h : ∀ b ∈ fp, b < n) (h2 : n ≤ D) : ∀ b ∈ fp, b < D := fun b hb => Nat.lt_of_lt_of_le (h b hb) h2

theorem strIterX {g : Heap} {L : Addr} {l : List (String × Value)} {sp : List Nat} {t : Tok} {Q : Value → Shared → Prop} (F : Fx g L s.heap l)
    (h : ∀ I h' St, Fx g L h' l → (∀ A' : Around, A'.handled = none → Walks P0 w A' I [I] [I] sp.length (SignAt ⟨sp.toArray⟩) St) → St 0 h' → I < h'.objs.size → L ≠ I → g.get? I = none → Q (.ref I) { s with heap := h' }) :
    wpAny (MM w) A (pyIter (sv sp t)) Q E s := by
  refine wpAny_pyIter_str fun o St W st => ?_
  have hL : L ≠ s.heap.objs.size := by obtain ⟨m, hn, _⟩ := F.ns; exact Nat.ne_of_lt hn.lt
  refine h _ _ St (F.up (h' := s.heap.push o) fun b o e => Heap.get?_push_of_some _ e) (fun A' hA => by have := W A' hA; simpa using this) st (by rw [Heap.size_push]; exact Nat.lt_succ_self _) hL ?_
  · cases e : g.get? s.heap.objs.size with
    | none => rfl
    | some o => exact absurd (Heap.lt_size (F.keep _ _ e)) (Nat.lt_irrefl _)

set_option maxHeartbeats 4000000 in
theorem spec_key {fa : Addr} {sp : List Nat} {t : Tok} {Q : Value → Shared → Prop}
    (R : Rm A 4) (f : FnAt s.heap 20 fa) (G : Gd w mg mb s.heap) (hn : Nm sp)
    (h : ∀ h' tk t1 t2 kp, (∀ b o, s.heap.get? b = some o → h'.get? b = some o) → (∀ b o, s.heap.get? b = some o → b < kp) → h'.get? kp = some (tupObj [sv (letL sp) t1, .int sp.length t2]) → Q (.ref kp) { s with heap := h', toks := tk }) :
    wpAny (MM w) A (call (.ref fa) [sv sp t]) Q E s := by
  refine enter [("name", sv sp t)] ["name"] (i := 20) R f G.lim (fun L h₁ pm c' doc E' tk A' F R1 => ?_)
  refine wpAny_execs_cons ?_
  walk_at "S"
  refine tupF (L := L) ?_
  refine evs_cons ?_
  with_reducible refine methX PySem.F.plainAttrs_str PySem.F.slot_str_join PySem.F.type_str_join ?_
  walk_at "S"
  refine ⟨typeIs_str _ _ _, fun b e => (nomatch e), ?_⟩
  refine callW_bltF (first := [_]) ?_
  refine evs_cons ?_
  refine compE (L := L) (cl := []) (closureFor_none (by decide +kernel)) ?_
  walk_at "S"
  refine strIterX F fun I h2 St F2 W st hIlt hLI hIn => ?_
  refine ⟨_, _, F2, Walks.selfOf (W _ R1.h) st, fun D C g3 h3 tk3 F3 hD k3 nD nC lt => ?_⟩
  dsimp only at k3 nD nC lt
  have st3 : St 0 h3 := (W _ R1.h).frame _ _ _ st fun b _ o e => F3.keep _ _ (k3 b o e)
  have G3 : Gd w mg mb g3 := G.keeps fun b o e => k3 _ _ (F2.keep _ _ e)
  refine compL1 (turnsName (W _ R1.h) (by intro v; rfl)) (notIn_of (all1 hIlt) (Nat.le_trans lt.1 (Nat.le_of_lt lt.2))) (notIn_of (all1 hIlt) lt.1) (lt_of_fp (all1 hIlt) lt.1) F3 st3 hD (by have := hn.len; omega)
    (fun i vs _ => ∃ l : List (Str × Tok), vs = strValues l ∧ l.map (·.1) = (sp.take i).map lettersOf ∧ i ≤ sp.length) (fun _ => ⟨[], rfl, by simp, Nat.zero_le _⟩)
    (fun i vs _ ⟨l, e, e2, hi⟩ => by subst e; have := congrArg List.length e2; simp [strValues] at this ⊢; omega) (fun _ _ _ _ h _ => h) ?_ ?_
  · intro E₁ i g h tk vs v hi Fg _ hp hl hj kp Kx kx
    obtain ⟨c, u, hc, rfl⟩ := hp
    obtain ⟨ls, rfl, hls, _⟩ := hj
    have hgI : ∀ b o, s.heap.get? b = some o → g.get? b = some o := fun b o e => by
      have e2 := F2.keep b o e
      have hb := Heap.lt_size e2
      refine kp b o (Nat.ne_of_lt (Nat.lt_of_lt_of_le hb lt.1)) (fun hm => ?_) (k3 b o e2)
      have hbI := List.mem_singleton.mp hm
      subst hbI
      rw [hIn] at e; cases e
    have Gg := G.keeps hgI
    walk_at "S"
    refine callFn 19 (by assumption) Gg (fun b fb => ?_)
    walk_at "ev"
    rename_i FS
    refine evs_nil ⟨fun c o e _ => FS.keep c o e, ?_⟩
    refine spec_letters R1 (fb.keeps FS.keep) (Gg.keeps FS.keep) fun h7 tk7 t7 k7 => ?_
    refine kx _ g h7 tk7 _ (FS.up k7) (fun _ _ e => e) ⟨ls ++ [(lettersOf c, t7)], by simp [strValues], ?_, hi⟩
    have hc' : sp[i]? = some c := by simpa using hc
    rw [List.map_append, hls, List.take_succ, hc', List.map_append]; rfl
  · intro g hh tk vs Fg hl hj kp
    obtain ⟨ls, rfl, hls, _⟩ := hj
    rw [List.take_of_length_le (Nat.le_refl _)] at hls
    refine ⟨g, _, Fg, fun o e => ?_, fun g5 h5 F5 k5 => ?_⟩
    · exact kp L o (Nat.ne_of_lt (Nat.lt_of_lt_of_le (Heap.lt_size e) lt.1)) (fun hm => hLI (List.mem_singleton.mp hm)) (k3 _ _ e)
    · refine evs_nil ?_
      have hDL : D ≠ L := by
        obtain ⟨m, hnn, _⟩ := F2.ns
        exact Nat.ne_of_gt (Nat.lt_of_lt_of_le hnn.lt lt.1)
      have hl5 : g5.PlainList D (strValues ls).toArray := by obtain ⟨m, ho⟩ := hl; exact ⟨m, k5 _ _ hDL ho⟩
      have hg5 : ∀ b o, s.heap.get? b = some o → g5.get? b = some o := fun b o e => by
        have e2 := F2.keep b o e
        have hb := Heap.lt_size e2
        refine k5 b o (F2.ne e) (kp b o (Nat.ne_of_lt (Nat.lt_of_lt_of_le hb lt.1)) (fun hm => ?_) (k3 b o e2))
        have hbI := List.mem_singleton.mp hm
        subst hbI
        rw [hIn] at e; cases e
      refine SC.join (x := Str.ofString "") (texts := sp.map lettersOf) (F5.list hl5).isList hls ?_ fun t6 tk6 => ?_
      · unfold JoinOk
        rw [StrLaws.joinFits (B := 3)]
        · rfl
        · intro y hy
          obtain ⟨c, hc, rfl⟩ := List.mem_map.mp hy
          exact hn.sh c hc
        · have := hn.len
          simp only [List.length_map]
          show sp.length * 3 + sp.length * 0 ≤ _
          omega
      have ej : Txt.join (Str.ofString "") (sp.map lettersOf) = ⟨(letL sp).toArray⟩ := by
        have := join_closes (sep := Str.ofString "") (ys := sp.map lettersOf) rfl
        rw [eq_of_beq this]
        exact join_letL sp
      rw [ej]
      have G5 := G.keeps hg5
      refine evs_cons ?_
      walk_at "bl"
      walk_at "ev"
      refine evs_nil ?_
      refine P.len_str (x := ⟨sp.toArray⟩) (by have := hn.len; show ¬ ((sp.toArray.size : Nat) : Int) ≥ _; simp only [List.size_toArray]; omega) ?_
      rw [show ((⟨sp.toArray⟩ : Str).length) = sp.length by show sp.toArray.size = _; simp]
      refine evs_nil ⟨Nat.le_of_ble_eq_true rfl, _, _, F5, fun g7 h7 kp7 F7 e7 k7 n7 l7 => ?_⟩
      walk_at "S"
      exact h _ _ _ _ kp7 (fun b o e => F7.keep _ _ (k7 _ _ (hg5 _ _ e))) (fun b o e => l7 b o (F5.keep _ _ (hg5 _ _ e))) (F7.keep _ _ e7)
end
end
section
open PySem.W PySem.SeqAt
open PySem.AutoSeq1 (wpAny_loadPart')
open PySem.MeetsSeq PySem.MeetsSeq2 PySem.MeetsSeq3 PySem.SeqRoads2
noncomputable def lexB : List (Bool × Bool) → Bool → Bool
  | [], fin => fin
  | (e, t) :: r, fin => if e then lexB r fin else t

noncomputable def LtAt (A : Around) (s : Shared) (y x : Value) (b : Bool) : Prop :=
  ∀ (prog : Program) (w : World) (E : Value → Shared → Prop) (Q : Value → Shared → Prop), Q (.bool b) s → wpAny (model prog w) A (richCompare .Lt y x) Q E s

set_option maxHeartbeats 2000000 in
theorem tuple_ltAt (l b : Addr) (items items2 : Array Value) (n n2 : Nat) (dd dd2 : Option Addr) (sl sl2 : Array (Option Value)) (e t : Nat → Bool) :
    Meets (Builtin.«tuple.__lt__» ⟨[.ref l, .ref b], []⟩)
      (fun A R s => s.heap.get? l = some { cls := .type "tuple", dict := dd, data := .seq items n, slots := sl } ∧ s.heap.get? b = some { cls := .type "tuple", dict := dd2, data := .seq items2 n2, slots := sl2 } ∧
        (∀ j (h1 : j < items.size) (h2 : j < items2.size), EqAt A.in1 s items[j] items2[j] (e j)) ∧
        (∀ j (h1 : j < items.size) (h2 : j < items2.size), e j = false → LtAt A.in1 s items[j] items2[j] (t j)) ∧
        R (.ok (.ret (.bool (lexB ((List.range (min items.size items2.size)).map fun j => (e j, t j)) (decide (items.size < items2.size)))))) s) :=
  .of_wp fun prog w A R s h => by
    obtain ⟨hp, g, d, tk, os⟩ := s; obtain ⟨hl, hb, he, ht, h⟩ := h
    have f2 := AutoSeq1.sub_tuple_tuple
    have hZ : (items.toList.zip items2.toList).length = min items.size items2.size := by simp
    wp_walk using wpAny_loadPart' hl, wpAny_loadPart' hb, wpAny_forIn_list _ (fun rest b s' => b.1 = none ∧ s' = ⟨hp, g, d, tk, os⟩ ∧ ∃ i, rest = (items.toList.zip items2.toList).drop i ∧
      R (.ok (.ret (.bool (lexB (((List.range (min items.size items2.size)).drop i).map fun j => (e j, t j)) (decide (items.size < items2.size)))))) ⟨hp, g, d, tk, os⟩) _
    case turn =>
      rintro ⟨y, x⟩ rest b s' ⟨hb', rfl, i, hz, hR⟩
      have hlt : i < (items.toList.zip items2.toList).length := by
        rcases Nat.lt_or_ge i (items.toList.zip items2.toList).length with h' | h'
        · exact h'
        · rw [List.drop_of_length_le h'] at hz; cases hz
      have hm : i < min items.size items2.size := hZ ▸ hlt
      have h1 : i < items.size := Nat.lt_of_lt_of_le hm (Nat.min_le_left _ _)
      have h2 : i < items2.size := Nat.lt_of_lt_of_le hm (Nat.min_le_right _ _)
      rw [List.drop_eq_getElem_cons hlt] at hz
      injection hz with hyx hrest
      have hy : y = items[i] := by have := congrArg Prod.fst hyx; simpa using this
      have hx : x = items2[i] := by have := congrArg Prod.snd hyx; simpa using this
      subst hy hx
      have hd : (List.range (min items.size items2.size)).drop i = i :: (List.range (min items.size items2.size)).drop (i + 1) := by simp [List.drop_eq_getElem_cons, hm]
      rw [hd, List.map_cons, lexB] at hR
      refine wpAny_bind (he i h1 h2 prog w _ _ ?_)
      cases hy : e i with
      | true =>
        rw [hy] at hR
        wp_walk
        exact ⟨rfl, rfl, i + 1, hrest, by simpa using hR⟩
      | false =>
        rw [hy] at hR
        have hti := ht i h1 h2 hy prog w
        wp_walk using hti
        exact ⟨_, rfl, by simpa using hR⟩
    case fin =>
      rintro ⟨b1, b2⟩ s' ⟨hb', rfl, i, hz, hR⟩
      simp only at hb'
      subst hb'
      have hge : min items.size items2.size ≤ i := by
        rcases Nat.lt_or_ge i (items.toList.zip items2.toList).length with h' | h'
        · rw [List.drop_eq_getElem_cons h'] at hz; cases hz
        · exact hZ ▸ h'
      rw [List.drop_of_length_le (by simpa using hge)] at hR
      wp_walk
      exact ⟨_, rfl, by simpa [Builtin.Tuple.tupleCompareSizes, lexB] using hR⟩
    case h =>
      exact ⟨rfl, rfl, 0, rfl, by simpa using h⟩
section
variable {A : Around} {s : Shared}
theorem LtAt.tuples {l b : Addr} {items items2 : Array Value} {e t : Nat → Bool} (hl : IsTup s.heap l items) (hb : IsTup s.heap b items2) (hu : A.units < cLine)
    (he : ∀ j (h1 : j < items.size) (h2 : j < items2.size), EqAt A.in1 s items[j] items2[j] (e j))
    (ht : ∀ j (h1 : j < items.size) (h2 : j < items2.size), e j = false → LtAt A.in1 s items[j] items2[j] (t j)) :
    LtAt A s (.ref l) (.ref b) (lexB ((List.range (min items.size items2.size)).map fun j => (e j, t j)) (decide (items.size < items2.size))) := fun prog w E Q h => by
  obtain ⟨⟨cls, dd, data, sl⟩, ho, hc, n, hd⟩ := id hl
  obtain ⟨⟨cls2, dd2, data2, sl2⟩, ho2, hc2, n2, hd2⟩ := id hb
  simp only at hc hd hc2 hd2
  subst hc hd hc2 hd2
  exact richCompare_meets_room (op := .Lt) ⟨_, ho, rfl⟩ ⟨_, ho2, rfl⟩ PySem.F.slot_tuple_lt PySem.F.entry_tuple_lt (PySem.F.args_tuple_lt_2 _ _) (tuple_ltAt l b items items2 n n2 dd dd2 sl sl2 e t)
    ⟨ho, ho2, he, ht, show Value.bool _ ≠ Value.notImplemented ∧ Q (.bool _) s from ⟨(fun x => nomatch x), h⟩⟩ hu
theorem LtAt.strs (x y : List Nat) (t u : Tok) : LtAt A s (sv x t) (sv y u) (decide (x < y)) := fun prog w E Q h => by
  refine P.lt_str ?_
  simpa using h
theorem LtAt.ints (x y : Int) (t u : Tok) : LtAt A s (.int x t) (.int y u) (decide (x < y)) := fun prog w E Q h => P.lt_int h
theorem EqAt.strs (x y : List Nat) (t u : Tok) : EqAt A s (sv x t) (sv y u) (decide (x = y)) := fun prog w E Q h => by
  refine EqAt.str_str _ _ _ _ prog w E Q ?_
  have : ((⟨x.toArray⟩ : Str) == ⟨y.toArray⟩) = decide (x = y) := by
    by_cases e : x = y
    · subst e; simp
    · simp only [e, decide_false, beq_eq_false_iff_ne, ne_eq]
      intro e2; injection e2 with e2; exact e (by simpa using e2)
  rw [this]; exact h
theorem EqAt.nats (x y : Nat) (t u : Tok) : EqAt A s (.int x t) (.int y u) (decide (x = y)) := fun prog w E Q h => by
  refine EqAt.int_int _ _ _ _ prog w E Q ?_
  have : (((x : Nat) : Int) == ((y : Nat) : Int)) = decide (x = y) := by
    by_cases e : x = y
    · subst e; simp
    · simp only [e, decide_false, beq_eq_false_iff_ne, ne_eq]; omega
  rw [this]; exact h
end

/-! ## the two kinds -/
noncomputable abbrev T3 := List Nat × Nat × Nat
noncomputable def lt3 (a b : T3) : Bool := if a.1 = b.1 then (if a.2.1 = b.2.1 then decide (a.2.2 < b.2.2) else decide (a.2.1 < b.2.1)) else decide (a.1 < b.1)
noncomputable def At3 (h : Heap) (v : Value) (d : T3) : Prop := ∃ p t1 t2 t3, v = .ref p ∧ h.get? p = some (tupObj [sv d.1 t1, .int d.2.1 t2, .int d.2.2 t3])
theorem At3.ext {h h' : Heap} {v : Value} {d : T3} {p : Addr} (x : At3 h v d) (hp : ∀ o, h.get? p = some o → o.cls ≠ .type "tuple") (k : ∀ b o, b ≠ p → h.get? b = some o → h'.get? b = some o) : At3 h' v d := by
  obtain ⟨q, t1, t2, t3, rfl, e⟩ := x
  exact ⟨q, t1, t2, t3, rfl, k _ _ (by rintro rfl; exact hp _ e rfl) e⟩
theorem At3.keeps {h h' : Heap} {v : Value} {d : T3} (x : At3 h v d) (k : ∀ b o, h.get? b = some o → h'.get? b = some o) : At3 h' v d := by
  obtain ⟨q, t1, t2, t3, rfl, e⟩ := x
  exact ⟨q, t1, t2, t3, rfl, k _ _ e⟩

theorem At3.ltAt {A : Around} {s : Shared} {a b : Value} {x y : T3} (hu : A.units < cLine) (ha : At3 s.heap a x) (hb : At3 s.heap b y) : LtAt A s a b (lt3 x y) := by
  obtain ⟨p, t1, t2, t3, rfl, ea⟩ := ha
  obtain ⟨q, u1, u2, u3, rfl, eb⟩ := hb
  have := LtAt.tuples (A := A) (s := s) (e := fun j => match j with | 0 => decide (x.1 = y.1) | 1 => decide (x.2.1 = y.2.1) | _ => decide (x.2.2 = y.2.2))
    (t := fun j => match j with | 0 => decide (x.1 < y.1) | 1 => decide (x.2.1 < y.2.1) | _ => decide (x.2.2 < y.2.2)) (isTup_obj ea) (isTup_obj eb) hu ?_ ?_
  · have e : lexB ((List.range 3).map fun j => ((match j with | 0 => decide (x.1 = y.1) | 1 => decide (x.2.1 = y.2.1) | _ => decide (x.2.2 = y.2.2)), (match j with | 0 => decide (x.1 < y.1) | 1 => decide (x.2.1 < y.2.1) | _ => decide (x.2.2 < y.2.2)))) false = lt3 x y := by
      show lexB [(decide (x.1 = y.1), decide (x.1 < y.1)), (decide (x.2.1 = y.2.1), decide (x.2.1 < y.2.1)), (decide (x.2.2 = y.2.2), decide (x.2.2 < y.2.2))] false = _
      unfold lt3
      by_cases e1 : x.1 = y.1 <;> by_cases e2 : x.2.1 = y.2.1 <;> by_cases e3 : x.2.2 = y.2.2 <;> simp [lexB, e1, e2, e3]
    rw [← e]
    exact this
  · intro j h1 h2
    match j, h1, h2 with
    | 0, _, _ => exact EqAt.strs _ _ _ _
    | 1, _, _ => exact EqAt.nats _ _ _ _
    | 2, _, _ => exact EqAt.nats _ _ _ _
  · intro j h1 h2 _
    match j, h1, h2 with
    | 0, _, _ => exact LtAt.strs _ _ _ _
    | 1, _, _ => have := LtAt.ints (A := A.in1) (s := s) (x.2.1 : Int) (y.2.1 : Int) t2 u2; simpa using this
    | 2, _, _ => have := LtAt.ints (A := A.in1) (s := s) (x.2.2 : Int) (y.2.2 : Int) t3 u3; simpa using this

noncomputable def K3 (w : World) : Kind w where
  D := T3
  At := At3
  lt := lt3
  ext := At3.ext
  keeps := At3.keeps
  cmp := fun R ha hb h => (At3.ltAt (by have := R.u; show _ < 9900; omega) ha hb) _ _ _ _ (h _)

noncomputable abbrev T2 := List Nat × Nat
noncomputable def lt2 (a b : T2) : Bool := if a.1 = b.1 then decide (a.2 < b.2) else decide (a.1 < b.1)
noncomputable def At2 (h : Heap) (v : Value) (d : T2) : Prop := ∃ p t1 t2, v = .ref p ∧ h.get? p = some (tupObj [sv d.1 t1, .int d.2 t2])
theorem At2.ext {h h' : Heap} {v : Value} {d : T2} {p : Addr} (x : At2 h v d) (hp : ∀ o, h.get? p = some o → o.cls ≠ .type "tuple") (k : ∀ b o, b ≠ p → h.get? b = some o → h'.get? b = some o) : At2 h' v d := by
  obtain ⟨q, t1, t2, rfl, e⟩ := x
  exact ⟨q, t1, t2, rfl, k _ _ (by rintro rfl; exact hp _ e rfl) e⟩
theorem At2.keeps {h h' : Heap} {v : Value} {d : T2} (x : At2 h v d) (k : ∀ b o, h.get? b = some o → h'.get? b = some o) : At2 h' v d := by
  obtain ⟨q, t1, t2, rfl, e⟩ := x
  exact ⟨q, t1, t2, rfl, k _ _ e⟩
theorem At2.ltAt {A : Around} {s : Shared} {a b : Value} {x y : T2} (hu : A.units < cLine) (ha : At2 s.heap a x) (hb : At2 s.heap b y) : LtAt A s a b (lt2 x y) := by
  obtain ⟨p, t1, t2, rfl, ea⟩ := ha
  obtain ⟨q, u1, u2, rfl, eb⟩ := hb
  have := LtAt.tuples (A := A) (s := s) (e := fun j => match j with | 0 => decide (x.1 = y.1) | _ => decide (x.2 = y.2))
    (t := fun j => match j with | 0 => decide (x.1 < y.1) | _ => decide (x.2 < y.2)) (isTup_obj ea) (isTup_obj eb) hu ?_ ?_
  · have e : lexB ((List.range 2).map fun j => ((match j with | 0 => decide (x.1 = y.1) | _ => decide (x.2 = y.2)), (match j with | 0 => decide (x.1 < y.1) | _ => decide (x.2 < y.2)))) false = lt2 x y := by
      show lexB [(decide (x.1 = y.1), decide (x.1 < y.1)), (decide (x.2 = y.2), decide (x.2 < y.2))] false = _
      unfold lt2
      by_cases e1 : x.1 = y.1 <;> by_cases e2 : x.2 = y.2 <;> simp [lexB, e1, e2]
    rw [← e]
    exact this
  · intro j h1 h2
    match j, h1, h2 with
    | 0, _, _ => exact EqAt.strs _ _ _ _
    | 1, _, _ => exact EqAt.nats _ _ _ _
  · intro j h1 h2 _
    match j, h1, h2 with
    | 0, _, _ => exact LtAt.strs _ _ _ _
    | 1, _, _ => have := LtAt.ints (A := A.in1) (s := s) (x.2 : Int) (y.2 : Int) t2 u2; simpa using this
theorem At2.det {h : Heap} {v : Value} {x y : T2} (a : At2 h v x) (b : At2 h v y) : x = y := by
  obtain ⟨p, t1, t2, rfl, ea⟩ := a
  obtain ⟨q, u1, u2, e, eb⟩ := b
  cases e
  rw [ea] at eb
  have := Option.some.inj eb
  simp only [tupObj, sv, Obj.mk.injEq, Data.seq.injEq] at this
  simp at this
  obtain ⟨⟨e1, _⟩, e2, _⟩ := this
  exact Prod.ext (by simpa using e1) (by omega)
theorem At2.eqAt {A : Around} {s : Shared} {a b : Value} {x y : T2} (hu : A.units < cLine) (ha : At2 s.heap a x) (hb : At2 s.heap b y) : EqAt A s a b (decide (x = y)) := by
  by_cases hab : a = b
  · subst hab
    have := ha.det hb
    subst this
    simpa using EqAt.same (A := A) (s := s) a
  obtain ⟨p, t1, t2, rfl, ea⟩ := ha
  obtain ⟨q, u1, u2, rfl, eb⟩ := hb
  refine EqAt.of_refs (fun e => hab (by rw [e])) ?_
  have := RcAt.tuples (A := A) (s := s) (e := fun j => match j with | 0 => decide (x.1 = y.1) | _ => decide (x.2 = y.2)) (isTup_obj ea) (isTup_obj eb) hu ?_
  · have e : ((List.range 2).all (fun j => match j with | 0 => decide (x.1 = y.1) | _ => decide (x.2 = y.2)) && (2 == 2)) = decide (x = y) := by
      show (decide (x.1 = y.1) && (decide (x.2 = y.2) && true) && true) = _
      by_cases e1 : x.1 = y.1 <;> by_cases e2 : x.2 = y.2 <;> simp [e1, e2, Prod.ext_iff]
    rw [← e]
    exact this
  · intro j h1 h2
    match j, h1, h2 with
    | 0, _, _ => exact EqAt.strs _ _ _ _
    | 1, _, _ => exact EqAt.nats _ _ _ _

noncomputable abbrev TE := T2 × Nat × List Nat
noncomputable def ltE (a b : TE) : Bool := if a.1 = b.1 then (if a.2.1 = b.2.1 then decide (a.2.2 < b.2.2) else decide (a.2.1 < b.2.1)) else lt2 a.1 b.1
noncomputable def AtE (h : Heap) (v : Value) (d : TE) : Prop := ∃ p kv t2 t3, v = .ref p ∧ h.get? p = some (tupObj [kv, .int d.2.1 t2, sv d.2.2 t3]) ∧ At2 h kv d.1
theorem AtE.ext {h h' : Heap} {v : Value} {d : TE} {p : Addr} (x : AtE h v d) (hp : ∀ o, h.get? p = some o → o.cls ≠ .type "tuple") (k : ∀ b o, b ≠ p → h.get? b = some o → h'.get? b = some o) : AtE h' v d := by
  obtain ⟨q, kv, t2, t3, rfl, e, a⟩ := x
  exact ⟨q, kv, t2, t3, rfl, k _ _ (by rintro rfl; exact hp _ e rfl) e, a.ext hp k⟩
theorem AtE.keeps {h h' : Heap} {v : Value} {d : TE} (x : AtE h v d) (k : ∀ b o, h.get? b = some o → h'.get? b = some o) : AtE h' v d := by
  obtain ⟨q, kv, t2, t3, rfl, e, a⟩ := x
  exact ⟨q, kv, t2, t3, rfl, k _ _ e, a.keeps k⟩
theorem AtE.ltAt {A : Around} {s : Shared} {a b : Value} {x y : TE} (hu : A.units + 1 < cLine) (ha : AtE s.heap a x) (hb : AtE s.heap b y) : LtAt A s a b (ltE x y) := by
  obtain ⟨p, kv, t2, t3, rfl, ea, ka⟩ := ha
  obtain ⟨q, lv, u2, u3, rfl, eb, kb⟩ := hb
  have := LtAt.tuples (A := A) (s := s) (e := fun j => match j with | 0 => decide (x.1 = y.1) | 1 => decide (x.2.1 = y.2.1) | _ => decide (x.2.2 = y.2.2))
    (t := fun j => match j with | 0 => lt2 x.1 y.1 | 1 => decide (x.2.1 < y.2.1) | _ => decide (x.2.2 < y.2.2)) (isTup_obj ea) (isTup_obj eb) (by omega) ?_ ?_
  · have e : lexB ((List.range 3).map fun j => ((match j with | 0 => decide (x.1 = y.1) | 1 => decide (x.2.1 = y.2.1) | _ => decide (x.2.2 = y.2.2)), (match j with | 0 => lt2 x.1 y.1 | 1 => decide (x.2.1 < y.2.1) | _ => decide (x.2.2 < y.2.2)))) false = ltE x y := by
      show lexB [(decide (x.1 = y.1), lt2 x.1 y.1), (decide (x.2.1 = y.2.1), decide (x.2.1 < y.2.1)), (decide (x.2.2 = y.2.2), decide (x.2.2 < y.2.2))] false = _
      unfold ltE
      by_cases e1 : x.1 = y.1 <;> by_cases e2 : x.2.1 = y.2.1 <;> by_cases e3 : x.2.2 = y.2.2 <;> simp [lexB, e1, e2, e3] <;> exact List.lt_irrefl _
    rw [← e]
    exact this
  · intro j h1 h2
    match j, h1, h2 with
    | 0, _, _ => exact At2.eqAt (A := A.in1) hu ka kb
    | 1, _, _ => exact EqAt.nats _ _ _ _
    | 2, _, _ => exact EqAt.strs _ _ _ _
  · intro j h1 h2 _
    match j, h1, h2 with
    | 0, _, _ => exact At2.ltAt (A := A.in1) hu ka kb
    | 1, _, _ => have := LtAt.ints (A := A.in1) (s := s) (x.2.1 : Int) (y.2.1 : Int) t2 u2; simpa using this
    | 2, _, _ => exact LtAt.strs _ _ _ _

noncomputable def KE' (w : World) : Kind w where
  D := TE
  At := AtE
  lt := ltE
  ext := AtE.ext
  keeps := AtE.keeps
  cmp := fun R ha hb h => (AtE.ltAt (by have := R.u; show _ < 9900; omega) ha hb) _ _ _ _ (h _)
end
section
open PySem.W
/-! the ask-tree of the sort, read with an order -/
noncomputable def kasP (lt : Nat → Nat → Bool) (n : Nat) {α : Type} (post : α → Prop) : KasT α → Prop
  | .ret a => post a
  | .ask i j k => i < n ∧ j < n ∧ kasP lt n post (k (lt i j))

theorem kasP_mono {lt : Nat → Nat → Bool} {n : Nat} {α : Type} {P P' : α → Prop} (h : ∀ a, P a → P' a) : ∀ t : KasT α, kasP lt n P t → kasP lt n P' t
  | .ret a, x => h a x
  | .ask i j k, ⟨a, b, c⟩ => ⟨a, b, kasP_mono h (k (lt i j)) c⟩
theorem kasP_bind {lt : Nat → Nat → Bool} {n : Nat} {α β : Type} {P : β → Prop} {f : α → KasT β} : ∀ t : KasT α, kasP lt n (fun a => kasP lt n P (f a)) t → kasP lt n P (t.bind f)
  | .ret _, x => x
  | .ask i j k, ⟨a, b, c⟩ => ⟨a, b, kasP_bind (k (lt i j)) c⟩

structure SW (lt : Nat → Nat → Bool) : Prop where
  irr : ∀ i, lt i i = false
  tr : ∀ i j k, lt i j = true → lt j k = true → lt i k = true
  nt : ∀ i j k, lt i j = false → lt j k = false → lt i k = false

section
variable {lt : Nat → Nat → Bool} (W : SW lt)
include W
theorem SW.asym {i j : Nat} (h : lt i j = true) : lt j i = false := by
  cases e : lt j i with
  | false => rfl
  | true => have := W.tr i j i h e; rw [W.irr] at this; cases this
theorem SW.lt_of_le {i j k : Nat} (h : lt i j = true) (h2 : lt k j = false) : lt i k = true := by
  cases e : lt i k with
  | true => rfl
  | false => have := W.nt i k j e h2; rw [h] at this; cases this
theorem SW.le_lt {i j k : Nat} (h : lt j i = false) (h2 : lt j k = true) : lt i k = true := by
  cases e : lt i k with
  | true => rfl
  | false => have := W.nt j i k h e; rw [h2] at this; cases this
end

noncomputable def bef (lt : Nat → Nat → Bool) (i j : Nat) : Prop := lt i j = true ∨ (lt j i = false ∧ i < j)
theorem bef.le {lt : Nat → Nat → Bool} (W : SW lt) {i j : Nat} (h : bef lt i j) : lt j i = false := by
  rcases h with h | h
  · exact W.asym h
  · exact h.1

noncomputable def gt (p : Array Nat) (k : Nat) : Nat := p.getD k 0
noncomputable def SB (lt : Nat → Nat → Bool) (p : Array Nat) (b : Nat) : Prop := ∀ i j, i < j → j < b → bef lt (gt p i) (gt p j)
noncomputable def RS (lt : Nat → Nat → Bool) (p : Array Nat) (b : Nat) : Prop := ∀ i j, i < j → j < b → bef lt (gt p j) (gt p i)
/-- the rest lies as it lay -/
structure Ok (n : Nat) (p : Array Nat) (m : Nat) : Prop where
  sz : p.size = n
  perm : p.toList.Perm (List.range n)
  up : ∀ i k, i < k → m ≤ k → k < n → gt p i < gt p k

theorem Ok.lt {n : Nat} {p : Array Nat} {m : Nat} (o : Ok n p m) {i : Nat} (hi : i < n) : gt p i < n := by
  have h : i < p.size := o.sz ▸ hi
  have e : gt p i = p[i] := by simp [gt, Array.getD, h]
  rw [e]
  have : p[i] ∈ p.toList := by simp
  exact List.mem_range.mp (o.perm.mem_iff.mp this)
theorem Ok.mono {n : Nat} {p : Array Nat} {m m' : Nat} (o : Ok n p m) (h : m ≤ m') : Ok n p m' := ⟨o.sz, o.perm, fun i k a b c => o.up i k a (Nat.le_trans h b) c⟩

theorem gt_rev {p : Array Nat} {i j : Nat} (hj : j ≤ p.size) (k : Nat) : gt (kas_rev p i j) k = if i ≤ k ∧ k < j then gt p (i + j - 1 - k) else gt p k := by
  have h := getElem?_mirror_all (xs := p) (i := i) hj k
  have e : ∀ (q : Array Nat) k, gt q k = (q[k]?).getD 0 := fun q k => by simp [gt, Array.getD_eq_getD_getElem?]
  rw [e, kas_rev, h]
  split <;> rw [e]
theorem gt_bub {p : Array Nat} {src d : Nat} (hs : src < p.size) (hd : d ≤ src) (k : Nat) : gt (bubble p src d) k = if k = src - d then gt p src else if src - d < k ∧ k ≤ src then gt p (k - 1) else gt p k := by
  have h := getElem?_bubble hs d hd k
  have e : ∀ (q : Array Nat) k, gt q k = (q[k]?).getD 0 := fun q k => by simp [gt, Array.getD_eq_getD_getElem?]
  rw [e, h]
  split
  · rw [e]
  · split <;> rw [e]
theorem Ok.rev {n : Nat} {p : Array Nat} {m i j : Nat} (o : Ok n p m) (hj : j ≤ m) (hm : m ≤ n) : Ok n (kas_rev p i j) m := by
  have hs : j ≤ p.size := by rw [o.sz]; omega
  refine ⟨by rw [kas_rev_size]; exact o.sz, ((mirror_perm p i j _).toList).trans o.perm, fun a k h1 h2 h3 => ?_⟩
  rw [gt_rev hs, gt_rev hs]
  rw [if_neg (c := i ≤ k ∧ k < j) (by omega)]
  split
  · exact o.up _ _ (by omega) h2 h3
  · exact o.up _ _ h1 h2 h3
theorem Ok.bub {n : Nat} {p : Array Nat} {k d : Nat} (o : Ok n p k) (hd : d ≤ k) (hk : k < n) : Ok n (bubble p k d) (k + 1) := by
  have hs : k < p.size := by rw [o.sz]; exact hk
  refine ⟨by rw [bubble_size]; exact o.sz, ((bubble_perm p k d).toList).trans o.perm, fun a j h1 h2 h3 => ?_⟩
  rw [gt_bub hs hd, gt_bub hs hd]
  rw [if_neg (c := j = k - d) (by omega), if_neg (c := k - d < j ∧ j ≤ k) (by omega)]
  split
  · exact o.up _ _ (by omega) (by omega) h3
  · split
    · exact o.up _ _ (by omega) (by omega) h3
    · exact o.up _ _ h1 (by omega) h3

section
variable {lt : Nat → Nat → Bool} (W : SW lt)
include W

theorem bef_tr {i j k : Nat} (h1 : bef lt i j) (h2 : bef lt j k) : bef lt i k := by
  rcases h1 with h1 | ⟨h1, l1⟩
  · exact .inl (W.lt_of_le h1 (h2.le W))
  · rcases h2 with h2 | ⟨h2, l2⟩
    · exact .inl (W.le_lt h1 h2)
    · exact .inr ⟨W.nt _ _ _ h2 h1, Nat.lt_trans l1 l2⟩

theorem asc_ok {n : Nat} {p : Array Nat} : ∀ (f m : Nat), Ok n p m → 1 ≤ m → m + f ≤ n → SB lt p m → kasP lt n (fun r => m ≤ r ∧ r ≤ m + f ∧ SB lt p r ∧ (r < m + f → lt (gt p r) (gt p (r - 1)) = true)) (kas_asc p f m)
  | 0, m, _, _, _, s => ⟨Nat.le_refl _, Nat.le_refl _, s, fun h => absurd h (Nat.lt_irrefl _)⟩
  | f + 1, m, o, h1, hn, s => by
    unfold kas_asc
    refine ⟨o.lt (by omega), o.lt (by omega), ?_⟩
    show kasP lt n _ (if lt (gt p m) (gt p (m - 1)) = true then _ else _)
    cases e : lt (gt p m) (gt p (m - 1)) with
    | true => exact ⟨Nat.le_refl _, by omega, s, fun _ => e⟩
    | false =>
      have s2 : SB lt p (m + 1) := by
        intro i j hij hj
        rcases Nat.lt_or_ge j m with h | h
        · exact s i j hij h
        · have : j = m := by omega
          subst this
          have hb : bef lt (gt p (j - 1)) (gt p j) := .inr ⟨e, o.up _ _ (by omega) (Nat.le_refl _) (by omega)⟩
          rcases Nat.lt_or_ge i (j - 1) with h' | h'
          · exact bef_tr W (s i (j - 1) h' (by omega)) hb
          · have : i = j - 1 := by omega
            subst this; exact hb
      exact kasP_mono (fun r ⟨a, b, c, d⟩ => ⟨by omega, by omega, c, fun h => d (by omega)⟩) _ (asc_ok f (m + 1) (o.mono (by omega)) (by omega) (by omega) s2)

theorem place_ok {n k : Nat} {p : Array Nat} (o : Ok n p k) (hk : k < n) (s : SB lt p k) : ∀ (f l r : Nat), r - l ≤ f → l ≤ r → r ≤ k → (∀ i, i < l → lt (gt p k) (gt p i) = false) → (∀ i, r ≤ i → i < k → lt (gt p k) (gt p i) = true) →
    kasP lt n (fun m => m ≤ k ∧ (∀ i, i < m → lt (gt p k) (gt p i) = false) ∧ (∀ i, m ≤ i → i < k → lt (gt p k) (gt p i) = true)) (kas_place p k f l r)
  | 0, l, r, hf, hlr, hr, a, b => ⟨by omega, a, fun i h1 h2 => b i (by omega) h2⟩
  | f + 1, l, r, hf, hlr, hr, a, b => by
    unfold kas_place
    split
    · exact ⟨by omega, a, fun i h1 h2 => b i (by omega) h2⟩
    · refine ⟨o.lt hk, o.lt (by omega), ?_⟩
      show kasP lt n _ (if lt (gt p k) (gt p ((l + r) / 2)) = true then _ else _)
      cases e : lt (gt p k) (gt p ((l + r) / 2)) with
      | true =>
        refine place_ok o hk s f l ((l + r) / 2) (by omega) (by omega) (by omega) a fun i h1 h2 => ?_
        rcases Nat.lt_or_ge ((l + r) / 2) i with h | h
        · exact W.lt_of_le e ((s _ i h h2).le W)
        · have : i = (l + r) / 2 := by omega
          subst this; exact e
      | false =>
        refine place_ok o hk s f ((l + r) / 2 + 1) r (by omega) (by omega) hr (fun i h1 => ?_) b
        rcases Nat.lt_or_ge i ((l + r) / 2) with h | h
        · exact W.nt _ _ _ e ((s i _ h (by omega)).le W)
        · have : i = (l + r) / 2 := by omega
          subst this; exact e

theorem bin_ok {n : Nat} : ∀ (f : Nat) (p : Array Nat) (k : Nat), f + k = n → Ok n p k → SB lt p k → kasP lt n (fun q => Ok n q n ∧ SB lt q n) (kas_bin f p k)
  | 0, p, k, hk, o, s => by
    have : k = n := by omega
    subst this; exact ⟨o, s⟩
  | f + 1, p, k, hk, o, s => by
    unfold kas_bin
    have hkn : k < n := by omega
    refine kasP_bind _ (kasP_mono (fun l ⟨h1, h2, h3⟩ => ?_) _ (place_ok W o hkn s k 0 k (by omega) (by omega) (Nat.le_refl _) (fun i h => absurd h (Nat.not_lt_zero _)) fun i h1 h2 => absurd h2 (by omega)))
    have hs : k < p.size := by rw [o.sz]; exact hkn
    refine bin_ok f _ (k + 1) (by omega) (o.bub (by omega) hkn) ?_
    intro i j hij hj
    rw [gt_bub hs (by omega), gt_bub hs (by omega), show k - (k - l) = l by omega]
    have cmpl : ∀ i, i < l → bef lt (gt p i) (gt p k) := fun i hi => .inr ⟨h2 i hi, o.up _ _ (by omega) (Nat.le_refl _) hkn⟩
    repeat' split
    all_goals first
      | (exfalso; omega)
      | exact .inl (h3 _ (by omega) (by omega))
      | exact cmpl _ (by omega)
      | exact s _ _ (by omega) (by omega)
end

structure DI (lt : Nat → Nat → Bool) (n : Nat) (p : Array Nat) (m q : Nat) : Prop where
  h1 : q + 1 ≤ m
  hn : m ≤ n
  ok : Ok n p m
  a1 : ∀ i j, i < j → j < m - (q + 1) → bef lt (gt p j) (gt p i)
  a2 : ∀ i j, i < m - (q + 1) → m - (q + 1) ≤ j → j < m → lt (gt p j) (gt p i) = true
  a3 : ∀ i j, m - (q + 1) ≤ i → i < j → j < m → lt (gt p i) (gt p j) = false ∧ lt (gt p j) (gt p i) = false ∧ gt p i < gt p j

section
variable {lt : Nat → Nat → Bool} (W : SW lt)
include W

theorem DI.min {n : Nat} {p : Array Nat} {m q : Nat} (d : DI lt n p m q) (k : Nat) (hk : k < m) : lt (gt p k) (gt p (m - 1)) = false := by
  have := d.h1
  rcases Nat.lt_or_ge k (m - (q + 1)) with h | h
  · exact W.asym (d.a2 k (m - 1) h (by omega) (by omega))
  · rcases Nat.lt_or_ge k (m - 1) with h2 | h2
    · exact (d.a3 k (m - 1) h h2 (by omega)).1
    · rw [show k = m - 1 by omega]; exact W.irr _

omit W in
theorem DI.rs {n : Nat} {p : Array Nat} {m q : Nat} (d : DI lt n p m q) : RS lt (if q > 0 then kas_rev p (m - (q + 1)) m else p) m := by
  have hq := d.h1
  have hs : m ≤ p.size := by rw [d.ok.sz]; exact d.hn
  intro i j hij hj
  by_cases h0 : q > 0
  · rw [if_pos h0, gt_rev hs, gt_rev hs]
    by_cases hi : m - (q + 1) ≤ i
    · rw [if_pos (by omega), if_pos (by omega)]
      have := d.a3 (m - (q + 1) + m - 1 - j) (m - (q + 1) + m - 1 - i) (by omega) (by omega) (by omega)
      exact .inr ⟨this.2.1, this.2.2⟩
    · rw [if_neg (c := m - (q + 1) ≤ i ∧ i < m) (by omega)]
      by_cases hj2 : m - (q + 1) ≤ j
      · rw [if_pos (by omega)]
        exact .inl (d.a2 i _ (by omega) (by omega) (by omega))
      · rw [if_neg (by omega)]
        exact d.a1 i j hij (by omega)
  · rw [if_neg h0]
    have : q = 0 := by omega
    subst this
    rcases Nat.lt_or_ge j (m - 1) with h | h
    · exact d.a1 i j hij h
    · exact .inl (d.a2 i j (by omega) h hj)

omit W in
theorem DI.ok' {n : Nat} {p : Array Nat} {m q : Nat} (d : DI lt n p m q) : Ok n (if q > 0 then kas_rev p (m - (q + 1)) m else p) m := by
  split
  · exact d.ok.rev (Nat.le_refl _) d.hn
  · exact d.ok

theorem DI.next {n : Nat} {p : Array Nat} {m q : Nat} (d : DI lt n p m q) (hm : m < n) (e : lt (gt p m) (gt p (m - 1)) = true) : DI lt n (if q > 0 then kas_rev p (m - (q + 1)) m else p) (m + 1) 0 := by
  have hs : m ≤ p.size := by rw [d.ok.sz]; exact d.hn
  have hq := d.h1
  refine ⟨by omega, hm, d.ok'.mono (by omega), fun i j h1 h2 => d.rs i j h1 (by omega), fun i j h1 h2 h3 => ?_, fun i j h1 h2 h3 => by omega⟩
  have hj : j = m := by omega
  subst hj
  have key : ∀ k, k < j → lt (gt p j) (gt p k) = true := fun k hk => W.lt_of_le e (d.min W k hk)
  split
  · rw [gt_rev hs, gt_rev hs, if_neg (c := j - (q + 1) ≤ j ∧ j < j) (by omega)]
    split
    · exact key _ (by omega)
    · exact key _ (by omega)
  · exact key _ (by omega)

theorem DI.same {n : Nat} {p : Array Nat} {m q : Nat} (d : DI lt n p m q) (hm : m < n) (e : lt (gt p m) (gt p (m - 1)) = false) (e2 : lt (gt p (m - 1)) (gt p m) = false) : DI lt n p (m + 1) (q + 1) := by
  have hq := d.h1
  have ea : m + 1 - (q + 1 + 1) = m - (q + 1) := by omega
  refine ⟨by omega, hm, d.ok.mono (by omega), fun i j h1 h2 => d.a1 i j h1 (by omega), fun i j h1 h2 h3 => ?_, fun i j h1 h2 h3 => ?_⟩
  · rw [ea] at h1 h2
    rcases Nat.lt_or_ge j m with h | h
    · exact d.a2 i j h1 h2 h
    · have : j = m := by omega
      subst this
      exact W.le_lt e2 (d.a2 i (j - 1) h1 (by omega) (by omega))
  · rw [ea] at h1
    rcases Nat.lt_or_ge j m with h | h
    · exact d.a3 i j h1 h2 h
    · have : j = m := by omega
      subst this
      have up := d.ok.up i j h2 (Nat.le_refl _) hm
      rcases Nat.lt_or_ge i (j - 1) with h' | h'
      · have := d.a3 i (j - 1) h1 h' (by omega)
        exact ⟨W.nt _ _ _ this.1 e2, W.nt _ _ _ e this.2.1, up⟩
      · have : i = j - 1 := by omega
        subst this
        exact ⟨e2, e, up⟩

theorem desc_ok {n : Nat} : ∀ (f : Nat) (p : Array Nat) (m q : Nat), DI lt n p m q → m + f ≤ n → kasP lt n (fun r => DI lt n r.1 r.2.1 r.2.2) (kas_desc f p m q)
  | 0, p, m, q, d, _ => d
  | f + 1, p, m, q, d, hf => by
    have hq := d.h1
    unfold kas_desc
    refine ⟨d.ok.lt (by omega), d.ok.lt (by omega), ?_⟩
    show kasP lt n _ (if lt (gt p m) (gt p (m - 1)) = true then _ else _)
    cases e : lt (gt p m) (gt p (m - 1)) with
    | true =>
      rw [if_pos rfl]
      have d2 := d.next W (by omega) e
      by_cases h0 : q > 0
      · rw [if_pos h0] at d2 ⊢
        exact desc_ok f _ _ _ d2 (by omega)
      · rw [if_neg h0] at d2 ⊢
        exact desc_ok f _ _ _ d2 (by omega)
    | false =>
      rw [if_neg Bool.false_ne_true]
      refine ⟨d.ok.lt (by omega), d.ok.lt (by omega), ?_⟩
      show kasP lt n _ (if lt (gt p (m - 1)) (gt p m) = true then _ else _)
      cases e2 : lt (gt p (m - 1)) (gt p m) with
      | true => exact d
      | false => exact desc_ok f _ _ _ (d.same W (by omega) e e2) (by omega)

noncomputable def CP (lt : Nat → Nat → Bool) (n : Nat) (r : Nat × Array Nat) : Prop := 1 ≤ r.1 ∧ r.1 ≤ n ∧ Ok n r.2 r.1 ∧ SB lt r.2 r.1

theorem tail3_ok {n m : Nat} {p : Array Nat} (o : Ok n p m) (h1 : 1 ≤ m) (hm : m ≤ n) (r : RS lt p m) : kasP lt n (CP lt n) (kas_tail3 m n p) := by
  have hs : m ≤ p.size := by rw [o.sz]; exact hm
  have o2 := o.rev (i := 0) (Nat.le_refl m) hm
  have s2 : SB lt (kas_rev p 0 m) m := by
    intro i j hij hj
    rw [gt_rev hs, gt_rev hs, if_pos (by omega), if_pos (by omega)]
    exact r _ _ (by omega) (by omega)
  unfold kas_tail3
  refine kasP_bind _ (kasP_mono (fun k ⟨a, b, c, _⟩ => ?_) _ (asc_ok W (n - m) m o2 h1 (by omega) s2))
  exact ⟨Nat.le_trans h1 a, by show k ≤ n; omega, o2.mono a, c⟩

theorem descPart_ok {n r : Nat} {p : Array Nat} (d : DI lt n p (r + 1) 0) : kasP lt n (CP lt n) (kas_descPart r n p) := by
  have := d.hn
  unfold kas_descPart
  refine kasP_bind _ (kasP_mono (fun x d2 => ?_) _ (desc_ok W (n - (r + 1)) p (r + 1) 0 d (by omega)))
  have o := d2.ok'
  have rs := d2.rs
  have h1 := d2.h1
  split
  · rename_i h; rw [if_pos h] at o rs; exact tail3_ok W o (by omega) d2.hn rs
  · rename_i h; rw [if_neg h] at o rs; exact tail3_ok W o (by omega) d2.hn rs

theorem count_ok {n : Nat} (h2 : 2 ≤ n) {p : Array Nat} (o : Ok n p 1) : kasP lt n (CP lt n) (kas_count n p) := by
  have s1 : SB lt p 1 := fun i j h1 h2 => by omega
  unfold kas_count
  refine kasP_bind _ (kasP_mono (fun r ⟨a, b, c, d⟩ => ?_) _ (asc_ok W (n - 1) 1 o (Nat.le_refl _) (by omega) s1))
  have or := o.mono a
  by_cases hr : r = n
  · subst hr
    rw [if_pos (by simp)]
    exact ⟨a, Nat.le_refl _, or, c⟩
  · rw [if_neg (by simpa using hr)]
    have hrn : r < n := by omega
    have e := d (by omega)
    by_cases h1 : r > 1
    · rw [if_pos h1]
      refine ⟨or.lt (by omega), or.lt (by omega), ?_⟩
      show kasP lt n _ (if lt (gt p 0) (gt p (r - 1)) = true then _ else _)
      cases e0 : lt (gt p 0) (gt p (r - 1)) with
      | true => exact ⟨a, Nat.le_of_lt hrn, or, c⟩
      | false =>
        have hs : r ≤ p.size := by rw [o.sz]; exact Nat.le_of_lt hrn
        have all : ∀ k, k < r → lt (gt p k) (gt p (r - 1)) = false := fun k hk => by
          rcases Nat.eq_zero_or_pos k with h | h
          · subst h; exact e0
          · exact W.nt _ _ _ ((c 0 k h hk).le W) e0
        refine descPart_ok W ⟨by omega, hrn, (or.rev (i := 0) (Nat.le_refl _) (Nat.le_of_lt hrn)).mono (by omega), fun i j h3 h4 => ?_, fun i j h3 h4 h5 => ?_, fun i j h3 h4 h5 => by omega⟩
        · rw [gt_rev hs, gt_rev hs, if_pos (by omega), if_pos (by omega)]
          exact c _ _ (by omega) (by omega)
        · have : j = r := by omega
          subst this
          rw [gt_rev hs, gt_rev hs, if_neg (c := 0 ≤ j ∧ j < j) (by omega), if_pos (by omega)]
          exact W.lt_of_le e (all _ (by omega))
    · rw [if_neg h1]
      have : r = 1 := by omega
      subst this
      refine descPart_ok W ⟨by omega, hrn, or.mono (by omega), fun i j h3 h4 => by omega, fun i j h3 h4 h5 => ?_, fun i j h3 h4 h5 => by omega⟩
      have : j = 1 := by omega
      have : i = 0 := by omega
      subst_vars
      exact e

omit W in
theorem ok_range (n : Nat) : Ok n (List.toArray (List.range n)) 1 := by
  refine ⟨by simp, by simp, fun i k h1 h2 h3 => ?_⟩
  have e : ∀ k, k < n → gt (List.toArray (List.range n)) k = k := fun k hk => by simp [gt, Array.getD, hk]
  rw [e i (by omega), e k h3]; exact h1

/-- the sort gives the stable order -/
theorem sort_ok {n : Nat} (h2 : 2 ≤ n) : kasP lt n (fun q => q.toList.Perm (List.range n) ∧ q.size = n ∧ SB lt q n) (kas_sort n) := by
  unfold kas_sort
  refine kasP_bind _ (kasP_mono (fun r hr => ?_) _ (count_ok W h2 (ok_range n)))
  obtain ⟨a, b, o, s⟩ := hr
  split
  · rename_i h
    have e : max r.1 1 = r.1 := by omega
    rw [e]
    exact kasP_mono (fun q ⟨o, s⟩ => ⟨o.perm, o.sz, s⟩) _ (bin_ok W (n - r.1) r.2 r.1 (by omega) o s)
  · have : r.1 = n := by omega
    rw [this] at o s
    exact ⟨o.perm, o.sz, s⟩
end
end
section
open PySem.W PySem.SeqAt
section
variable {w : World} {A : Around} {E : Value → Shared → Prop} {s : Shared}

/-- the sort's own comparison -/
noncomputable def KeyAt (w : World) (κ : SortKind) (A : Around) (s : Shared) (x y : Value) (b : Bool) : Prop :=
  ∀ (E : Value → Shared → Prop) (Q : Bool → Shared → Prop), Q b s → wpAny (MM w) A (keyLt' κ x y) Q E s

theorem lex_nil {b fin : Bool} {Q : Bool → Shared → Prop} {i : Nat} (h : Q fin s) : KatLex P0 w A b fin Q [] i s := h
theorem lex_cons {b fin : Bool} {Q : Bool → Shared → Prop} {i : Nat} {p q : Value} {r : List (Value × Value)} {e : Bool} (he : EqAt A s p q e) (h1 : e = true → KatLex P0 w A b fin Q r (i + 1) s)
    (h2 : e = false → wpAny (MM w) A (oneLt' (b && i == 0) p q) Q (fun _ _ => False) s) : KatLex P0 w A b fin Q ((p, q) :: r) i s := by
  refine kat_cons (he P0 w _ _ ?_)
  cases e with
  | true => exact kat_yes (h1 rfl)
  | false => exact kat_no (h2 rfl)
theorem one_of {p q : Value} {b : Bool} {Q : Bool → Shared → Prop} (h : LtAt A s p q b) (hq : Q b s) : wpAny (MM w) A (oneLt' false p q) Q E s :=
  kat_one p q (h P0 w E _ hq)

theorem At3.keyAt {a b : Value} {x y : T3} (ha : At3 s.heap a x) (hb : At3 s.heap b y) : KeyAt w (tuples' true) A s a b (lt3 x y) := by
  intro E Q h
  obtain ⟨p, t1, t2, t3, rfl, ea⟩ := ha
  obtain ⟨q, u1, u2, u3, rfl, eb⟩ := hb
  refine kat_lt ea rfl eb rfl ?_
  unfold lt3 at h
  refine lex_cons (EqAt.strs _ _ _ _) (fun e => ?_) fun e => ?_
  · rw [if_pos (of_decide_eq_true e)] at h
    refine lex_cons (EqAt.nats _ _ _ _) (fun e => ?_) fun e => ?_
    · rw [if_pos (of_decide_eq_true e)] at h
      refine lex_cons (EqAt.nats _ _ _ _) (fun e => ?_) fun e => ?_
      · refine lex_nil ?_
        have : ¬ x.2.2 < y.2.2 := by have := of_decide_eq_true e; omega
        simpa [this] using h
      · exact one_of (LtAt.ints _ _ _ _) (by simpa using h)
    · rw [if_neg (of_decide_eq_false e)] at h
      exact one_of (LtAt.ints _ _ _ _) (by simpa using h)
  · rw [if_neg (of_decide_eq_false e)] at h
    exact oneLt_str (by simpa [sv] using h)

theorem At2.keyAt {a b : Value} {x y : T2} (ha : At2 s.heap a x) (hb : At2 s.heap b y) : KeyAt w (tuples' true) A s a b (lt2 x y) := by
  intro E Q h
  obtain ⟨p, t1, t2, rfl, ea⟩ := ha
  obtain ⟨q, u1, u2, rfl, eb⟩ := hb
  refine kat_lt ea rfl eb rfl ?_
  unfold lt2 at h
  refine lex_cons (EqAt.strs _ _ _ _) (fun e => ?_) fun e => ?_
  · rw [if_pos (of_decide_eq_true e)] at h
    refine lex_cons (EqAt.nats _ _ _ _) (fun e => ?_) fun e => ?_
    · refine lex_nil ?_
      have : ¬ x.2 < y.2 := by have := of_decide_eq_true e; omega
      simpa [this] using h
    · exact one_of (LtAt.ints _ _ _ _) (by simpa using h)
  · rw [if_neg (of_decide_eq_false e)] at h
    exact oneLt_str (by simpa [sv] using h)

theorem AtE.keyAt {a b : Value} {x y : TE} (hu : A.units < cLine) (ha : AtE s.heap a x) (hb : AtE s.heap b y) : KeyAt w (tuples' false) A s a b (ltE x y) := by
  intro E Q h
  obtain ⟨p, kv, t2, t3, rfl, ea, ka⟩ := ha
  obtain ⟨q, lv, u2, u3, rfl, eb, kb⟩ := hb
  refine kat_lt ea rfl eb rfl ?_
  unfold ltE at h
  refine lex_cons (At2.eqAt hu ka kb) (fun e => ?_) fun e => ?_
  · rw [if_pos (of_decide_eq_true e)] at h
    refine lex_cons (EqAt.nats _ _ _ _) (fun e => ?_) fun e => ?_
    · rw [if_pos (of_decide_eq_true e)] at h
      refine lex_cons (EqAt.strs _ _ _ _) (fun e => ?_) fun e => ?_
      · refine lex_nil ?_
        have e' := of_decide_eq_true e
        have : ¬ x.2.2 < y.2.2 := by rw [e']; exact List.lt_irrefl _
        simpa [this] using h
      · exact one_of (LtAt.strs _ _ _ _) (by simpa using h)
    · rw [if_neg (of_decide_eq_false e)] at h
      exact one_of (LtAt.ints _ _ _ _) (by simpa using h)
  · rw [if_neg (of_decide_eq_false e)] at h
    exact one_of (At2.ltAt hu ka kb) h

/-- all objects but the frame -/
noncomputable def allObjs (h : Heap) (L : Addr) : List (Addr × Obj) := (List.range h.objs.size).filterMap fun b => if b = L then none else (h.get? b).map fun o => (b, o)
theorem mem_allObjs {h : Heap} {L b : Addr} {o : Obj} : (b, o) ∈ allObjs h L ↔ b ≠ L ∧ h.get? b = some o := by
  unfold allObjs
  rw [List.mem_filterMap]
  constructor
  · rintro ⟨c, _, hc⟩
    split at hc
    · cases hc
    · rename_i hcL
      cases e : h.get? c with
      | none => rw [e] at hc; cases hc
      | some o' => rw [e] at hc; cases hc; exact ⟨hcL, e⟩
  · rintro ⟨hb, e⟩
    exact ⟨b, List.mem_range.mpr (Heap.lt_size e), by rw [if_neg hb, e]; rfl⟩

noncomputable def noHeap : Heap := { objs := #[] }
theorem get?_noHeap (b : Addr) : noHeap.get? b = none := by
  simp [noHeap, Heap.get?]

theorem kasWp_of {n : Nat} {lt : Nat → Nat → Bool} {α : Type} {cmp : Nat → Nat → (Bool → Shared → Prop) → Shared → Prop} {Q : α → Shared → Prop} (hc : ∀ i j C, i < n → j < n → C (lt i j) s → cmp i j C s) :
    ∀ t : KasT α, kasP lt n (fun a => Q a s) t → t.kasWp cmp Q s
  | .ret _, h => h
  | .ask i j k, ⟨a, b, c⟩ => hc i j _ a b (kasWp_of hc (k (lt i j)) c)

variable {g : Heap} {L : Addr} {l : List (String × Value)}
theorem Fx.frAll (F : Fx g L s.heap l) : ∃ m, Has m l ∧ Fr noHeap L s.heap m ∧ News noHeap L s.heap (allObjs s.heap L) := by
  obtain ⟨m, hn, hh⟩ := F.ns
  refine ⟨m, hh, ⟨hn, fun b o e => (by rw [get?_noHeap] at e; cases e), Nat.zero_le _⟩, fun p hp => ?_⟩
  obtain ⟨b, o⟩ := p
  have := mem_allObjs.mp hp
  exact ⟨this.2, this.1, get?_noHeap _⟩

theorem sortedX {lp : Addr} {vs : List Value} {κ : SortKind} {lt : Nat → Nat → Bool} {Q : Value → Shared → Prop} (W : SW lt) (F : Fx g L s.heap l) (hl : g.PlainList lp vs.toArray) (h2 : 2 ≤ vs.length) (h64 : vs.length < 64)
    (kind : ∀ h', (∀ b o, b ≠ L → s.heap.get? b = some o → h'.get? b = some o) → ∀ E' Q', Q' κ { s with heap := h' } → wpAny (MM w) A.in1.in1 (keyKind' vs.toArray) Q' E' { s with heap := h' })
    (cmp : ∀ h', (∀ b o, b ≠ L → s.heap.get? b = some o → h'.get? b = some o) → ∀ i j, i < vs.length → j < vs.length → KeyAt w κ A.in1.in1 { s with heap := h' } (vs.getD i .none) (vs.getD j .none) (lt i j))
    (h : ∀ g' h' D (q : Array Nat), Fx g' L h' l → g'.PlainList D (q.toList.map fun i => vs.getD i .none).toArray → (∀ b o, g.get? b = some o → g'.get? b = some o) → g.get? D = none →
      q.toList.Perm (List.range vs.length) → q.size = vs.length → SB lt q vs.length → Q (.ref D) { s with heap := h' }) :
    wpAny (MM w) A (call (.builtin "sorted") [.ref lp]) Q E s := by
  obtain ⟨m, hh, Fr0, N0⟩ := F.frAll
  refine kat_sorted Fr0 N0 (F.list hl).isList h2 h64 fun D e1 h' F1 N1 ltD => ?_
  have keep : ∀ b o, b ≠ L → s.heap.get? b = some o → h'.get? b = some o := fun b o hb e => (N1 (b, o) (List.mem_cons_of_mem _ (mem_allObjs.mpr ⟨hb, e⟩))).1
  refine kind h' keep _ _ ?_
  refine kasWp_of (lt := lt) (n := vs.length) (fun i j C hi hj hc => cmp h' keep i j hi hj _ _ hc) _ (kasP_mono (fun q hq => ?_) _ (sort_ok W h2))
  refine KasFin.intro F1 N1 (.head fun p hp => Nat.ne_of_lt (ltD p hp)) fun h2 c F2 N2 => ?_
  have hD := N2 _ (List.mem_cons_self)
  have keep2 : ∀ b o, b ≠ L → s.heap.get? b = some o → h2.get? b = some o := fun b o hb e => (N2 (b, o) (List.mem_cons_of_mem _ (mem_allObjs.mpr ⟨hb, e⟩))).1
  refine h (h2.hide L) h2 D q ⟨⟨m, F2.ns, hh⟩, fun b o e => Heap.of_hide e, Heap.hide_self _ _⟩ ⟨_, (Heap.hide_ne _ hD.2.1).trans hD.1⟩ (fun b o e => (Heap.hide_ne _ (F.ne e)).trans (keep2 b o (F.ne e) (F.keep b o e))) ?_ hq.1 hq.2.1 hq.2.2
  cases e : g.get? D with
  | none => rfl
  | some o => exact absurd (ltD (D, o) (mem_allObjs.mpr ⟨F.ne e, F.keep _ _ e⟩)) (Nat.lt_irrefl _)

theorem list_sort_short {a : Addr} {vs : List Value} {n : Nat} {P : PySem.Fin → Shared → Prop} (ho : s.heap.get? a = some (seqObj "list" vs.toArray n)) (h1 : vs.length < 2)
    (h : P (.done (.ret .none)) { s with heap := sortedHeap s.heap a vs vs.toArray }) : wpAny (MM w) A (Builtin.«list.sort» ⟨[.ref a], []⟩) P E s := by
  have ha : a < s.heap.objs.size := Heap.lt_size ho
  obtain ⟨e1, ho1⟩ : ∃ e1, (s.heap.update a (Obj.mapSeq fun _ => (#[] : Array Value))).get? a = some (seqObj "list" #[] e1) := ⟨_, get?_update_seq ho fun _ => #[]⟩
  rw [list_sort_plain]
  refine wpAny_bind (listItems_at ho rfl ?_)
  refine wpAny_bind (listUpdate_at ho rfl ?_ (by rw [List.size_toArray, sizeLine_eq]; omega) (Nat.zero_le _))
  refine wpAny_bind (seqEpoch_at ho1 rfl ?_)
  refine wpAny_bind (wpAny_newTuple ?_ (by show vs.length ≤ _; rw [sizeLine_eq]; omega))
  refine wpAny_bind (wpAny_newList ?_ (Nat.zero_le _))
  refine wpAny_holding ?_
  show wpAny (MM w) A _ P E { s with heap := ((s.heap.update a (Obj.mapSeq fun _ => (#[] : Array Value))).push (seqObj "tuple" vs.toArray 0)).push (seqObj "list" #[] 0) }
  dsimp only
  have hn2 : vs.toArray.size < 2 := by rw [List.size_toArray]; exact h1
  have ho2 : (((s.heap.update a (Obj.mapSeq fun _ => (#[] : Array Value))).push (seqObj "tuple" vs.toArray 0)).push (seqObj "list" #[] 0)).get? a = some (seqObj "list" #[] e1) := Heap.get?_push_of_some _ (Heap.get?_push_of_some _ ho1)
  rw [if_pos hn2, if_pos hn2]
  refine wpAny_bind (wpAny_pure ?_)
  refine wpAny_bind (wpAny_of_eq (a := ((), SortSt.mk' general' (vs.toArray.zip vs.toArray) #[] 7 none)) rfl ?_)
  dsimp only
  have hout : (arrOf (SortSt.mk' general' (vs.toArray.zip vs.toArray) #[] 7 none)).map (·.2) = vs.toArray := by
    show (vs.toArray.zip vs.toArray).map (·.2) = _
    apply Array.toList_inj.mp
    rw [Array.toList_map, Array.toList_zip]
    exact List.map_snd_zip (Nat.le_refl _)
  rw [hout]
  refine wpAny_bind (seqEpoch_at ho2 rfl ?_)
  refine wpAny_bind (listUpdate_at ho2 rfl ?_ (Nat.zero_le _) (by rw [List.size_toArray, sizeLine_eq]; omega))
  simp only [bne_self_eq_false, Bool.false_eq_true, if_false]
  exact wpAny_pure h

theorem range_getD {α : Type} {d : α} (vs : List α) : (List.range vs.length).map (fun i => vs.getD i d) = vs := by
  refine List.ext_getElem (by simp) fun i h1 h2 => ?_
  simp [h2]

set_option maxHeartbeats 2000000 in
theorem lsortX {D : Addr} {vs : List Value} {κ : SortKind} {lt : Nat → Nat → Bool} {Q : Value → Shared → Prop} (W : SW lt) (F : Fx g L s.heap l) (hl : g.PlainList D vs.toArray) (h64 : vs.length < 64)
    (kind : 2 ≤ vs.length → ∀ h', (∀ b o, b ≠ L → b ≠ D → s.heap.get? b = some o → h'.get? b = some o) → ∀ E' Q', Q' κ { s with heap := h' } → wpAny (MM w) A.in1 (keyKind' vs.toArray) Q' E' { s with heap := h' })
    (cmp : ∀ h', (∀ b o, b ≠ L → b ≠ D → s.heap.get? b = some o → h'.get? b = some o) → ∀ i j, i < vs.length → j < vs.length → KeyAt w κ A.in1 { s with heap := h' } (vs.getD i .none) (vs.getD j .none) (lt i j))
    (h : ∀ g' h' (q : Array Nat), Fx g' L h' l → g'.PlainList D (q.toList.map fun i => vs.getD i .none).toArray → (∀ b o, b ≠ D → g.get? b = some o → g'.get? b = some o) →
      q.toList.Perm (List.range vs.length) → q.size = vs.length → SB lt q vs.length → Q .none { s with heap := h' }) :
    wpAny (MM w) A (call (.builtin "list.sort") [.ref D]) Q E s := by
  obtain ⟨n, ho⟩ := F.list hl
  have hDL : D ≠ L := list_ne hl F.noL
  refine wpAny_call_entry slot_list_sort ⟨_, ho, rfl⟩ entry_list_sort ?_ (args_list_sort _)
  rcases Nat.lt_or_ge vs.length 2 with h1 | h2
  · refine list_sort_short ho h1 ⟨_, rfl, ?_⟩
    obtain ⟨e1, ho1⟩ : ∃ e1, (s.heap.update D (Obj.mapSeq fun _ => (#[] : Array Value))).get? D = some (seqObj "list" #[] e1) := ⟨_, get?_update_seq ho fun _ => #[]⟩
    have ho2 : (((s.heap.update D (Obj.mapSeq fun _ => (#[] : Array Value))).push (seqObj "tuple" vs.toArray 0)).push (seqObj "list" #[] 0)).get? D = some (seqObj "list" #[] e1) := Heap.get?_push_of_some _ (Heap.get?_push_of_some _ ho1)
    obtain ⟨e2, ho3⟩ : ∃ e2, (sortedHeap s.heap D vs vs.toArray).get? D = some (seqObj "list" vs.toArray e2) := ⟨_, get?_update_seq ho2 fun _ => vs.toArray⟩
    have keep : ∀ b o, b ≠ D → s.heap.get? b = some o → (sortedHeap s.heap D vs vs.toArray).get? b = some o := fun b o hb e => by
      unfold sortedHeap
      rw [Heap.get?_update_ne _ _ _ _ hb]
      refine Heap.get?_push_of_some _ (Heap.get?_push_of_some _ ?_)
      rw [Heap.get?_update_ne _ _ _ _ hb]
      exact e
    obtain ⟨F2, k2, k3⟩ := F.change hDL (h' := sortedHeap s.heap D vs vs.toArray) keep
    have hmap : ((List.toArray (List.range vs.length)).toList.map fun i => vs.getD i .none) = vs := range_getD vs
    refine h _ _ (List.toArray (List.range vs.length)) F2 ⟨e2, ?_⟩ k2 (by simp) (by simp) fun i j h1 h2 => by omega
    rw [hmap]
    exact k3 _ _ hDL ho3
  · obtain ⟨m, hh, Fr0, N0⟩ := F.frAll
    have N1 : News noHeap L s.heap ((allObjs s.heap L).filter fun p => p.1 ≠ D) := fun p hp => N0 p (List.mem_filter.mp hp).1
    refine kat_list_sort Fr0 N1 ho hDL (get?_noHeap _) (fun p hp => by have := (List.mem_filter.mp hp).2; simpa using this) h2 h64 fun e1 h' F1 N2 => ?_
    have memN : ∀ b o, b ≠ L → b ≠ D → s.heap.get? b = some o → (b, o) ∈ (allObjs s.heap L).filter fun p => p.1 ≠ D := fun b o hb hd e => List.mem_filter.mpr ⟨mem_allObjs.mpr ⟨hb, e⟩, by simpa using hd⟩
    have keep : ∀ b o, b ≠ L → b ≠ D → s.heap.get? b = some o → h'.get? b = some o := fun b o hb hd e => (N2 (b, o) (List.mem_cons_of_mem _ (memN b o hb hd e))).1
    refine kind h2 h' keep _ _ ?_
    refine kasWp_of (lt := lt) (n := vs.length) (fun i j C hi hj hc => cmp h' keep i j hi hj _ _ hc) _ (kasP_mono (fun q hq => ?_) _ (sort_ok W h2))
    refine KasFin.intro F1 N2 (.head fun p hp => by have := (List.mem_filter.mp hp).2; simpa using this) fun h2 c F2 N3 => ⟨_, rfl, ?_⟩
    have hD := N3 _ (List.mem_cons_self)
    refine h (h2.hide L) h2 q ⟨⟨m, F2.ns, hh⟩, fun b o e => Heap.of_hide e, Heap.hide_self _ _⟩ ⟨_, (Heap.hide_ne _ hD.2.1).trans hD.1⟩ (fun b o hd e => (Heap.hide_ne _ (F.ne e)).trans (N3 (b, o) (List.mem_cons_of_mem _ (memN b o (F.ne e) hd (F.keep b o e)))).1) hq.1 hq.2.1 hq.2.2
end
end
section
open PySem.W PySem.SeqAt
/-- a strict total order given as a Bool -/
structure Tot {α : Type} (lt : α → α → Bool) : Prop where
  irr : ∀ a, lt a a = false
  tr : ∀ a b c, lt a b = true → lt b c = true → lt a c = true
  tri : ∀ a b, lt a b = true ∨ a = b ∨ lt b a = true
theorem Tot.asym {α : Type} {lt : α → α → Bool} (T : Tot lt) {a b : α} (h : lt a b = true) : lt b a = false := by
  cases e : lt b a with
  | false => rfl
  | true => have := T.tr _ _ _ h e; rw [T.irr] at this; cases this
theorem Tot.nt {α : Type} {lt : α → α → Bool} (T : Tot lt) {a b c : α} (h1 : lt a b = false) (h2 : lt b c = false) : lt a c = false := by
  rcases T.tri b a with h | h | h
  · rcases T.tri c b with h' | h' | h'
    · exact T.asym (T.tr _ _ _ h' h)
    · subst h'; exact T.asym h
    · rw [h'] at h2; cases h2
  · subst h; exact h2
  · rw [h] at h1; cases h1
theorem Tot.sw {α : Type} {lt : α → α → Bool} (T : Tot lt) (f : Nat → α) : SW fun i j => lt (f i) (f j) :=
  ⟨fun _ => T.irr _, fun _ _ _ => T.tr _ _ _, fun _ _ _ => T.nt⟩

theorem tot_nat : Tot fun a b : Nat => decide (a < b) :=
  ⟨fun a => by simp, fun a b c h1 h2 => by simp at *; omega, fun a b => by simp; omega⟩
theorem tot_list : Tot fun a b : List Nat => decide (a < b) := by
  refine ⟨fun a => by simp [List.lt_irrefl], fun a b c h1 h2 => ?_, fun a b => ?_⟩
  · simp only [decide_eq_true_eq] at *
    exact List.lt_trans h1 h2
  · simp only [decide_eq_true_eq]
    by_cases h : a < b
    · exact .inl h
    · by_cases h' : b < a
      · exact .inr (.inr h')
      · exact .inr (.inl (List.le_antisymm (List.not_lt.mp h') (List.not_lt.mp h)))
theorem tot_lex {α β : Type} [DecidableEq α] {l1 : α → α → Bool} {l2 : β → β → Bool} (T1 : Tot l1) (T2 : Tot l2) : Tot fun a b : α × β => if a.1 = b.1 then l2 a.2 b.2 else l1 a.1 b.1 := by
  refine ⟨fun a => by simp [T2.irr], fun a b c h1 h2 => ?_, fun a b => ?_⟩
  · by_cases e1 : a.1 = b.1
    · rw [if_pos e1] at h1
      by_cases e2 : b.1 = c.1
      · rw [if_pos e2] at h2; rw [if_pos (e1.trans e2)]; exact T2.tr _ _ _ h1 h2
      · rw [if_neg e2] at h2; rw [if_neg (by rw [e1]; exact e2), e1]; exact h2
    · rw [if_neg e1] at h1
      by_cases e2 : b.1 = c.1
      · rw [if_neg (by rw [← e2]; exact e1), ← e2]; exact h1
      · rw [if_neg e2] at h2
        have h3 := T1.tr _ _ _ h1 h2
        rw [if_neg (by intro e; rw [e, T1.irr] at h3; cases h3)]; exact h3
  · by_cases e : a.1 = b.1
    · rw [if_pos e, if_pos e.symm]
      rcases T2.tri a.2 b.2 with h | h | h
      · exact .inl h
      · exact .inr (.inl (Prod.ext e h))
      · exact .inr (.inr h)
    · rw [if_neg e, if_neg (Ne.symm e)]
      rcases T1.tri a.1 b.1 with h | h | h
      · exact .inl h
      · exact absurd h e
      · exact .inr (.inr h)
theorem tot2 : Tot lt2 := tot_lex tot_list tot_nat
theorem tot3 : Tot lt3 := tot_lex tot_list (tot_lex tot_nat tot_nat)
theorem totE : Tot ltE := tot_lex tot2 (tot_lex tot_nat tot_list)

section
variable {w : World} {A : Around} {E : Value → Shared → Prop} {s : Shared} {g : Heap} {L : Addr} {l : List (String × Value)}
/-- a kind that the sort knows -/
structure SKind (K : Kind w) (κ : SortKind) : Prop where
  tot : Tot K.lt
  kind : ∀ {A : Around} {E : Value → Shared → Prop} {s : Shared} {vs : List Value} {Q : SortKind → Shared → Prop}, 0 < vs.length → (∀ v ∈ vs, ∃ d, K.At s.heap v d) → Q κ s → wpAny (MM w) A (keyKind' vs.toArray) Q E s
  key : ∀ {A : Around} {s : Shared} {a b : Value} {x y : K.D}, A.units < 1000 → K.At s.heap a x → K.At s.heap b y → KeyAt w κ A s a b (K.lt x y)

theorem sk3 : SKind (K3 w) (tuples' true) where
  tot := tot3
  kind := fun {A E s vs Q} h0 hv hq => by
    have : ∃ fs, KatTups s.heap vs fs ∧ fs.length = vs.length ∧ ∀ v ∈ fs, Looks (MM w) s.heap (typeOf v) (.type "str") := by
      clear h0
      induction vs with
      | nil => exact ⟨[], trivial, rfl, by simp⟩
      | cons v vs ih =>
        obtain ⟨fs, t, e, hf⟩ := ih fun u hu => hv u (by simp [hu])
        obtain ⟨d, p, t1, t2, t3, rfl, ho⟩ := hv v (by simp)
        refine ⟨sv d.1 t1 :: fs, .cons ho rfl rfl rfl t, by simp [e], fun u hu => ?_⟩
        rcases List.mem_cons.mp hu with rfl | hu
        · exact fun A Q E s' _ q => wpAny_of_eq (a := Value.type "str") rfl q
        · exact hf u hu
    obtain ⟨fs, t, e, hf⟩ := this
    exact kat_kind t (by omega) hf (by decide) hq
  key := fun _ ha hb => At3.keyAt ha hb

theorem skE : SKind (KE' w) (tuples' false) where
  tot := totE
  kind := fun {A E s vs Q} h0 hv hq => by
    have : ∃ fs, KatTups s.heap vs fs ∧ fs.length = vs.length ∧ ∀ v ∈ fs, Looks (MM w) s.heap (typeOf v) (.type "tuple") := by
      clear h0
      induction vs with
      | nil => exact ⟨[], trivial, rfl, by simp⟩
      | cons v vs ih =>
        obtain ⟨fs, t, e, hf⟩ := ih fun u hu => hv u (by simp [hu])
        obtain ⟨d, p, kv, t2, t3, rfl, ho, q, t4, t5, rfl, ho2⟩ := hv v (by simp)
        refine ⟨.ref q :: fs, .cons ho rfl rfl rfl t, by simp [e], fun u hu => ?_⟩
        rcases List.mem_cons.mp hu with rfl | hu
        · exact (Looks.ld ho2).andThen .now
        · exact hf u hu
    obtain ⟨fs, t, e, hf⟩ := this
    exact kat_kind t (by omega) hf (by decide) hq
  key := fun hu ha hb => AtE.keyAt (Nat.lt_trans hu (by decide)) ha hb


/-- what a sort leaves -/
noncomputable def Srt {α : Type} (lt : α → α → Bool) (xs ys : List α) : Prop := ys.Perm xs ∧ ys.Pairwise fun a b => lt b a = false

theorem srt_of {α : Type} {x0 : α} {xs : List α} {lt : α → α → Bool} {q : Array Nat} (W : SW fun i j => lt (xs.getD i x0) (xs.getD j x0)) (hp : q.toList.Perm (List.range xs.length)) (hs : q.size = xs.length) (hb : SB (fun i j => lt (xs.getD i x0) (xs.getD j x0)) q xs.length) :
    Srt lt xs (q.toList.map fun i => xs.getD i x0) := by
  refine ⟨?_, ?_⟩
  · have := hp.map fun i => xs.getD i x0
    rwa [range_getD] at this
  · rw [List.pairwise_map, List.pairwise_iff_getElem]
    intro i j hi hj hij
    have hj' : j < xs.length := by simpa [hs] using hj
    have hi' : i < xs.length := by omega
    have := (hb i j hij hj').le W
    have e : ∀ k (h : k < q.toList.length), gt q k = q.toList[k] := fun k h => by
      have : k < q.size := by simpa using h
      simp [gt, Array.getD, this]
    rw [e i hi, e j hj] at this
    exact this

theorem map_getD {K : Kind w} {x0 : K.I} (h0 : x0.1 = .none) {xs : List K.I} (q : List Nat) : (q.map fun i => (xs.map (·.1)).getD i .none) = (q.map fun i => xs.getD i x0).map (·.1) := by
  rw [List.map_map]
  refine List.map_congr_left fun i _ => ?_
  rcases Nat.lt_or_ge i xs.length with h | h
  · simp [List.getD, h]
  · simp [List.getD, h, h0]

theorem lsortK {K : Kind w} {κ : SortKind} (S : SKind K κ) (x0 : K.I) (h0 : x0.1 = .none) {D : Addr} {xs : List K.I} {Q : Value → Shared → Prop} (hu : A.units < 900) (F : Fx g L s.heap l) (hl : K.Is g D xs) (h64 : xs.length < 64)
    (h : ∀ g' h' ys, Fx g' L h' l → K.Is g' D ys → (∀ b o, b ≠ D → g.get? b = some o → g'.get? b = some o) → Srt (fun a b => K.lt a.2 b.2) xs ys → Q .none { s with heap := h' }) :
    wpAny (MM w) A (call (.builtin "list.sort") [.ref D]) Q E s := by
  have W : SW fun i j => K.lt (xs.getD i x0).2 (xs.getD j x0).2 := S.tot.sw fun i => (xs.getD i x0).2
  have hDL : D ≠ L := list_ne hl.1 F.noL
  have at' : ∀ h', (∀ b o, b ≠ L → b ≠ D → s.heap.get? b = some o → h'.get? b = some o) → ∀ x ∈ xs, K.At h' x.1 x.2 := fun h' kp x hx => by
    have a := hl.2 x hx
    -- in g, off D
    refine K.ext (p := D) a (plain_nt hl.1) fun b o hb e => kp b o (F.ne e) hb (F.keep b o e)
  have get : ∀ i, i < xs.length → ∃ x ∈ xs, xs.getD i x0 = x ∧ (xs.map (·.1)).getD i .none = x.1 := fun i hi => ⟨xs[i], by simp, by simp [List.getD, hi], by simp [List.getD, hi]⟩
  refine lsortX (κ := κ) (lt := fun i j => K.lt (xs.getD i x0).2 (xs.getD j x0).2) W F hl.1 (by simpa using h64) (fun h2 h' kp E' Q' hq => ?_) (fun h' kp i j hi hj => ?_) fun g' h' q F' hl' k' hp hs hb => ?_
  · refine S.kind (by omega) (fun v hv => ?_) hq
    obtain ⟨x, hx, rfl⟩ := List.mem_map.mp hv
    exact ⟨x.2, at' h' kp x hx⟩
  · obtain ⟨x, hx, ex, ev⟩ := get i (by simpa using hi)
    obtain ⟨y, hy, ey, ew⟩ := get j (by simpa using hj)
    rw [ev, ew]
    show KeyAt w κ A.in1 _ x.1 y.1 (K.lt (xs.getD i x0).2 (xs.getD j x0).2)
    rw [ex, ey]
    exact S.key (by show A.units + 1 < 1000; omega) (at' h' kp x hx) (at' h' kp y hy)
  · rw [List.length_map] at hp hs hb
    rw [map_getD h0] at hl'
    have sr := srt_of (x0 := x0) (lt := fun a b : K.I => K.lt a.2 b.2) W hp hs hb
    refine h g' h' _ F' ⟨hl', fun x hx => ?_⟩ k' sr
    exact K.ext (hl.2 x (sr.1.mem_iff.mp hx)) (plain_nt hl.1) k'

/-- sorted of whatever collects to these values -/
theorem sortedC {K : Kind w} {κ : SortKind} (S : SKind K κ) (x0 : K.I) (h0 : x0.1 = .none) {r : Value} {xs : List K.I} {Q : Value → Shared → Prop} (hu : A.units < 800) (F : Fx g L s.heap l) (hx : ∀ x ∈ xs, K.At g x.1 x.2) (h64 : xs.length < 64)
    (col : ∀ (R : List Value → Shared → Prop) (E' : Value → Shared → Prop), (∀ h' tk, (∀ b o, s.heap.get? b = some o → h'.get? b = some o) → R (xs.map (·.1)) { s with heap := h', toks := tk }) → wpAny (MM w) A.in1 (collect r) R E' s)
    (h : ∀ g' h' tk D ys, Fx g' L h' l → K.Is g' D ys → (∀ b o, g.get? b = some o → g'.get? b = some o) → g.get? D = none → Srt (fun a b => K.lt a.2 b.2) xs ys → Q (.ref D) { s with heap := h', toks := tk }) :
    wpAny (MM w) A (call (.builtin "sorted") [r]) Q E s := by
  refine Calls.call_function_entry kind_sorted plain_sorted entry_sorted (args_sorted1 _) ?_
  unfold Builtin.«sorted»
  refine wpAny_bind (m := checkCount "sorted" 1 1 _) (wpAny_pure ?_)
  refine wpAny_bind (col _ _ fun h' tk k1 => ?_)
  refine wpAny_bind (wpAny_newList ?_ (by rw [sizeLine_eq]; simp; omega))
  have F1 := F.up k1
  obtain ⟨g2, F2, e2, k2, n2, _⟩ := F1.push (lstObj (xs.map (·.1)))
  refine wpAny_bind (wpAny_holding (lsortK S x0 h0 (by show A.units + 1 < 900; omega) F2 ⟨plain_obj e2, fun x hm => K.keeps (hx x hm) k2⟩ h64 fun g3 h3 ys F3 i3 k3 sr => ?_))
  refine wpAny_pure ⟨_, rfl, ?_⟩
  exact h g3 h3 tk _ ys F3 i3 (fun b o e => k3 b o (by rintro rfl; rw [n2] at e; cases e) (k2 b o e)) n2 sr

theorem sortedL {K : Kind w} {κ : SortKind} (S : SKind K κ) (x0 : K.I) (h0 : x0.1 = .none) {lp : Addr} {xs : List K.I} {Q : Value → Shared → Prop} (hu : A.units < 800) (F : Fx g L s.heap l) (hl : K.Is g lp xs) (h64 : xs.length < 64)
    (h : ∀ g' h' tk D ys, Fx g' L h' l → K.Is g' D ys → (∀ b o, g.get? b = some o → g'.get? b = some o) → g.get? D = none → Srt (fun a b => K.lt a.2 b.2) xs ys → Q (.ref D) { s with heap := h', toks := tk }) :
    wpAny (MM w) A (call (.builtin "sorted") [.ref lp]) Q E s := by
  refine sortedC S x0 h0 hu F hl.2 h64 (fun R E' hR => collect_list (F.list hl.1).isList (hR _ _ fun b o e => ?_) (by rw [sizeLine_eq]; simp; omega)) h
  have hlt := Heap.lt_size e
  rw [Heap.get?_update_ne _ _ _ _ (Nat.ne_of_lt hlt)]
  exact Heap.get?_push_of_some _ e
end
end
section
open PySem.W PySem.SeqAt
section
variable {w : World} {A : Around} {E : Value → Shared → Prop} {s : Shared} {g : Heap} {L : Addr} {l : List (String × Value)} {env : Env}

/-- a name that lies in a cell -/
theorem ldC {k : String} {c : Addr} {pos : Pos} {v : Value} {Q : Value → Shared → Prop} (hc : s.heap.IsCell c (some v)) (h : Q v s)
    (hcl : env.cells.lookup (Str.ofString k) = some c := by kernel_rfl)
    (hk : env.scope.kind = .function := by kernel_rfl) (hl : env.kindOf (Str.ofString k) = some .cell := by kernel_rfl) (hd : (Str.ofString k == ("__debug__" : Str)) = false := by kernel_rfl) :
    wpAny (MM w) A (eval (.Name (Str.ofString k) pos) env) Q E s :=
  wpAny_Name (wpAny_loadName_cell hk hl hcl hc h) hd

theorem enterC {i : Nat} {a : Addr} {args : List Value} (la : List (String × Value)) (ck : String) (cv : Value) (l : List (String × Value)) {n : Nat} {Q : Value → Shared → Prop}
    (R : Rm A (n + 1)) (f : FnAt s.heap i a) (lim : s.heap.NoLimit)
    (h : ∀ L h₁ g₁ pm c doc E' tk A', Fx g₁ L h₁ l → g₁.IsCell (L + 1) (some cv) → (∀ b o, s.heap.get? b = some o → g₁.get? b = some o) → s.heap.get? (L + 1) = none → Rm A' n →
      wpAny (MM w) A' (execs (bdy i) (callEnvC (fdOf i .none pm (.ref c) doc) L a))
        (fun fl s' => Q (match fl with | .ret v => v | _ => .none) s') E' { s with heap := h₁, toks := tk })
    (hb : ∀ pm c doc, bindArgs (fdOf i .none pm (.ref c) doc) ⟨args, []⟩ = pure (toBs la) := by intro _ _ _; kernel_rfl)
    (hcs : ∀ L : Addr, cellsFrom (L + 1) (scp i).names [] = [(Str.ofString ck, L + 1)] := by intro _; rfl)
    (hL : ∀ pm c doc L, (∀ k v, l.lookup k = some v → bindL (callEnvC (fdOf i .none pm (.ref c) doc) L a).kindOf (toBs la) (fun _ => none) (Str.ofString k) = some v))
    (hC : ∀ pm c doc L, bindC (callEnvC (fdOf i .none pm (.ref c) doc) L a).kindOf (toBs la) (fun _ => none) (Str.ofString ck) = some cv)
    (hkd : (la.all fun p => (scp i).names.lookup (Str.ofString p.1) == some .local || ((scp i).names.lookup (Str.ofString p.1) == some .cell && p.1 == ck)) = true := by kernel_rfl)
    (hco : (scp i).isCoroutine = false := by kernel_rfl) (hgen : (scp i).isGenerator = false := by kernel_rfl) (hk : (scp i).kind = .function := by kernel_rfl) :
    wpAny (MM w) A (call (.ref a) args) Q E s := by
  obtain ⟨pm, c, doc, ho, hcd⟩ := f
  refine wpAny_call ?_
  refine codeAny_call_cells (fd := fdOf i .none pm (.ref c) doc) (body := bdy i) (binds := toBs la) (limit_of R) ho rfl lim hcd rfl (hb pm c doc) rfl (fun x hx => ?_) (fun s₁ x => ?_) hco hgen hk
  · have hx' : ∃ p ∈ la, (Str.ofString p.1, p.2) = x := by simpa [toBs] using hx
    obtain ⟨p, hp, rfl⟩ := hx'
    have := List.all_eq_true.mp hkd p hp
    simp only [Bool.or_eq_true, Bool.and_eq_true, beq_iff_eq] at this
    rcases this with h | ⟨h, e⟩
    · exact .inl h
    · refine .inr ⟨h, ?_⟩
      show ((cellsFrom (s.heap.objs.size + 1) (scp i).names []).lookup (Str.ofString p.1)).isSome = true
      rw [hcs, e]; simp
  · obtain ⟨h₁, tk, rfl⟩ := x.toInCall.same
    have hn : h₁.Ns s.heap.objs.size _ := x.toInCall.ns
    have hcell : h₁.IsCell (s.heap.objs.size + 1) (bindC (callEnvC (fdOf i .none pm (.ref c) doc) s.heap.objs.size a).kindOf (toBs la) (fun _ => none) (Str.ofString ck)) :=
      x.cell (Str.ofString ck) (s.heap.objs.size + 1) (by
        show (cellsFrom (s.heap.objs.size + 1) (scp i).names []).lookup (Str.ofString ck) = some (s.heap.objs.size + 1)
        rw [hcs]; simp)
    rw [hC] at hcell
    refine h s.heap.objs.size h₁ (h₁.hide s.heap.objs.size) pm c doc _ tk _ ⟨⟨_, hn, fun k v e => hL pm c doc _ k v e⟩, fun b o e => Heap.of_hide e, Heap.hide_self _ _⟩ ?_ (fun b o e => (Heap.hide_ne _ (Nat.ne_of_lt (Heap.lt_size e))).trans (x.toInCall.keep b o e)) ?_ R.deeper
    · obtain ⟨o, ho', r⟩ := hcell
      exact ⟨o, (Heap.hide_ne _ (Nat.ne_of_gt (Nat.lt_succ_self _))).trans ho', r⟩
    · cases e : s.heap.get? (s.heap.objs.size + 1) with
      | none => rfl
      | some o => exact absurd (Heap.lt_size e) (Nat.not_lt.mpr (Nat.le_succ _))

theorem Fx.cell {c : Addr} {v : Option Value} (F : Fx g L s.heap l) (x : g.IsCell c v) : s.heap.IsCell c v := x.keeps F.keep
end
section
variable {w : World} {A : Around} {E : Value → Shared → Prop} {s : Shared} {g : Heap} {L : Addr} {l : List (String × Value)}

noncomputable def enSt (e it lp : Addr) (items : Array Value) (i : Nat) (h : Heap) : Prop := (∃ old, IsEnum h e it i old) ∧ h.IsListIter it lp i ∧ h.IsList lp items
noncomputable def enP (items : Array Value) (i : Nat) (v : Value) (h : Heap) : Prop := ∃ T vals, v = .ref T ∧ (∃ t x, items[i]? = some x ∧ vals = #[.int i t, x]) ∧ h.IsTuple T vals
noncomputable def enMd (e it lp : Addr) (items : Array Value) (i : Nat) (v : Value) (h : Heap) : Prop :=
  ∃ T vals, v = .ref T ∧ (∃ t x, items[i]? = some x ∧ vals = #[.int i t, x]) ∧ h.IsTuple T vals ∧ ((∃ x, IsEnumOut h e it ((i : Int) + 1) x T) ∧ h.IsListIter it lp (i + 1) ∧ h.IsList lp items ∧ T ≠ e ∧ T ≠ it)

/-- enumerate of a list, ready for a loop -/
structure EnumOk (w : World) (A : Around) (g : Heap) (L : Addr) (e it lp : Addr) (items : Array Value) (s : Shared) : Prop where
  W : ∀ elts k pos, KTurns P0 w A (.Tuple elts k pos) e [e, it, lp] [e, it] items.size (enP items) (enMd e it lp items) (enSt e it lp items)
  st : enSt e it lp items 0 s.heap
  self : Self w A (.ref e) s
  lt : ∀ b ∈ [e, it, lp], b < s.heap.objs.size
  ne : g.get? e = none
  ni : g.get? it = none
  Le : L ≠ e
  Li : L ≠ it

theorem enumX {lp : Addr} {items : Array Value} {Q : Value → Shared → Prop} (F : Fx g L s.heap l) (hl : g.PlainList lp items) (hh : A.handled = none)
    (h : ∀ e it h', Fx g L h' l → EnumOk w A g L e it lp items { s with heap := h' } → Q (.ref e) { s with heap := h' }) :
    wpAny (MM w) A (call (.type "enumerate") [.ref lp]) Q E s := by
  have hlp : lp < s.heap.objs.size := by obtain ⟨n, ho⟩ := F.list hl; exact Heap.lt_size ho
  have hLs : L < s.heap.objs.size := by obtain ⟨m, hn, _⟩ := F.ns; exact hn.lt
  refine call_enumerate_list (F.list hl).isList fun h' he hit hsz kp => ?_
  have none' : ∀ a, s.heap.objs.size ≤ a → g.get? a = none := fun a ha => by
    cases e : g.get? a with
    | none => rfl
    | some o => exact absurd (Heap.lt_size (F.keep _ _ e)) (Nat.not_lt.mpr ha)
  have W := WalksT.enumerate (prog := P0) (w := w) (A := A) hh (s.heap.objs.size + 1) s.heap.objs.size lp (Nat.ne_of_gt (Nat.lt_succ_self _)) (Nat.ne_of_lt (Nat.lt_succ_of_lt hlp)) (Nat.ne_of_lt hlp) items
  have st : enSt (s.heap.objs.size + 1) s.heap.objs.size lp items 0 h' := ⟨⟨_, he⟩, hit, ((F.up kp).list hl).isList⟩
  refine h _ _ h' (F.up kp) ⟨fun _ _ _ => .ofWalksU W.toU, st, fun _ _ h3 tk k3 hq => W.self 0 _ _ _ (W.frame _ _ _ st fun b _ o e => k3 b o e) hq, fun b hb => ?_, none' _ (Nat.le_succ _), none' _ (Nat.le_refl _), Nat.ne_of_lt (Nat.lt_succ_of_lt hLs), Nat.ne_of_lt hLs⟩
  show b < h'.objs.size
  rw [hsz]
  rcases List.mem_cons.mp hb with rfl | hb
  · exact Nat.lt_succ_self _
  rcases List.mem_cons.mp hb with rfl | hb
  · exact Nat.lt_succ_of_lt (Nat.lt_succ_self _)
  · rw [List.mem_singleton.mp hb]; exact Nat.lt_succ_of_lt (Nat.lt_succ_of_lt hlp)
end

section
variable {w : World} {A : Around} {E : Value → Shared → Prop} {s : Shared} {mg mb : Str → Option Value}
theorem compStart2iS {R : Result → Shared → Prop} {elt target iter target2 iter2 : Expr} {scope : Scope} {pos : Pos} {it acc : Value} {env : Env} (hs : Self w A it s)
    (h0 : codeAny (MM w) A (.compLoop (.ListComp elt [⟨target, iter, [], 0⟩, ⟨target2, iter2, [], 0⟩] scope pos) 1 it acc env) R s) :
    codeAny (MM w) A (.compStart (.ListComp elt [⟨target, iter, [], 0⟩, ⟨target2, iter2, [], 0⟩] scope pos) 1 it acc env) R s :=
  compStart2i h0 fun E₁ => hs E₁ (fun it' s' => codeAny (MM w) A (.compLoop (.ListComp elt [⟨target, iter, [], 0⟩, ⟨target2, iter2, [], 0⟩] scope pos) 1 it' acc env) R s') s.heap s.toks (fun _ _ e => e) h0

noncomputable def NameAt (g : Heap) (tp : Addr) (sp : List Nat) : Prop := Nm sp ∧ ∃ t hp vs, g.get? tp = some (tupObj [sv sp t, .ref hp]) ∧ g.PlainList hp vs.toArray ∧ SL vs (headsOf sp)
noncomputable def NamesAt (g : Heap) (np : Addr) (sps : List (List Nat)) : Prop :=
  ∃ tps : List Addr, g.PlainList np (tps.map Value.ref).toArray ∧ tps.length = sps.length ∧ ∀ (i : Nat) tp sp, tps[i]? = some tp → sps[i]? = some sp → NameAt g tp sp
theorem NameAt.keeps {g g' : Heap} {tp : Addr} {sp : List Nat} (x : NameAt g tp sp) (k : ∀ b o, g.get? b = some o → g'.get? b = some o) : NameAt g' tp sp := by
  obtain ⟨hn, t, hp, vs, h1, h2, h3⟩ := x
  exact ⟨hn, t, hp, vs, k _ _ h1, h2.at fun o e => k _ o e, h3⟩
noncomputable def entriesOf (i : Nat) (sp : List Nat) : List T3 := (headsOf sp).zipIdx.map fun p => (p.1, p.2, i)
noncomputable def rowOf (sps : List (List Nat)) : List T3 := sps.zipIdx.flatMap fun p => entriesOf p.2 p.1
/-- triples that lie above D -/
noncomputable def At3A (D : Addr) (bad : List Addr) (g : Heap) (v : Value) (d : T3) : Prop := ∃ p t1 t2 t3, D < p ∧ p ∉ bad ∧ v = .ref p ∧ g.get? p = some (tupObj [sv d.1 t1, .int d.2.1 t2, .int d.2.2 t3])
noncomputable def Put3 (D : Addr) (bad : List Addr) (g : Heap) (vs : List Value) (ds : List T3) : Prop := vs.length = ds.length ∧ ∀ (i : Nat) d, ds[i]? = some d → ∃ v, vs[i]? = some v ∧ At3A D bad g v d
theorem Put3.mono {D : Addr} {bad : List Addr} {g g' : Heap} {vs : List Value} {ds : List T3} (x : Put3 D bad g vs ds) (k : ∀ b o, D < b → b ∉ bad → g.get? b = some o → g'.get? b = some o) : Put3 D bad g' vs ds :=
  ⟨x.1, fun i d e => let ⟨v, ev, p, t1, t2, t3, hp, hb, e1, e2⟩ := x.2 i d e; ⟨v, ev, p, t1, t2, t3, hp, hb, e1, k _ _ hp hb e2⟩⟩
theorem Put3.bad {D : Addr} {bad bad' : List Addr} {g : Heap} {vs : List Value} {ds : List T3} (x : Put3 D bad g vs ds) (k : ∀ b o, g.get? b = some o → b ∉ bad → b ∉ bad') : Put3 D bad' g vs ds :=
  ⟨x.1, fun i d e => let ⟨v, ev, p, t1, t2, t3, hp, hb, e1, e2⟩ := x.2 i d e; ⟨v, ev, p, t1, t2, t3, hp, k _ _ e2 hb, e1, e2⟩⟩
theorem Put3.snoc {D : Addr} {bad : List Addr} {g : Heap} {vs : List Value} {ds : List T3} (x : Put3 D bad g vs ds) {v : Value} {d : T3} (h : At3A D bad g v d) : Put3 D bad g (vs ++ [v]) (ds ++ [d]) := by
  refine ⟨by simp [x.1], fun i e he => ?_⟩
  rcases Nat.lt_or_ge i ds.length with hi | hi
  · rw [List.getElem?_append_left hi] at he
    rw [List.getElem?_append_left (by rw [x.1]; exact hi)]
    exact x.2 i e he
  · rw [List.getElem?_append_right hi] at he
    rw [List.getElem?_append_right (by rw [x.1]; exact hi), x.1]
    cases e2 : i - ds.length with
    | zero => rw [e2] at he; cases he; exact ⟨v, rfl, h⟩
    | succ n => rw [e2] at he; simp at he
theorem Put3.at {D : Addr} {bad : List Addr} {g : Heap} {vs : List Value} {ds : List T3} (x : Put3 D bad g vs ds) : ∀ y ∈ (vs.zip ds : List (Value × T3)), At3 g y.1 y.2 := by
  intro y hy
  obtain ⟨i, hi, rfl⟩ := List.getElem_of_mem hy
  have h1 : i < ds.length := by rw [List.length_zip] at hi; omega
  obtain ⟨v, ev, p, t1, t2, t3, _, _, e1, e2⟩ := x.2 i ds[i] (List.getElem?_eq_getElem h1)
  have h2 : i < vs.length := by rw [x.1]; exact h1
  have e3 : vs[i] = v := by rw [List.getElem?_eq_getElem h2] at ev; exact Option.some.inj ev
  rw [List.getElem_zip]
  exact ⟨p, t1, t2, t3, e3.trans e1, e2⟩
theorem Put3.is {D : Addr} {bad : List Addr} {g : Heap} {vs : List Value} {ds : List T3} (x : Put3 D bad g vs ds) {q : Addr} (hl : g.PlainList q vs.toArray) : (K3 w).Is g q (vs.zip ds : List (Value × T3)) := by
  refine ⟨?_, x.at⟩
  have : (vs.zip ds : List (Value × T3)).map (·.1) = vs := by rw [List.map_fst_zip (by rw [x.1]; exact Nat.le_refl _)]
  show g.PlainList q ((vs.zip ds : List (Value × T3)).map (·.1)).toArray
  rw [this]; exact hl
theorem rowOf_snoc (sps : List (List Nat)) (sp : List Nat) : rowOf (sps ++ [sp]) = rowOf sps ++ entriesOf sps.length sp := by
  simp [rowOf, List.zipIdx_append]
theorem rowOf_take {sps : List (List Nat)} {i : Nat} {sp : List Nat} (h : sps[i]? = some sp) : rowOf (sps.take (i + 1)) = rowOf (sps.take i) ++ entriesOf i sp := by
  have hi : i < sps.length := by
    rcases Nat.lt_or_ge i sps.length with h' | h'
    · exact h'
    · rw [List.getElem?_eq_none h'] at h; cases h
  have e : sps.take (i + 1) = sps.take i ++ [sp] := by rw [List.take_succ, h]; rfl
  rw [e, rowOf_snoc, List.length_take, Nat.min_eq_left (Nat.le_of_lt hi)]
theorem entriesOf_len (i : Nat) (sp : List Nat) : (entriesOf i sp).length = sp.length + 1 := by simp [entriesOf, headsOf_length]
theorem entriesOf_get {i k : Nat} {sp : List Nat} (hk : k ≤ sp.length) : (entriesOf i sp)[k]? = some (letL (sp.take k), k, i) := by
  simp [entriesOf, headsOf_get sp hk]
theorem rowOf_len' : ∀ {sps : List (List Nat)} (k : Nat), (∀ sp ∈ sps, sp.length ≤ 5) → ((sps.zipIdx k).flatMap fun p => entriesOf p.2 p.1).length ≤ 6 * sps.length
  | [], _, _ => by simp
  | sp :: r, k, h => by
    have h1 := rowOf_len' (sps := r) (k + 1) fun x hx => h x (by simp [hx])
    have h2 := h sp (by simp)
    rw [List.zipIdx_cons, List.flatMap_cons, List.length_append, entriesOf_len, List.length_cons]
    dsimp only
    omega
theorem rowOf_len {sps : List (List Nat)} (h : ∀ sp ∈ sps, sp.length ≤ 5) : (rowOf sps).length ≤ 6 * sps.length := rowOf_len' 0 h
theorem Fx.tup {g h : Heap} {C T : Addr} {l : List (String × Value)} {vals : Array Value} (F : Fx g C h l) (hid : ∀ b o, b ≠ C → h.get? b = some o → g.get? b = some o) (ht : h.IsTuple T vals) : IsTup g T vals := by
  obtain ⟨o, ho, hc, n, hd⟩ := ht
  refine ⟨o, hid _ _ ?_ ho, hc, n, hd⟩
  rintro rfl
  obtain ⟨m, ⟨o2, es, ep, ho2, hd2, _⟩, _⟩ := F.ns
  rw [ho] at ho2
  cases ho2
  rw [hd] at hd2
  cases hd2
end
end
section
open PySem.W PySem.SeqAt
section
variable {w : World} {A : Around} {E : Value → Shared → Prop} {s : Shared} {mg mb : Str → Option Value} {g : Heap} {L fa : Addr} {l : List (String × Value)}
noncomputable def IL (vs : List Value) (ns : List Nat) : Prop := vs.length = ns.length ∧ ∀ (i n : Nat), ns[i]? = some n → ∃ t, vs[i]? = some (.int n t)
noncomputable def isWhole (sps : List (List Nat)) (d : T3) : Bool := decide (d.2.1 = (sps.getD d.2.2 []).length)
noncomputable def wholes (sps : List (List Nat)) (ds : List T3) (n : Nat) : List Nat := (List.range n).filter fun k => isWhole sps (ds.getD k ([], 0, 0))
theorem wholes_succ (sps : List (List Nat)) (ds : List T3) (i : Nat) : wholes sps ds (i + 1) = wholes sps ds i ++ (if isWhole sps (ds.getD i ([], 0, 0)) = true then [i] else []) := by
  unfold wholes
  rw [List.range_succ, List.filter_append]
  congr 1
  rw [List.filter_cons, List.filter_nil]
theorem IL.snoc {vs : List Value} {ns : List Nat} (x : IL vs ns) {n : Nat} {t : Tok} : IL (vs ++ [.int n t]) (ns ++ [n]) := by
  refine ⟨by simp [x.1], fun i e he => ?_⟩
  rcases Nat.lt_or_ge i ns.length with hi | hi
  · rw [List.getElem?_append_left hi] at he
    rw [List.getElem?_append_left (by rw [x.1]; exact hi)]
    exact x.2 i e he
  · rw [List.getElem?_append_right hi] at he
    rw [List.getElem?_append_right (by rw [x.1]; exact hi), x.1]
    cases e2 : i - ns.length with
    | zero => rw [e2] at he; cases he; exact ⟨t, rfl⟩
    | succ n => rw [e2] at he; simp at he
/-- the i-th statement of a def's body -/
noncomputable def stN (i k : Nat) : Stmt := (bdy i).getD k (.Pass ⟨0, 0, 0, 0⟩)

theorem row_whole {np rp : Addr} {sps : List (List Nat)} {ys : List (Value × T3)} {pm doc : Value} {c : Addr} {Q : Flow → Shared → Prop} (R : Rm A 2) (G : Gd w mg mb g) (F : Fx g L s.heap l) (hrow : l.lookup "row" = some (.ref rp))
    (hcell : g.IsCell (L + 1) (some (.ref np))) (hn : NamesAt g np sps) (hrl : g.PlainList rp (ys.map Prod.fst).toArray) (hra : ∀ y ∈ ys, At3 g y.1 y.2) (hpl : ∀ y ∈ ys, y.2.2.2 < sps.length) (hll : sps.length ≤ 10) (hyl : ys.length < 64)
    (h : ∀ g' h' tk W vs, Fx g' L h' (put l "whole" (.ref W)) → g'.PlainList W vs.toArray → IL vs (wholes sps (ys.map (·.2)) ys.length) → (∀ b o, g.get? b = some o → g'.get? b = some o) → Q .next { s with heap := h', toks := tk }) :
    
    wpAny (MM w) A (exec (stN 21 1) (callEnvC (fdOf 21 .none pm (.ref c) doc) L fa)) Q E s := by
  refine compA (L := L) (x := "whole") (cl := [(Str.ofString "names", L + 1)]) (by kernel_rfl) ?_
  refine callTy F G (by (simp only [blts, List.lookup, String.reduceBEq] <;> rfl)) ?_
  refine evs_cons ?_
  refine ldL F hrow ?_
  refine evs_nil ?_
  refine enumX F hrl R.h fun e it h2 F2 en => ?_
  refine en.self _ _ h2 _ (fun _ _ e => e) ?_
  refine ⟨_, _, F2, en.self, fun D C g3 h3 tk3 F3 hD k3 nD nC lt => ?_⟩
  dsimp only at k3 nD nC lt
  have hfp : ∀ b ∈ [e, it, rp], b < h2.objs.size := en.lt
  have hwr : ∀ b ∈ [e, it], b < D := fun b hb => Nat.lt_of_lt_of_le (hfp b (by rcases List.mem_cons.mp hb with rfl | hb; exact List.mem_cons_self; exact List.mem_cons_of_mem _ (List.mem_cons.mpr (.inl (List.mem_singleton.mp hb))))) lt.1
  have hCf : C ∉ [e, it, rp] := notIn_of hfp (Nat.le_trans lt.1 (Nat.le_of_lt lt.2))
  have hDf : D ∉ [e, it, rp] := notIn_of hfp lt.1
  have st3 : enSt e it rp (ys.map Prod.fst).toArray 0 h3 := (en.W [] 0 ⟨0, 0, 0, 0⟩).frame _ _ _ en.st fun b _ o e => F3.keep _ _ (k3 b o e)
  have hsg3 : ∀ b o, g.get? b = some o → g3.get? b = some o ∧ b ≠ D ∧ b ∉ [e, it] := fun b o eb => by
    have e2 := F2.keep _ _ eb
    refine ⟨k3 _ _ e2, Nat.ne_of_lt (Nat.lt_of_lt_of_le (Heap.lt_size e2) lt.1), fun hm => ?_⟩
    rcases List.mem_cons.mp hm with rfl | hm
    · rw [en.ne] at eb; cases eb
    · rw [List.mem_singleton.mp hm, en.ni] at eb; cases eb
  refine compL1f (en.W _ _ _) hCf hDf hwr F3 st3 hD ?_ (fun i vs _ => IL vs (wholes sps (ys.map (·.2)) i)) ?_ ?_ ?_ ?_ ?_
  · simp; omega
  · exact fun _ => ⟨rfl, fun i n e => by simp [wholes] at e⟩
  · intro i vs _ hj
    rw [hj.1]
    unfold wholes
    exact Nat.le_trans (List.length_filter_le _ _) (by simp)
  · exact fun _ _ _ _ h _ => h
  · intro E₁ i gg hh tk vs v hi Fg hid hp hl hj kp Kx Ky kx ky
    obtain ⟨T, vals, rfl, ⟨ti, x, hx, rfl⟩, hT⟩ := hp
    have hTg := Fg.tup hid hT
    have hsg : ∀ b o, g.get? b = some o → gg.get? b = some o := fun b o eb => let ⟨a1, a2, a3⟩ := hsg3 b o eb; kp b o a2 a3 a1
    have Gg := G.keeps hsg
    have hi' : i < ys.length := by simpa using hi
    have hx' : x = ys[i].1 := by
      have : (ys.map Prod.fst)[i]? = some x := by simpa using hx
      simpa [hi'] using this.symm
    subst hx'
    obtain ⟨ep, t1, t2, t3, eep, hep⟩ := At3.keeps (hra ys[i] (by simp)) hsg
    rw [eep] at hTg
    refine unpackX (vs := [_, _]) Fg R.h hTg fun h4 F4 => ?_
    show wpAny _ _ (assignInOrder [assign _ _, assign _ _] [_, _]) _ _ _
    walk_at "S"
    rename_i h5 F5
    refine tupItem (i := 1) (isTup_obj (F5.keep _ _ hep)) rfl rfl (by show 3 < _; decide) ?_
    walk_at "S"
    walk_at "bl"
    refine evs_cons ?_
    walk_at "S"
    refine ldC (F5.cell (hcell.keeps hsg)) ?_
    walk_at "S"
    refine tupItem (i := 2) (isTup_obj (F5.keep _ _ hep)) rfl rfl (by show 3 < _; decide) ?_
    obtain ⟨tps, hnl, htl, hat⟩ := hn
    have hpi := hpl ys[i] (by simp)
    obtain ⟨hnm, tn, hpp, hv, hto, _, _⟩ := (hat ys[i].2.2.2 _ _ (List.getElem?_eq_getElem (by omega)) (List.getElem?_eq_getElem hpi)).keeps hsg
    refine lstItem (i := ys[i].2.2.2) (v := .ref (tps[ys[i].2.2.2]'(by omega))) (F5.list (hnl.at fun o e => hsg _ o e)) (by simp [htl, hpi]) rfl (by simp; omega) ?_
    walk_at "S"
    refine tupItem (i := 0) (isTup_obj (F5.keep _ _ hto)) rfl rfl (by show 2 < _; decide) ?_
    refine evs_nil ?_
    refine P.len_str (x := ⟨(sps[ys[i].2.2.2]).toArray⟩) (by have := hnm.len; show ¬ (((sps[ys[i].2.2.2]).toArray.size : Nat) : Int) ≥ _; simp only [List.size_toArray]; omega) ?_
    walk_at "S"
    have hds : (ys.map (·.2)).getD i ([], 0, 0) = ys[i].2 := by simp [List.getD, hi']
    have hb : (((ys[i].2.2.1 : Nat) : Int) == (((⟨(sps[ys[i].2.2.2]).toArray⟩ : Str).length : Nat) : Int)) = isWhole sps ys[i].2 := by
      have e1 : (⟨(sps[ys[i].2.2.2]).toArray⟩ : Str).length = (sps[ys[i].2.2.2]).length := by show (sps[ys[i].2.2.2]).toArray.size = _; simp
      have e2 : sps.getD ys[i].2.2.2 [] = sps[ys[i].2.2.2] := by simp [List.getD, hpi]
      unfold isWhole
      rw [e1, e2]
      by_cases e : ys[i].2.2.1 = (sps[ys[i].2.2.2]).length
      · simp [e]
      · simp only [e, decide_false, beq_eq_false_iff_ne, ne_eq]; omega
    rw [hb]
    have hws := wholes_succ sps (ys.map (·.2)) i
    rw [hds] at hws
    cases ew : isWhole sps ys[i].2 with
    | true =>
      rw [if_pos rfl]
      rw [ew, if_pos rfl] at hws
      walk_at "S"
      exact kx _ gg _ _ _ F5 (fun _ _ e => e) (by rw [hws]; exact hj.snoc)
    | false =>
      rw [if_neg Bool.false_ne_true]
      rw [ew, if_neg Bool.false_ne_true, List.append_nil] at hws
      exact ky gg _ _ _ F5 (fun _ _ e => e) (by rw [hws]; exact hj)
  · intro gg hh tk vs Fg hl hj kp
    have hLlt : L < h2.objs.size := by obtain ⟨m, hn2, _⟩ := F2.ns; exact hn2.lt
    refine ⟨gg, _, Fg, fun o eo => ?_, fun g5 h5 tk5 F5 k5 => ?_⟩
    · refine kp L o (Nat.ne_of_lt (Nat.lt_of_lt_of_le hLlt lt.1)) (fun hm => ?_) (k3 _ _ eo)
      rcases List.mem_cons.mp hm with h | hm
      · exact en.Le h
      · exact en.Li (List.mem_singleton.mp hm)
    · have hDL : D ≠ L := Nat.ne_of_gt (Nat.lt_of_lt_of_le hLlt lt.1)
      refine h g5 h5 tk5 D vs F5 (by obtain ⟨m, ho⟩ := hl; exact ⟨m, k5 _ _ hDL ho⟩) (by simpa using hj) fun b o eb => ?_
      obtain ⟨a1, a2, a3⟩ := hsg3 b o eb
      exact k5 b o (F.ne eb) (kp b o a2 a3 a1)

theorem srt3_perm {xs ys : List (Value × T3)} {ds : List T3} (h : ys.Perm xs) (e : xs.map Prod.snd = ds) : (ys.map Prod.snd).Perm ds := e ▸ h.map Prod.snd
theorem srt3_pw {ys : List (Value × T3)} (h : ys.Pairwise fun a b => lt3 b.2 a.2 = false) : (ys.map Prod.snd).Pairwise fun a b => lt3 b a = false := List.pairwise_map.mpr h

set_option maxHeartbeats 4000000 in
theorem row_sort {np : Addr} {sps : List (List Nat)} {pm doc : Value} {c : Addr} {Q : Flow → Shared → Prop} {g₁ : Heap} (R1 : Rm A 2) (G1 : Gd w mg mb g₁) (F : Fx g₁ L s.heap l)
    (hcell : g₁.IsCell (L + 1) (some (.ref np))) (hn : NamesAt g₁ np sps) (hlen : sps.length ≤ 10)
    (hQ : ∀ g' h' tk rp (ys : List (Value × T3)), Fx g' L h' (put l "row" (.ref rp)) → g'.PlainList rp (ys.map Prod.fst).toArray → (∀ y ∈ ys, At3 g' y.1 y.2) → (ys.map Prod.snd).Perm (rowOf sps) → (ys.map Prod.snd).Pairwise (fun a b => lt3 b a = false) →
      (∀ b o, g₁.get? b = some o → g'.get? b = some o) → Q .next { s with heap := h', toks := tk }) :
    wpAny (MM w) A (exec (stN 21 0) (callEnvC (fdOf 21 .none pm (.ref c) doc) L fa)) Q E s := by
  obtain ⟨tps, hnl, htl, hat⟩ := hn
  refine wpAny_Assign_Name ?_
  walk_at "bl"
  refine evs_cons ?_
  refine compE (L := L) (cl := []) (closureFor_none (by decide +kernel)) ?_
  refine callTy F G1 (by (simp only [blts, List.lookup, String.reduceBEq] <;> rfl)) ?_
  refine evs_cons ?_
  refine ldC (F.cell hcell) ?_
  refine evs_nil ?_
  refine enumX F hnl R1.h fun e it h2 F2 en => ?_
  refine en.self _ _ h2 _ (fun _ _ e => e) ?_
  refine ⟨_, _, F2, en.self, fun D C g3 h3 tk3 F3 hD k3 nD nC lt => ?_⟩
  dsimp only at k3 nD nC lt
  have st3 : enSt e it np (tps.map Value.ref).toArray 0 h3 := (en.W [] 0 ⟨0, 0, 0, 0⟩).frame _ _ _ en.st fun b _ o e => F3.keep _ _ (k3 b o e)
  have hfp : ∀ b ∈ [e, it, np], b < h2.objs.size := en.lt
  have hwr : ∀ b ∈ [e, it], b < D := fun b hb => Nat.lt_of_lt_of_le (hfp b (by rcases List.mem_cons.mp hb with rfl | hb; exact List.mem_cons_self; exact List.mem_cons_of_mem _ (List.mem_cons.mpr (.inl (List.mem_singleton.mp hb))))) lt.1
  have hCf : C ∉ [e, it, np] := notIn_of hfp (Nat.le_trans lt.1 (Nat.le_of_lt lt.2))
  have hDf : D ∉ [e, it, np] := notIn_of hfp lt.1
  have hsg3 : ∀ b o, g₁.get? b = some o → g3.get? b = some o ∧ b ≠ D ∧ b ∉ [e, it] := fun b o eb => by
    have e2 := F2.keep _ _ eb
    refine ⟨k3 _ _ e2, Nat.ne_of_lt (Nat.lt_of_lt_of_le (Heap.lt_size e2) lt.1), fun hm => ?_⟩
    rcases List.mem_cons.mp hm with rfl | hm
    · rw [en.ne] at eb; cases eb
    · rw [List.mem_singleton.mp hm, en.ni] at eb; cases eb
  have hall : ∀ x ∈ sps, x.length ≤ 5 := fun x hx => by
    obtain ⟨i, hi, rfl⟩ := List.getElem_of_mem hx
    exact (hat i tps[i] sps[i] (List.getElem?_eq_getElem (by omega)) (List.getElem?_eq_getElem hi)).1.len
  refine compLoop2 (InvS _ D C [e, it] (tps.map Value.ref).toArray.size (enSt e it np (tps.map Value.ref).toArray) g3 (fun i vs g => Put3 D [] g vs (rowOf (sps.take i))) []) _
    (inv0 F3 st3 hD (by decide) (fun _ _ => ⟨rfl, fun i d e => by simp [rowOf] at e⟩) _) fun E₁ k s' hI => ?_
  refine turnA (above hwr) (en.W _ _ _) hCf hDf (fun i vs g g' hj kk => hj.mono fun b o hb _ e => kk b o hb e) (N := fun s₁ => CompEnd L _ _ D C (.ok .next) s₁) hI ?_ ?_
  · intro g h tk vs Fg hl hj kp
    have hnn : (tps.map Value.ref).toArray.size = sps.length := by simp [htl]
    rw [hnn, List.take_of_length_le (Nat.le_refl _)] at hj
    have hLlt : L < h2.objs.size := by obtain ⟨m, hn2, _⟩ := F2.ns; exact hn2.lt
    refine ⟨g, _, Fg, fun o eo => ?_, fun g5 h5 F5 k5 => ?_⟩
    · refine kp L o (Nat.ne_of_lt (Nat.lt_of_lt_of_le hLlt lt.1)) (fun hm => ?_) (k3 _ _ eo)
      rcases List.mem_cons.mp hm with h | hm
      · exact en.Le h
      · exact en.Li (List.mem_singleton.mp hm)
    · refine evs_nil ?_
      have hDL : D ≠ L := Nat.ne_of_gt (Nat.lt_of_lt_of_le hLlt lt.1)
      have hg5 : ∀ b o, g₁.get? b = some o → g5.get? b = some o := fun b o eb => let ⟨a1, a2, a3⟩ := hsg3 b o eb; k5 b o (F.ne eb) (kp b o a2 a3 a1)
      have G5 := G1.keeps hg5
      have hL5 : g5.PlainList D vs.toArray := by obtain ⟨m, ho⟩ := hl; exact ⟨m, k5 _ _ hDL ho⟩
      have hj5 : Put3 D [] g5 vs (rowOf sps) := hj.mono fun b o hb _ eb => k5 b o (Nat.ne_of_gt (Nat.lt_trans (Nat.lt_of_lt_of_le hLlt lt.1) hb)) eb
      have hrl : (rowOf sps).length ≤ 60 := by have := rowOf_len hall; omega
      refine sortedL (K := K3 w) sk3 (Value.none, ([], 0, 0)) rfl (by have := R1.u; omega) F5 (hj5.is hL5) (by show (vs.zip (rowOf sps) : List (Value × T3)).length < 64; rw [List.length_zip, hj.1]; omega) fun g6 h6 tk6 D6 ys F6 i6 k6 n6 sr => ?_
      have hvz : (vs.zip (rowOf sps) : List (Value × T3)).map Prod.snd = rowOf sps := by rw [List.map_snd_zip (by rw [hj.1]; exact Nat.le_refl _)]
      refine stL F6 fun h7 F7 => hQ g6 h7 _ D6 ys F7 i6.1 i6.2 ?_ ?_ fun b o eb => k6 _ _ (hg5 b o eb)
      · exact srt3_perm sr.1 hvz
      · exact srt3_pw sr.2
  · intro i g h tk vs v hi hk Fg hid st hp hl hsz hj kp
    obtain ⟨T, vals, rfl, ⟨ti, x, hx, rfl⟩, hT⟩ := hp
    have hTg := Fg.tup hid hT
    have hsg : ∀ b o, g₁.get? b = some o → g.get? b = some o := fun b o eb => let ⟨a1, a2, a3⟩ := hsg3 b o eb; kp b o a2 a3 a1
    have Gg := G1.keeps hsg
    have hi' : i < tps.length := by simpa using hi
    have hx' : x = .ref tps[i] := by
      have : (tps.map Value.ref)[i]? = some x := by simpa using hx
      simpa [hi'] using this.symm
    subst hx'
    have hsp : sps[i]? = some sps[i] := List.getElem?_eq_getElem (by omega)
    obtain ⟨hnm, tn, hpp, hv, hto0, hpl0, hSL⟩ := hat i tps[i] sps[i] (List.getElem?_eq_getElem hi') hsp
    have hto := hsg _ _ hto0
    have hpl : g.PlainList hpp hv.toArray := hpl0.at fun o e => hsg _ o e
    have hppD : hpp ≠ D := by obtain ⟨m, ho⟩ := hpl0; exact (hsg3 _ _ ho).2.1
    refine unpackX (vs := [_, _]) Fg R1.h hTg fun h4 F4 => ?_
    show wpAny _ _ (assignInOrder [assign _ _, assign _ _] [_, _]) _ _ _
    walk_at "S"
    rename_i h5 F5
    refine callTy F5 Gg (by (simp only [blts, List.lookup, String.reduceBEq] <;> rfl)) ?_
    walk_at "ev"
    refine tupItem (i := 1) (isTup_obj (F5.keep _ _ hto)) rfl rfl (by show 2 < _; decide) ?_
    refine evs_nil ?_
    refine enumX F5 hpl R1.h fun e2 it2 h6 F6 en2 => ?_
    refine en2.self _ _ h6 _ (fun _ _ e => e) ?_
    have hvl : hv.length = sps[i].length + 1 := by rw [hSL.1, headsOf_length]
    have hnl5 := hnm.len
    refine compStart2iS en2.self ?_
    have hfp2 : ∀ b ∈ [e2, it2, hpp], b < h6.objs.size := en2.lt
    have hCg : g.get? C = none := Fg.noL
    have ho6 : ∀ b o, g.get? b = some o → b ∉ [e2, it2] := fun b o eb hm => by
      rcases List.mem_cons.mp hm with rfl | hm
      · rw [en2.ne] at eb; cases eb
      · rw [List.mem_singleton.mp hm, en2.ni] at eb; cases eb
    have hDo : ∃ o, g.get? D = some o := by obtain ⟨m, ho⟩ := hl; exact ⟨_, ho⟩
    refine compL2i (g₀ := g) (vs₀ := vs) (en2.W _ _ _) ?_ ?_ F6 en2.st hl ?_
        (fun i2 vs2 g2 => Put3 D [e2, it2] g2 vs2 (rowOf (sps.take i) ++ (entriesOf i sps[i]).take i2)) ?_ ?_ ?_ ?_ ?_
    · intro hm
      rcases List.mem_cons.mp hm with h | hm
      · exact en2.Le h
      rcases List.mem_cons.mp hm with h | hm
      · exact en2.Li h
      · obtain ⟨m, ho⟩ := hpl
        exact Fg.ne ho (List.mem_singleton.mp hm).symm
    · intro hm
      obtain ⟨oD, hoD⟩ := hDo
      rcases List.mem_cons.mp hm with h | hm
      · exact ho6 _ _ hoD (by rw [h]; exact List.mem_cons_self)
      rcases List.mem_cons.mp hm with h | hm
      · exact ho6 _ _ hoD (by rw [h]; simp)
      · exact hppD (List.mem_singleton.mp hm).symm
    · have h1 := hj.1
      have h2 := rowOf_len (sps := sps.take i) fun x hx => hall x (List.mem_of_mem_take hx)
      have h3 : (sps.take i).length ≤ 10 := by simp; omega
      simp only [List.size_toArray]
      omega
    · intro g' kk
      rw [List.take_zero, List.append_nil]
      exact (hj.bad fun b o eb _ => ho6 b o eb).mono fun b o _ _ eb => kk b o eb
    · intro i2 vs2 g2 hj2
      have h1 := hj2.1
      have h2 := hj.1
      simp only [List.length_append, List.length_take] at h1
      omega
    · intro i2 vs2 g2 g2' hj2 kk
      exact hj2.mono fun b o hb hbad eb => kk b o (Nat.ne_of_gt hb) hbad eb
    · intro E₂ i2 g2 hh2 tk2 vs2 v2 hi2 F7 hid2 hp2 st7 hl2 hj2 kp2 Kx kx
      obtain ⟨T2', vals2, rfl, ⟨ti2, x2, hx2, rfl⟩, hT2⟩ := hp2
      have hT2g := F7.tup hid2 hT2
      have hi2' : i2 ≤ sps[i].length := by have : i2 < hv.length := by simpa using hi2
                                           omega
      obtain ⟨th, hxh⟩ := hSL.2 i2 _ (headsOf_get _ hi2')
      have hx2' : x2 = sv (letL (sps[i].take i2)) th := by
        have : hv[i2]? = some x2 := by simpa using hx2
        rw [hxh] at this; exact (Option.some.inj this).symm
      subst hx2'
      refine unpackX (vs := [_, _]) F7 R1.h hT2g fun h8 F8 => ?_
      show wpAny _ _ (assignInOrder [assign _ _, assign _ _] [_, _]) _ _ _
      walk_at "S"
      rename_i h9 F9
      refine tupF (L := C) ?_
      walk_at "ev"; walk_at "ev"; walk_at "ev"
      refine evs_nil ⟨Nat.le_of_ble_eq_true rfl, _, _, F9, fun ga ha p Fa ea ka na la => ?_⟩
      refine kx _ ga ha _ (by walk_at "sub") ka ?_
      rw [List.take_succ, entriesOf_get hi2', ← List.append_assoc]
      have gp : ∀ b o, g2.get? b = some o → b < p := fun b o eb => la b o (F9.keep _ _ eb)
      refine (hj2.mono fun b o _ _ e => ka b o e).snoc ⟨p, _, _, _, ?_, ?_, rfl, ea⟩
      · obtain ⟨m, ho⟩ := hl2; exact gp _ _ ho
      · obtain ⟨⟨old, he7⟩, ⟨oi, hit7, _⟩, _⟩ := st7
        intro hm
        rcases List.mem_cons.mp hm with h | hm
        · exact absurd (gp _ _ (hid2 _ _ (Ne.symm en2.Le) he7)) (by rw [h]; exact Nat.lt_irrefl _)
        · exact absurd (gp _ _ (hid2 _ _ (Ne.symm en2.Li) hit7)) (by rw [List.mem_singleton.mp hm]; exact Nat.lt_irrefl _)
    · intro g2 hh2 tk2 vs2 F7 hl2 hj2 kp2
      have hfull : (entriesOf i sps[i]).take hv.toArray.size = entriesOf i sps[i] := List.take_of_length_le (by rw [entriesOf_len]; simp; omega)
      rw [hfull, ← rowOf_take hsp] at hj2
      have hsz2 : vs2.length < 2 ^ 20 := by
        have h1 := hj2.1
        have h2 := rowOf_len (sps := sps.take (i + 1)) fun x hx => hall x (List.mem_of_mem_take hx)
        have h3 : (sps.take (i + 1)).length ≤ 10 := by simp; omega
        omega
      refine turnB1 (en.W [] 0 ⟨0, 0, 0, 0⟩) hCf hDf (M := fun b => D < b) (fun i vs g g' hj kk => hj.mono fun b o hb _ e => kk b o hb e) hi hk hid st kp (F7.sub (l' := []) fun k v e => by simp at e) hl2 hsz2
        (fun b o hb eb => kp2 b o hb (ho6 b o eb) eb) ?_
      exact hj2.bad fun b o _ _ => by simp
end
end
section
open PySem.W PySem.SeqAt
section
variable {w : World} {A : Around} {E : Value → Shared → Prop} {s : Shared} {mg mb : Str → Option Value} {g : Heap} {L : Addr} {l : List (String × Value)} {env : Env}

/-- a slice of a list -/
theorem sliceX {value slice : Expr} {lp : Addr} {xs zs : List Value} {vl vu : Value} {lo hi : Option Int} {Q : Value → Shared → Prop} (F : Fx g L s.heap l) (hl : g.PlainList lp xs.toArray) (pl : IsPart vl lo) (pu : IsPart vu hi)
    (hz : kms_pick xs lo hi = zs) (hsz : xs.length < 2 ^ 20)
    (h : ∀ g' h' D, Fx g' L h' l → g'.PlainList D zs.toArray → (∀ b o, g.get? b = some o → g'.get? b = some o) → g.get? D = none → Q (.ref D) { s with heap := h' })
    (hs : subscripted slice false (.ref lp) (.ref s.heap.objs.size) = operate [.ref s.heap.objs.size, .ref lp] (getItem (.ref lp) (.ref s.heap.objs.size)) := by with_unfolding_all rfl)
    (ht : ∀ r, letTemporaryGo value (.ref lp) r = pure () := by intro _; with_unfolding_all rfl) :
    wpAny (MM w) A (subscriptTail value slice (.ref lp) (.ref s.heap.objs.size)) Q E { s with heap := s.heap.push { cls := .type "slice", data := .fields #[vl, vu, .none] } } := by
  refine slice_listK (F.list hl).isList pl pu ?_ hs ht (by rw [sizeLine_eq]; simp; omega)
  obtain ⟨g1, F1, o1, k1, n1, _⟩ := F.push { cls := .type "slice", data := .fields #[vl, vu, .none] }
  obtain ⟨g2, F2, o2, k2, n2, _⟩ := F1.push { cls := .type "list", data := .seq (slicePick xs.toArray lo hi none) }
  rw [Heap.size_push] at o2 n2
  rw [kms_pick_eq, hz] at *
  refine h g2 _ _ F2 ⟨_, o2⟩ (fun b o e => k2 _ _ (k1 _ _ e)) ?_
  cases e : g.get? (s.heap.objs.size + 1) with
  | none => rfl
  | some o => rw [k1 _ _ e] at n2; cases n2

theorem sliceE {lower upper : Option Expr} {p : Pos} {Q : Value → Shared → Prop}
    (h : wpAny (MM w) A (evalPart lower env) (fun l s₁ => wpAny (MM w) A (evalPart upper env) (fun u s₂ => Q (.ref s₂.heap.objs.size) { s₂ with heap := s₂.heap.push { cls := .type "slice", data := .fields #[l, u, .none] } }) E s₁) E s) :
    wpAny (MM w) A (eval (.Slice lower upper none p) env) Q E s :=
  wpAny_Slice (wpAny_mono h (fun _ _ h1 => wpAny_mono h1 (fun _ _ h2 => evalPart_none_step h2) fun _ _ x => x) fun _ _ x => x)

theorem pick_from {xs : List Value} {n : Nat} : kms_pick xs (some (n : Int)) none = xs.drop n := by
  unfold kms_pick kms_lo kms_hi
  have : ¬ ((n : Int) < 0) := by omega
  simp only [this, if_false]
  rw [Int.toNat_natCast]
  rcases Nat.lt_or_ge n xs.length with h | h
  · rw [Nat.min_eq_left (Nat.le_of_lt h), List.take_of_length_le (by simp)]
  · rw [Nat.min_eq_right h, List.drop_of_length_le (Nat.le_refl _), List.drop_of_length_le h, List.take_nil]
theorem pick_upto {xs : List Value} {n : Nat} : kms_pick xs none (some (n : Int)) = xs.take n := by
  unfold kms_pick kms_lo kms_hi
  have : ¬ ((n : Int) < 0) := by omega
  simp only [this, if_false]
  rw [Int.toNat_natCast, List.drop_zero, Nat.sub_zero]
  rcases Nat.lt_or_ge n xs.length with h | h
  · rw [Nat.min_eq_left (Nat.le_of_lt h)]
  · rw [Nat.min_eq_right h, List.take_of_length_le (Nat.le_refl _), List.take_of_length_le h]

/-- a for loop over turns -/
theorem forK {target : Expr} {I : Addr} {fp wr : List Addr} {n : Nat} {P Md : Nat → Value → Heap → Prop} {St : Nat → Heap → Prop} {body : List Stmt} {Q : Flow → Shared → Prop}
    (W : KTurns P0 w A target I fp wr n P Md St) (hL : L ∉ fp) (F : Fx g L s.heap l) (st : St 0 s.heap) (J : Nat → Heap → List (String × Value) → Prop)
    (mono : ∀ i l (g g' h : Heap), Fx g L h l → St i h → J i g l → (∀ b o, b ∉ wr → g.get? b = some o → g'.get? b = some o) → J i g' l) (j0 : J 0 g l)
    (step : ∀ E₁ i g h tk l v, i < n → Fx g L h l → (∀ b o, b ≠ L → h.get? b = some o → g.get? b = some o) → P i v h → St (i + 1) h → J i g l →
      wpAny (MM w) A (assign target env v) (fun _ s₂ => wpAny (MM w) A (execs body env) (fun f s₃ => match f with
          | .next | .cont => ∃ g' h' tk' l', s₃ = { s with heap := h', toks := tk' } ∧ Fx g' L h' l' ∧ (∀ b ∈ fp, ∀ o, g.get? b = some o → g'.get? b = some o) ∧ J (i + 1) g' l'
          | .brk => Q .next s₃
          | .ret v => Q (.ret v) s₃) E₁ s₂) E₁ { s with heap := h, toks := tk })
    (fin : ∀ g h tk l, Fx g L h l → J n g l → Q .next { s with heap := h, toks := tk }) :
    codeAny (MM w) A (.forLoop target (.ref I) body [] env) (fun r s' => match r with | .ok f => Q f s' | .error e => cameBackBy (MM w) A env E e s') s := by
  have hLw : L ∉ wr := fun h => hL (W.sub _ h)
  refine forLoopX (fun k s' => ∃ i g h tk l, i ≤ n ∧ k = n - i ∧ s' = { s with heap := h, toks := tk } ∧ Fx g L h l ∧ St i h ∧ J i g l) n ⟨0, g, s.heap, s.toks, l, Nat.zero_le _, rfl, rfl, F, st, j0⟩ ?_
  rintro E₁ k s' ⟨i, g, h, tk, l, hi, rfl, rfl, F, st, j⟩
  have nxt : ∀ h' : Heap, (∀ b o, b ∉ wr → h.get? b = some o → h'.get? b = some o) → Fx (h'.hide L) L h' l ∧ J i (h'.hide L) l := fun h' kk =>
    ⟨F.re fun o e => kk _ _ hLw e, mono _ _ _ _ _ F st j fun b o hb e => (Heap.hide_ne _ (F.ne e)).trans (kk b o hb (F.keep b o e))⟩
  rcases Nat.lt_or_ge i n with hlt | hge
  · refine W.item i _ _ _ hlt st fun v h' tk' md kk => ?_
    refine W.go i v _ _ _ md fun h2 hp st2 k2 => ?_
    obtain ⟨F2, j2⟩ := nxt h2 fun b o hb e => k2 b o hb (kk b o hb e)
    have hid : ∀ b o, b ≠ L → h2.get? b = some o → (h2.hide L).get? b = some o := fun b o hb e => (Heap.hide_ne _ hb).trans e
    refine wpAny_mono (step E₁ i _ h2 tk' l v hlt F2 hid hp st2 j2) (fun _ s₂ h₂ => wpAny_mono h₂ (fun f s₃ h₃ => ?_) fun _ _ x => x) fun _ _ x => x
    have key : (∃ g' h' tk' l', s₃ = { s with heap := h', toks := tk' } ∧ Fx g' L h' l' ∧ (∀ b ∈ fp, ∀ o, (h2.hide L).get? b = some o → g'.get? b = some o) ∧ J (i + 1) g' l') →
        ∃ m, m < n - i ∧ ∃ i g h tk l, i ≤ n ∧ m = n - i ∧ s₃ = { s with heap := h, toks := tk } ∧ Fx g L h l ∧ St i h ∧ J i g l := by
      rintro ⟨g', h', tk', l', e, F', kf, j'⟩
      refine ⟨n - (i + 1), subLt hlt, i + 1, g', h', tk', l', hlt, rfl, e, F', W.frame _ _ _ st2 fun b hb o eo => ?_, j'⟩
      exact F'.keep _ _ (kf b hb o (hid b o (fun e => hL (e ▸ hb)) eo))
    cases f with
    | next => exact key h₃
    | cont => exact key h₃
    | brk => exact h₃
    | ret v => exact h₃
  · have : i = n := Nat.le_antisymm hi hge
    subst this
    refine W.done _ _ _ st fun h' tk' kk => ?_
    obtain ⟨F2, j2⟩ := nxt h' kk
    exact fin _ _ _ _ F2 j2

/-- reversed(list), ready for a loop -/
theorem revX {lp : Addr} {items : Array Value} {Q : Value → Shared → Prop} (F : Fx g L s.heap l) (hl : g.PlainList lp items) (hh : A.handled = none)
    (h : ∀ I g' h', Fx g' L h' l → (∀ b o, g.get? b = some o → g'.get? b = some o) → g.get? I = none → L ≠ I → lp ≠ I →
      Walks P0 w A I [I, lp] [I] items.size (fun i v => items[items.size - 1 - i]? = some v) (fun i h => i ≤ items.size ∧ h.IsRevIter I lp ((items.size : Int) - 1 - (i : Int)) ∧ h.IsList lp items) →
      (0 ≤ items.size ∧ h'.IsRevIter I lp ((items.size : Int) - 1 - ((0 : Nat) : Int)) ∧ h'.IsList lp items) → Q (.ref I) { s with heap := h' }) :
    wpAny (MM w) A (call (.type "reversed") [.ref lp]) Q E s := by
  refine call_reversed_list (F.list hl).isList ?_
  obtain ⟨g', F', o', k', n', hL⟩ := F.push (revObj lp ((items.size : Int) - 1))
  have hne : lp ≠ s.heap.objs.size := by rintro rfl; obtain ⟨n, ho⟩ := hl; rw [n'] at ho; cases ho
  refine h _ g' _ F' k' n' (Ne.symm hL) hne (Walks.listRev hh _ _ hne items) ⟨Nat.zero_le _, ?_, ((F'.list (hl.at fun o e => k' _ _ e))).isList⟩
  have e : (items.size : Int) - 1 - ((0 : Nat) : Int) = (items.size : Int) - 1 := by omega
  rw [e]
  exact ⟨_, F'.keep _ _ o', rfl, rfl⟩

theorem dictOf_at {h h' : Heap} {d : Addr} {kvs : List (Int × Value)} (x : h.DictOf (intKind P0 w) d kvs) (k : ∀ o, h.get? d = some o → h'.get? d = some o) : h'.DictOf (intKind P0 w) d kvs := by
  obtain ⟨o, ho, r⟩ := Heap.dictOf_iff.mp x
  exact Heap.dictOf_iff.mpr ⟨o, k o ho, r⟩
theorem dictOf_ne {d : Addr} {kvs : List (Int × Value)} (F : Fx g L s.heap l) (x : g.DictOf (intKind P0 w) d kvs) : d ≠ L := by
  obtain ⟨o, ho, _⟩ := Heap.dictOf_iff.mp x
  exact F.ne ho

theorem dsetX {d : Addr} {kvs : List (Int × Value)} {k : Int} {t : Tok} {v : Value} {Q : Unit → Shared → Prop} (F : Fx g L s.heap l) (x : g.DictOf (intKind P0 w) d kvs) (hsz : kvs.length < 2 ^ 20)
    (h : ∀ g' h' tk, Fx g' L h' l → g'.DictOf (intKind P0 w) d (stored kvs k v) → (∀ b o, b ≠ d → g.get? b = some o → g'.get? b = some o) → Q () { s with heap := h', toks := tk }) :
    wpAny (MM w) A (setItem (.ref d) (.int k t) v) Q E s := by
  have hdL := dictOf_ne F x
  refine wpAny_setItem_pairs (knd := intKind P0 w) (k := k) (by simp [intKind, Value.isInt]) (dictOf_at x fun o e => F.keep _ _ e) (fun h' hm hs => ?_) (by rw [sizeLine_eq]; omega)
  obtain ⟨F', k1, k2⟩ := F.change hdL (h' := h') (p := d) fun b o hb e => (hs.2 b hb).trans e
  exact h _ _ _ F' (dictOf_at hm fun o e => k2 _ _ hdL e) k1

theorem dictNewX {pos : Pos} {Q : Value → Shared → Prop} (F : Fx g L s.heap l)
    (h : ∀ g' h' d, Fx g' L h' l → g'.DictOf (intKind P0 w) d [] → (∀ b o, g.get? b = some o → g'.get? b = some o) → g.get? d = none → (∀ b o, g.get? b = some o → b < d) → Q (.ref d) { s with heap := h' }) :
    wpAny (MM w) A (eval (.Dict [] [] pos) env) Q E s := by
  refine wpAny_Dict_empty ?_
  obtain ⟨g', F', o', k', n', hL⟩ := F.push { cls := .type "dict", data := .dict #[] }
  refine h g' _ _ F' ?_ k' n' fun b o e => Heap.lt_size (F.keep _ _ e)
  exact Heap.dictOf_iff.mpr ⟨_, o', #[], _, ⟨rfl, rfl, rfl⟩, rfl, fun _ h => by simp at h, .nil, by simp⟩
end
end
section
open PySem.W PySem.SeqAt
noncomputable abbrev V3 := Value × T3
noncomputable def stI (kvs : List (Int × V3)) (y : V3) : List (Int × V3) :=
  if kvs.any (fun kv => kv.1 = (y.2.2.2 : Int)) then kvs.map (fun kv => if kv.1 = (y.2.2.2 : Int) then (kv.1, y) else kv) else kvs ++ [((y.2.2.2 : Int), y)]
noncomputable def foldD (zs : List V3) : List (Int × V3) := zs.foldr (fun y kvs => stI kvs y) []
noncomputable def dv (kvs : List (Int × V3)) : List (Int × Value) := kvs.map fun p => (p.1, p.2.1)
theorem dv_stI (kvs : List (Int × V3)) (y : V3) : dv (stI kvs y) = stored (dv kvs) (y.2.2.2 : Int) y.1 := by
  unfold stI stored
  have e : (dv kvs).any (fun kv => kv.1 = (y.2.2.2 : Int)) = kvs.any (fun kv => kv.1 = (y.2.2.2 : Int)) := by
    unfold dv; rw [List.any_map]; rfl
  rw [e]
  split
  · unfold dv
    rw [List.map_map, List.map_map]
    refine List.map_congr_left fun p _ => ?_
    simp only [Function.comp]
    split <;> rfl
  · simp [dv]
theorem foldD_cons (y : V3) (zs : List V3) : foldD (y :: zs) = stI (foldD zs) y := rfl
theorem stI_mem {kvs : List (Int × V3)} {y : V3} {p : Int × V3} (h : p ∈ stI kvs y) : p = ((y.2.2.2 : Int), y) ∨ (p ∈ kvs ∧ p.1 ≠ (y.2.2.2 : Int)) := by
  unfold stI at h
  split at h
  · obtain ⟨q, hq, rfl⟩ := List.mem_map.mp h
    split
    · rename_i e; exact .inl (by rw [e])
    · rename_i e; exact .inr ⟨hq, e⟩
  · rename_i hn
    rcases List.mem_append.mp h with h | h
    · refine .inr ⟨h, fun e => hn ?_⟩
      exact List.any_eq_true.mpr ⟨p, h, by simp [e]⟩
    · exact .inl (List.mem_singleton.mp h)
theorem stI_len (kvs : List (Int × V3)) (y : V3) : (stI kvs y).length ≤ kvs.length + 1 := by
  unfold stI; split <;> simp
theorem foldD_len : ∀ zs : List V3, (foldD zs).length ≤ zs.length
  | [] => Nat.le_refl _
  | y :: zs => by have := stI_len (foldD zs) y; have := foldD_len zs; rw [foldD_cons, List.length_cons]; omega
theorem stI_keys (kvs : List (Int × V3)) (y : V3) : (stI kvs y).map (·.1) = if kvs.any (fun kv => kv.1 = (y.2.2.2 : Int)) then kvs.map (·.1) else kvs.map (·.1) ++ [(y.2.2.2 : Int)] := by
  unfold stI
  split
  · rw [List.map_map]
    refine List.map_congr_left fun p _ => ?_
    simp only [Function.comp]
    split <;> rfl
  · simp
theorem foldD_nodup : ∀ zs : List V3, ((foldD zs).map (·.1)).Nodup
  | [] => by simp [foldD]
  | y :: zs => by
    rw [foldD_cons, stI_keys]
    have ih := foldD_nodup zs
    split
    · exact ih
    · rename_i hn
      rw [List.nodup_append]
      refine ⟨ih, by simp, fun a ha b hb => ?_⟩
      rw [List.mem_singleton.mp hb]
      rintro rfl
      obtain ⟨p, hp, e⟩ := List.mem_map.mp ha
      exact hn (List.any_eq_true.mpr ⟨p, hp, by simp [e]⟩)
theorem foldD_all : ∀ (zs : List V3) (z : V3), z ∈ zs → ∃ p ∈ foldD zs, p.1 = (z.2.2.2 : Int)
  | y :: zs, z, h => by
    have hk : ∀ k, k ∈ (foldD (y :: zs)).map (·.1) → ∃ p ∈ foldD (y :: zs), p.1 = k := fun k hk => by
      obtain ⟨p, hp, e⟩ := List.mem_map.mp hk; exact ⟨p, hp, e⟩
    refine hk _ ?_
    rw [foldD_cons, stI_keys]
    rcases List.mem_cons.mp h with rfl | h
    · split
      · rename_i ha
        obtain ⟨p, hp, e⟩ := List.any_eq_true.mp ha
        exact List.mem_map.mpr ⟨p, hp, by simpa using e⟩
      · simp
    · obtain ⟨p, hp, e⟩ := foldD_all zs z h
      have : (z.2.2.2 : Int) ∈ (foldD zs).map (·.1) := List.mem_map.mpr ⟨p, hp, e⟩
      split
      · exact this
      · exact List.mem_append_left _ this
theorem foldD_first : ∀ (zs : List V3), zs.Pairwise (fun a b => lt3 b.2 a.2 = false) → ∀ p ∈ foldD zs, p.2 ∈ zs ∧ p.1 = (p.2.2.2.2 : Int) ∧ ∀ z ∈ zs, (z.2.2.2 : Int) = p.1 → lt3 z.2 p.2.2 = false
  | [], _, p, h => by simp [foldD] at h
  | y :: zs, hs, p, h => by
    rw [foldD_cons] at h
    obtain ⟨hy, hs⟩ := List.pairwise_cons.mp hs
    rcases stI_mem h with rfl | ⟨hp, hne⟩
    · refine ⟨List.mem_cons_self, rfl, fun z hz _ => ?_⟩
      rcases List.mem_cons.mp hz with rfl | hz
      · exact tot3.irr _
      · exact hy z hz
    · obtain ⟨h1, h2, h3⟩ := foldD_first zs hs p hp
      refine ⟨List.mem_cons_of_mem _ h1, h2, fun z hz e => ?_⟩
      rcases List.mem_cons.mp hz with rfl | hz
      · exact absurd e.symm hne
      · exact h3 z hz e

section
variable {w : World} {A : Around} {E : Value → Shared → Prop} {s : Shared} {mg mb : Str → Option Value} {g : Heap} {L fa : Addr} {l : List (String × Value)}

/-- what _law_row gives -/
noncomputable def RowOut (g : Heap) (v : Value) (sps : List (List Nat)) (wish : Nat) : Prop :=
  ∃ T P1 P2, ∃ (ys xs : List V3) (cut : Nat), v = .ref T ∧ g.get? T = some (tupObj [.ref P1, .ref P2]) ∧ g.PlainList P1 ((ys.take cut).map Prod.fst).toArray ∧ g.PlainList P2 (xs.map Prod.fst).toArray ∧
    (∀ y ∈ ys, At3 g y.1 y.2) ∧ (ys.map Prod.snd).Perm (rowOf sps) ∧ (ys.map Prod.snd).Pairwise (fun a b => lt3 b a = false) ∧ (∃ k, (wholes sps (ys.map Prod.snd) ys.length)[wish - 1]? = some k ∧ cut = k + 1) ∧
    Srt (fun a b : V3 => lt3 a.2 b.2) ((foldD (ys.drop cut)).map (·.2)) xs

theorem row_first {rp fd : Addr} {ys : List V3} {cut : Nat} {tc : Tok} {pm doc : Value} {c : Addr} {Q : Flow → Shared → Prop} (R : Rm A 2) (G : Gd w mg mb g) (F : Fx g L s.heap l)
    (hrow : l.lookup "row" = some (.ref rp)) (hcut : l.lookup "cut" = some (.int cut tc)) (hfirst : l.lookup "first" = some (.ref fd))
    (hrl : g.PlainList rp (ys.map Prod.fst).toArray) (hra : ∀ y ∈ ys, At3 g y.1 y.2) (hyl : ys.length < 64) (hfd : g.DictOf (intKind P0 w) fd [])
    (hQ : ∀ g' h' tk l', Fx g' L h' l' → l'.lookup "row" = some (.ref rp) → l'.lookup "cut" = some (.int cut tc) → l'.lookup "first" = some (.ref fd) → g'.DictOf (intKind P0 w) fd (dv (foldD (ys.drop cut))) →
      (∀ b o, b ≠ fd → g.get? b = some o → g'.get? b = some o) → Q .next { s with heap := h', toks := tk }) :
    wpAny (MM w) A (exec (stN 21 4) (callEnvC (fdOf 21 .none pm (.ref c) doc) L fa)) Q E s := by
  refine wpAny_For ?_
  refine callTy F G (by (simp only [blts, List.lookup, String.reduceBEq] <;> rfl)) ?_
  refine evs_cons ?_
  refine Subscript_ ?_
  refine ldL F hrow ?_
  refine sliceE ?_
  refine evalPart_some_step ?_
  refine ldL F hcut ?_
  refine evalPart_none_step ?_
  have hzs : kms_pick (ys.map Prod.fst) (some (cut : Int)) none = (ys.drop cut).map Prod.fst := by rw [pick_from, List.map_drop]
  refine sliceX F hrl (.int _ _) .none hzs (by simp; omega) fun g1 h1 lp F1 hl1 k1 n1 => ?_
  refine evs_nil ?_
  refine revX F1 hl1 R.h fun I g2 h2 F2 k2 n2 hLI hlI W st => ?_
  refine W.self 0 _ _ _ st ?_
  have hk02 : ∀ b o, g.get? b = some o → g2.get? b = some o := fun b o e => k2 b o (k1 b o e)
  obtain ⟨ofd, hofd, esd, epd, _, hdd, _⟩ := Heap.dictOf_iff.mp hfd
  have hfl : fd ≠ lp := by rintro rfl; rw [n1] at hofd; cases hofd
  have hfI : fd ≠ I := by rintro rfl; rw [k1 _ _ hofd] at n2; cases n2
  have hIg : g.get? I = none := by
    cases e : g.get? I with
    | none => rfl
    | some o => rw [k1 _ _ e] at n2; cases n2
  have hlL : lp ≠ L := list_ne hl1 F1.noL
  have hn : ((ys.drop cut).map Prod.fst).toArray.size = (ys.drop cut).length := by simp
  refine forK (turnsName W (by intro v; rfl)) (fun hm => ?_) F2 st
    (fun i g' l' => g'.DictOf (intKind P0 w) fd (dv (foldD ((ys.drop cut).drop ((ys.drop cut).length - i)))) ∧ (∀ b o, b ≠ fd → g.get? b = some o → g'.get? b = some o) ∧
      l'.lookup "row" = some (.ref rp) ∧ l'.lookup "cut" = some (.int cut tc) ∧ l'.lookup "first" = some (.ref fd)) ?_ ?_ ?_ ?_
  · rcases List.mem_cons.mp hm with h | hm
    · exact hLI h
    · exact hlL (List.mem_singleton.mp hm).symm
  · rintro i l' ga gb _ _ _ ⟨d1, kp, q1, q2, q3⟩ kk
    refine ⟨dictOf_at d1 fun o e => kk _ _ (fun hm => hfI (List.mem_singleton.mp hm)) e, fun b o hb e => kk _ _ (fun hm => ?_) (kp b o hb e), q1, q2, q3⟩
    rw [List.mem_singleton.mp hm, hIg] at e; cases e
  · refine ⟨?_, fun b o _ e => hk02 b o e, hrow, hcut, hfirst⟩
    rw [Nat.sub_zero, List.drop_of_length_le (Nat.le_refl _)]
    exact dictOf_at hfd fun o e => hk02 _ o e
  · rintro E₁ i ga ha tk l' v hi Fa hid hv st' ⟨d1, kp, q1, q2, q3⟩
    rw [hn] at hi hv
    have hidx : (ys.drop cut).length - 1 - i < (ys.drop cut).length := by omega
    have hy : ∃ y, (ys.drop cut)[(ys.drop cut).length - 1 - i]? = some y ∧ v = y.1 ∧ y ∈ ys := by
      refine ⟨(ys.drop cut)[(ys.drop cut).length - 1 - i], List.getElem?_eq_getElem hidx, ?_, List.mem_of_mem_drop (List.getElem_mem hidx)⟩
      have := hv
      simp only [List.getElem?_toArray, List.getElem?_map, List.getElem?_eq_getElem hidx, Option.map_some, Option.some.injEq] at this
      exact this.symm
    obtain ⟨y, ey, rfl, hyy⟩ := hy
    obtain ⟨ep, t1, t2, t3, eep, hep⟩ := hra y hyy
    have hepa : ga.get? ep = some (tupObj [sv y.2.1 t1, .int y.2.2.1 t2, .int y.2.2.2 t3]) := kp _ _ (by rintro rfl; rw [hofd] at hep; rw [Option.some.inj hep] at hdd; cases hdd) hep
    rw [eep]
    refine wpAny_assign_Name ?_
    refine stL Fa fun h5 F5 => ?_
    have lke : (put l' "entry" (.ref ep)).lookup "entry" = some (.ref ep) := by rw [lookup_put]; simp
    have lkf : (put l' "entry" (.ref ep)).lookup "first" = some (.ref fd) := by rw [lookup_put]; simpa using q3
    have lkr : (put l' "entry" (.ref ep)).lookup "row" = some (.ref rp) := by rw [lookup_put]; simpa using q1
    have lkc : (put l' "entry" (.ref ep)).lookup "cut" = some (.int cut tc) := by rw [lookup_put]; simpa using q2
    refine wpAny_execs_cons ?_
    refine wpAny_Assign_Subscript ?_
    refine ldL F5 lke ?_
    refine ldL F5 lkf ?_
    refine Subscript_ ?_
    refine ldL F5 lke ?_
    refine wpAny_Constant_int ?_
    refine tupItem (i := 2) (isTup_obj (F5.keep _ _ hepa)) rfl rfl (by show 3 < _; decide) ?_
    have hfl' : (foldD ((ys.drop cut).drop ((ys.drop cut).length - i))).length ≤ ys.length := Nat.le_trans (foldD_len _) (by rw [List.length_drop, List.length_drop]; omega)
    refine dsetX F5 d1 (by unfold dv; rw [List.length_map]; omega) fun g6 h6 tk6 F6 d6 k6 => ?_
    refine wpAny_execs_nil ?_
    refine ⟨g6, h6, tk6, _, rfl, F6, fun b hb o e => k6 b o ?_ e, ?_, fun b o hb e => k6 b o hb (kp b o hb e), lkr, lkc, lkf⟩
    · rcases List.mem_cons.mp hb with rfl | hb
      · exact Ne.symm hfI
      · rw [List.mem_singleton.mp hb]; exact Ne.symm hfl
    · have e1 : (ys.drop cut).drop ((ys.drop cut).length - (i + 1)) = y :: (ys.drop cut).drop ((ys.drop cut).length - i) := by
        rw [show (ys.drop cut).length - (i + 1) = (ys.drop cut).length - 1 - i by omega, List.drop_eq_getElem_cons hidx]
        rw [List.getElem?_eq_getElem hidx] at ey
        rw [Option.some.inj ey, show (ys.drop cut).length - 1 - i + 1 = (ys.drop cut).length - i by omega]
      rw [e1, foldD_cons, dv_stI, eep]
      exact d6
  · rintro ga ha tk l' Fa ⟨d1, kp, q1, q2, q3⟩
    rw [hn, Nat.sub_self, List.drop_zero] at d1
    exact hQ ga ha tk l' Fa q1 q2 q3 d1 kp
end
end
section
open PySem.W PySem.SeqAt
section
variable {w : World} {A : Around} {E : Value → Shared → Prop} {s : Shared} {mg mb : Str → Option Value} {g : Heap} {L fa : Addr} {l : List (String × Value)} {env : Env}

theorem methValues {o : Expr} {apos pos : Pos} {d : Addr} {kvs : List (Int × Value)} {Q : Value → Shared → Prop} (lo : (d == sysModules) = false)
    (h : wpAny (MM w) A (eval o env) (fun ov s₁ => ov = .ref d ∧ s₁.heap.DictOf (intKind P0 w) d kvs ∧ Q (.ref s₁.heap.objs.size) { s₁ with heap := s₁.heap.push { cls := .type "dict_values", data := .fields #[.ref d] } }) E s)
    (hbase : attributeBase o (Str.ofString "values") env (eval o env) = eval o env := by kernel_rfl)
    (hfew : ((backTo pos (starEach ([] : List Expr) env)).all (fun x => !x.1) && (backToKw pos (keywordEach [] env)).all (fun x => x.1.isSome)
      && decide (([] : List Expr).length + ([] : List Keyword).length + (if ([] : List Keyword).isEmpty then 0 else 1) < 30)) = true := by kernel_rfl)
    (hline : (apos.endLine == pos.line) = true := by kernel_rfl) :
    wpAny (MM w) A (eval (.Call (.Attribute o (Str.ofString "values") apos) [] [] pos) env) Q E s := by
  refine methX PySem.F.plainAttrs_dict PySem.F.slot_dict_values PySem.F.type_dict_values (wpAny_mono h (fun ov s₁ h₁ => ?_) fun _ _ x => x) hbase hfew hline
  obtain ⟨rfl, hd, hq⟩ := h₁
  refine ⟨hd.typeIs, fun a e => ?_, callW_bltF (first := [.ref d]) (evs_nil ?_) rfl⟩
  · cases e
    obtain ⟨o, ho, _, _, ⟨_, hdn, _⟩, _⟩ := Heap.dictOf_iff.mp hd
    exact ⟨o, ho, hdn⟩
  · exact call_meetsIn PySem.F.slot_dict_values hd.typeIs PySem.F.entry_dict_values (PySem.F.args_dict_values_1 _) (meets_dict_values (intKind P0 w) d lo) ⟨⟨kvs, hd⟩, hq⟩

theorem row_ret {rp fd : Addr} {ys : List V3} {cut : Nat} {tc : Tok} {pm doc : Value} {c : Addr} {Q : Flow → Shared → Prop} (R : Rm A 2) (G : Gd w mg mb g) (F : Fx g L s.heap l) (lo : (fd == sysModules) = false)
    (hrow : l.lookup "row" = some (.ref rp)) (hcut : l.lookup "cut" = some (.int cut tc)) (hfirst : l.lookup "first" = some (.ref fd))
    (hrl : g.PlainList rp (ys.map Prod.fst).toArray) (hra : ∀ y ∈ ys, At3 g y.1 y.2) (hyl : ys.length < 64) (hfd : g.DictOf (intKind P0 w) fd (dv (foldD (ys.drop cut)))) (hsort : ys.Pairwise (fun a b => lt3 b.2 a.2 = false))
    (hQ : ∀ g' h' tk T P1 P2 xs, Fx g' L h' l → g'.get? T = some (tupObj [.ref P1, .ref P2]) → g'.PlainList P1 ((ys.take cut).map Prod.fst).toArray → g'.PlainList P2 (xs.map Prod.fst).toArray → (∀ x ∈ ys, At3 g' x.1 x.2) →
      Srt (fun a b : V3 => lt3 a.2 b.2) ((foldD (ys.drop cut)).map (·.2)) xs → (∀ b o, g.get? b = some o → g'.get? b = some o) → Q (.ret (.ref T)) { s with heap := h', toks := tk }) :
    wpAny (MM w) A (exec (stN 21 5) (callEnvC (fdOf 21 .none pm (.ref c) doc) L fa)) Q E s := by
  refine wpAny_Return_some ?_
  refine tupF (L := L) ?_
  refine evs_cons ?_
  refine Subscript_ ?_
  refine ldL F hrow ?_
  refine sliceE ?_
  refine evalPart_none_step ?_
  refine evalPart_some_step ?_
  refine ldL F hcut ?_
  have hzs : kms_pick (ys.map Prod.fst) none (some (cut : Int)) = (ys.take cut).map Prod.fst := by rw [pick_upto, List.map_take]
  refine sliceX F hrl .none (.int _ _) hzs (by simp; omega) fun g1 h1 P1 F1 hl1 k1 n1 => ?_
  have G1 := G.keeps k1
  refine evs_cons ?_
  refine callBl F1 G1 (by (simp only [blts, List.lookup, String.reduceBEq] <;> rfl)) ?_
  refine evs_cons ?_
  refine methValues (d := fd) (kvs := dv (foldD (ys.drop cut))) (lo := lo) ?_
  refine ldL F1 hfirst ⟨rfl, dictOf_at hfd fun o e => F1.keep _ _ (k1 _ _ e), ?_⟩
  obtain ⟨g2, F2, o2, k2, n2, _⟩ := F1.push { cls := .type "dict_values", data := .fields #[.ref fd] }
  refine evs_nil ?_
  have hd2 : (h1.push { cls := .type "dict_values", data := .fields #[.ref fd] }).DictOf (intKind P0 w) fd (dv (foldD (ys.drop cut))) := dictOf_at hfd fun o e => F2.keep _ _ (k2 _ _ (k1 _ _ e))
  obtain ⟨ep, hat⟩ := hd2.dictAt
  have hfl : (foldD (ys.drop cut)).length ≤ ys.length := Nat.le_trans (foldD_len _) (by rw [List.length_drop]; omega)
  have hmem : ∀ x ∈ (foldD (ys.drop cut)).map (·.2), x ∈ ys := fun x hx => by
    obtain ⟨p, hp, rfl⟩ := List.mem_map.mp hx
    exact List.mem_of_mem_drop (foldD_first _ (hsort.sublist (List.drop_sublist _ _)) p hp).1
  refine sortedC (K := K3 w) sk3 (Value.none, ([], 0, 0)) rfl (r := .ref h1.objs.size) (xs := (foldD (ys.drop cut)).map (·.2)) (by have := R.u; omega) F2 (fun x hx => ?_) ?_ (fun R' E' hR => ?_) ?_
  · exact At3.keeps (hra x (hmem x hx)) fun b o e => k2 _ _ (k1 _ _ e)
  · show ((foldD (ys.drop cut)).map (·.2) : List V3).length < 64
    rw [List.length_map]; omega
  · refine kdu_collect (kdl_values (knd := intKind P0 w) (kvs := dv (foldD (ys.drop cut))) (ep := ep)) R.h ⟨⟨_, F2.keep _ _ o2, rfl, rfl⟩, hat⟩ (by rw [sizeLine_eq]; unfold dv; rw [List.length_map]; omega) fun h' tk acc kk hacc => ?_
    have e : acc.toList = ((foldD (ys.drop cut)).map (·.2)).map (·.1) := by
      have := kdl_vals_eq (kvs := dv (foldD (ys.drop cut))) acc.toList (by have := hacc.1; simpa using this) (fun j v hv => by
        have := hacc.2 j v (by simpa using hv)
        exact this)
      rw [this]; unfold dv; rw [List.map_map, List.map_map]; rfl
    rw [e]
    exact hR h' tk kk
  · intro g6 h6 tk6 P2 xs F6 i6 k6 n6 sr
    refine evs_nil ⟨Nat.le_of_ble_eq_true rfl, _, _, F6, fun ga ha p Fa ea ka na la => ?_⟩
    refine hQ ga ha _ p P1 P2 xs Fa ea (hl1.at fun o e => ka _ _ (k6 _ _ (k2 _ _ e))) (i6.1.at fun o e => ka _ _ e) (fun x hx => At3.keeps (hra x hx) fun b o e => ka _ _ (k6 _ _ (k2 _ _ (k1 _ _ e)))) sr fun b o e => ka _ _ (k6 _ _ (k2 _ _ (k1 _ _ e)))

theorem wholes_lt {sps : List (List Nat)} {ds : List T3} {n k j : Nat} (h : (wholes sps ds n)[j]? = some k) : k < n := by
  have := List.mem_of_getElem? h
  unfold wholes at this
  exact List.mem_range.mp (List.mem_filter.mp this).1

theorem spec_row {fa np : Addr} {sps : List (List Nat)} {wish : Nat} {t : Tok} {Q : Value → Shared → Prop} (R : Rm A 3) (f : FnAt s.heap 21 fa) (G : Gd w mg mb s.heap) (hn : NamesAt s.heap np sps) (hlen : sps.length ≤ 10) (hw1 : 1 ≤ wish)
    (hwn : ∀ ds : List T3, ds.Perm (rowOf sps) → wish ≤ (wholes sps ds ds.length).length) (hpl : ∀ d ∈ rowOf sps, d.2.2 < sps.length) (h5 : ∀ sp ∈ sps, sp.length ≤ 5)
    (h : ∀ h' tk v, (∀ b o, s.heap.get? b = some o → h'.get? b = some o) → RowOut h' v sps wish → Q v { s with heap := h', toks := tk }) :
    wpAny (MM w) A (call (.ref fa) [.ref np, .int wish t]) Q E s := by
  refine enterC [("names", .ref np), ("wish", .int wish t)] "names" (.ref np) [("wish", .int wish t)] (i := 21) R f G.lim (fun L h₁ g₁ pm c' doc E' tk A' F hcell k1 n1 R1 => ?_) (hL := ?_) (hC := ?_)
  · have G1 := G.keeps k1
    have hn1 : NamesAt g₁ np sps := by
      obtain ⟨tps, a, b, c⟩ := hn
      exact ⟨tps, a.at fun o e => k1 _ _ e, b, fun i tp sp e1 e2 => (c i tp sp e1 e2).keeps k1⟩
    show wpAny (MM w) A' (execs [stN 21 0, stN 21 1, stN 21 2, stN 21 3, stN 21 4, stN 21 5] _) _ _ _
    refine wpAny_execs_cons ?_
    refine row_sort R1 G1 F hcell hn1 hlen fun g2 h2 tk2 rp ys F2 hl2 ha2 pm2 pw2 k2 => ?_
    have G2 := G1.keeps k2
    have hylen : ys.length = (rowOf sps).length := by have := pm2.length_eq; simpa using this
    have hrl := rowOf_len h5
    have hy64 : ys.length < 64 := by omega
    have hn2 : NamesAt g2 np sps := by
      obtain ⟨tps, a, b, c⟩ := hn1
      exact ⟨tps, a.at fun o e => k2 _ _ e, b, fun i tp sp e1 e2 => (c i tp sp e1 e2).keeps k2⟩
    refine wpAny_execs_cons ?_
    refine row_whole R1 G2 F2 (by rw [lookup_put, if_pos rfl]) (hcell.keeps k2) hn2 hl2 ha2 (fun y hy => hpl _ (pm2.mem_iff.mp (List.mem_map.mpr ⟨y, hy, rfl⟩))) hlen hy64 fun g3 h3 tk3 W vs F3 hl3 hil k3 => ?_
    have G3 := G2.keeps k3
    have hwl := hwn _ pm2
    rw [List.length_map] at hwl
    have hk : ∃ k, (wholes sps (ys.map Prod.snd) ys.length)[wish - 1]? = some k := ⟨_, List.getElem?_eq_getElem (by omega)⟩
    obtain ⟨k, hk⟩ := hk
    obtain ⟨tw, hvw⟩ := hil.2 _ _ hk
    have hklt := wholes_lt hk
    simp only [put, String.reduceEq, if_true, if_false] at F3
    refine wpAny_execs_cons ?_
    have hws : vs.length ≤ 60 := by
      rw [hil.1]; unfold wholes
      exact Nat.le_trans (List.length_filter_le _ _) (by simp; omega)
    show wpAny (MM w) A' (exec (Stmt.Assign [Expr.Name _ _] _ _) _) _ _ _
    walk_at "S"
    have e1 : (wish : Int) - 1 = ((wish - 1 : Nat) : Int) := by omega
    rw [e1]
    refine lstItem (i := wish - 1) (F3.list hl3) (by simpa using hvw) rfl (by simp; omega) ?_
    walk_at "S"
    rename_i h4 F4
    show wpAny (MM w) A' (exec (Stmt.Assign [Expr.Name _ _] _ _) _) _ _ _
    refine wpAny_Assign_Name ?_
    refine dictNewX F4 fun g5 h5 fd F5 d5 k5 n5 lt5 => ?_
    have G5 := G3.keeps k5
    have lo : (fd == sysModules) = false := by
      obtain ⟨o, _, _, ho, _⟩ := G3.g
      have h3 := lt5 _ _ ho
      exact beq_eq_false_iff_ne.mpr fun e => by subst e; exact absurd h3 (by decide)
    walk_at "st"
    rename_i h6 F6
    have ec : (k : Int) + 1 = ((k + 1 : Nat) : Int) := by omega
    rw [ec] at F6
    refine wpAny_execs_cons ?_
    have hl5 : g5.PlainList rp (ys.map Prod.fst).toArray := hl2.at fun o e => k5 _ _ (k3 _ _ e)
    refine row_first R1 G5 F6 (by walk_at "lk") (by walk_at "lk") (by walk_at "lk") hl5 (fun y hy => At3.keeps (ha2 y hy) fun b o e => k5 _ _ (k3 _ _ e)) hy64 d5 fun g7 h7 tk7 l7 F7 q1 q2 q3 d7 k7 => ?_
    have k37 : ∀ b o, g3.get? b = some o → g7.get? b = some o := fun b o e => k7 b o (by rintro rfl; rw [n5] at e; cases e) (k5 b o e)
    have G7 := G3.keeps k37
    refine wpAny_execs_cons ?_
    have pws : ys.Pairwise fun a b => lt3 b.2 a.2 = false := List.pairwise_map.mp pw2
    refine row_ret R1 G7 F7 lo q1 q2 q3 (hl2.at fun o e => k37 _ _ (k3 _ _ e)) (fun y hy => At3.keeps (ha2 y hy) fun b o e => k37 _ _ (k3 _ _ e)) hy64 d7 pws fun g8 h8 tk8 T P1 P2 xs F8 hT hP1 hP2 ha8 sr k8 => ?_
    refine h h8 tk8 _ (fun b o e => F8.keep _ _ (k8 _ _ (k37 _ _ (k3 _ _ (k2 _ _ (k1 _ _ e)))))) ?_
    exact ⟨T, P1, P2, ys, xs, k + 1, rfl, F8.keep _ _ hT, F8.list hP1, F8.list hP2, fun y hy => At3.keeps (ha8 y hy) F8.keep, pm2, pw2, ⟨k, hk, rfl⟩, sr⟩
  · intro pm c doc L k v e
    have : k = "wish" ∧ v = .int wish t := by
      simp only [List.lookup] at e
      split at e
      · rename_i h; cases e; exact ⟨by simpa using h, rfl⟩
      · cases e
    obtain ⟨rfl, rfl⟩ := this
    rfl
  · intro pm c doc L
    rfl
end
end
section
open PySem.W PySem.SeqAt
section
variable {w : World} {A : Around} {E : Value → Shared → Prop} {s : Shared} {mg mb : Str → Option Value} {g : Heap} {L fa : Addr} {l : List (String × Value)} {env : Env}

theorem Rm.in1 {n : Nat} (R : Rm A (n + 1)) : Rm A.in1 n := by
  obtain ⟨h, d, u⟩ := R
  refine ⟨h, ?_, ?_⟩
  · show A.depth + n ≤ 900; omega
  · show A.units + 1 + 10 * n ≤ 300; omega

/-- the key function on these values -/
noncomputable def KeyOk (w : World) (A : Around) (q : Addr) (g : Heap) (vs : List Value) (kd : Nat → T2) (s : Shared) : Prop :=
  ∀ (h : Heap) (tk i : Nat) (v : Value) (Q : Value → Shared → Prop) (E : Value → Shared → Prop), (∀ b o, g.get? b = some o → h.get? b = some o) → vs[i]? = some v →
    (∀ h' tk' kv, (∀ b o, h.get? b = some o → h'.get? b = some o) → At2 h' kv (kd i) → (∃ kp, kv = .ref kp ∧ ∀ b o, h.get? b = some o → b < kp) → Q kv { s with heap := h', toks := tk' }) → wpAny (MM w) A (call (.ref q) [v]) Q E { s with heap := h, toks := tk }

theorem KeyOk.mono {A : Around} {q : Addr} {g g' : Heap} {vs : List Value} {kd : Nat → T2} (x : KeyOk w A q g vs kd s) (k : ∀ b o, g.get? b = some o → g'.get? b = some o) : KeyOk w A q g' vs kd s :=
  fun h tk i v Q E hk => x h tk i v Q E fun b o e => hk b o (k b o e)

noncomputable def newsBut (h : Heap) (L S : Addr) : List (Addr × Obj) := (allObjs h L).filter fun p => p.1 ≠ S
theorem mem_newsBut {h : Heap} {L S b : Addr} {o : Obj} : (b, o) ∈ newsBut h L S ↔ b ≠ L ∧ b ≠ S ∧ h.get? b = some o := by
  unfold newsBut
  rw [List.mem_filter, mem_allObjs]
  constructor
  · rintro ⟨⟨a, b⟩, c⟩; exact ⟨a, by simpa using c, b⟩
  · rintro ⟨a, b, c⟩; exact ⟨⟨a, c⟩, by simpa using b⟩
theorem newsBut_ne {h : Heap} {L S : Addr} : ∀ p ∈ newsBut h L S, p.1 ≠ S := fun p hp => (mem_newsBut (b := p.1) (o := p.2).mp hp).2.1
theorem news_of {h : Heap} {L S : Addr} {o : Obj} (hS : h.get? S = some o) (hSL : S ≠ L) : News noHeap L h ((S, o) :: newsBut h L S) := by
  intro p hp
  rcases List.mem_cons.mp hp with rfl | hp
  · exact ⟨hS, hSL, get?_noHeap _⟩
  · have := mem_newsBut (b := p.1) (o := p.2).mp hp
    exact ⟨this.2.2, this.1, get?_noHeap _⟩
theorem fr_of {h : Heap} {L : Addr} {m : Str → Option Value} (hn : h.Ns L m) : Fr noHeap L h m := ⟨hn, fun b o e => (by rw [get?_noHeap] at e; cases e), Nat.zero_le _⟩
theorem ns_up {h h' : Heap} {L : Addr} {m : Str → Option Value} (hn : h.Ns L m) (k : ∀ b o, h.get? b = some o → h'.get? b = some o) : h'.Ns L m := by
  obtain ⟨o, es, ep, ho, r⟩ := hn
  exact ⟨o, es, ep, k _ _ ho, r⟩

theorem katKeys_of {q kS : Addr} {vs : List Value} {kd : Nat → T2} {m : Str → Option Value} {base : Heap} {Fin : List Value → Nat → Shared → Prop} (key : KeyOk w A q g vs kd s) (hSL : kS ≠ L) (hSg : g.get? kS = none) (hgL : g.get? L = none)
    (hb : ∀ b o, g.get? b = some o → base.get? b = some o)
    (fin : ∀ ks e h tk, h.Ns L m → h.get? kS = some (seqObj "list" (List.toArray ks) e) → (∀ b o, b ≠ L → b ≠ kS → base.get? b = some o → h.get? b = some o) → ks.length = vs.length → (∀ (i : Nat) k, ks[i]? = some k → At2 h k (kd i)) → Fin ks e { s with heap := h, toks := tk }) :
    ∀ (r ks : List Value) (e : Nat) (h : Heap) (tk : Nat), vs.drop ks.length = r → ks.length ≤ vs.length → h.Ns L m → h.get? kS = some (seqObj "list" (List.toArray ks) e) → (∀ b o, b ≠ L → b ≠ kS → base.get? b = some o → h.get? b = some o) → (∀ (i : Nat) k, ks[i]? = some k → At2 h k (kd i)) →
      KatKeys P0 w A noHeap L m kS (.ref q) Fin r ks e { s with heap := h, toks := tk }
  | [], ks, e, h, tk, hr, hle, hn, hS, kp, hat => by
    have : vs.length ≤ ks.length := by rw [← List.drop_eq_nil_iff]; exact hr
    exact fin ks e h tk hn hS kp (by omega) hat
  | v :: r, ks, e, h, tk, hr, hle, hn, hS, kp, hat => by
    have hlt : ks.length < vs.length := by
      rcases Nat.lt_or_ge ks.length vs.length with h' | h'
      · exact h'
      · rw [List.drop_of_length_le h'] at hr; cases hr
    rw [List.drop_eq_getElem_cons hlt] at hr
    injection hr with hv hr
    refine KatKeys.cons (key h tk ks.length v _ _ (fun b o e => kp b o (fun e' => ?_) (fun e' => ?_) (hb b o e)) (by rw [List.getElem?_eq_getElem hlt, hv]) fun h1 tk1 kv k1 at1 _ => ?_)
    · rw [e', hgL] at e; cases e
    · rw [e', hSg] at e; cases e
    refine KatBack.intro (fr_of (ns_up hn k1)) (news_of (k1 _ _ hS) hSL) (.head newsBut_ne) fun h2 c F2 N2 => ?_
    have k2 : ∀ b o, b ≠ L → b ≠ kS → h1.get? b = some o → h2.get? b = some o := fun b o h1' h2' e => (N2 (b, o) (List.mem_cons_of_mem _ (mem_newsBut.mpr ⟨h1', h2', e⟩))).1
    have hS2 := (N2 _ List.mem_cons_self).1
    have tup : ∀ {x : Value} {d : T2}, At2 h1 x d → At2 h2 x d := fun {x d} a => by
      obtain ⟨p, t1, t2, e1, ep⟩ := a
      refine ⟨p, t1, t2, e1, k2 p _ ?_ ?_ ep⟩
      · rintro rfl
        obtain ⟨o, es, ep', ho, hd, _⟩ := ns_up hn k1
        rw [ep] at ho; cases ho; cases hd
      · rintro rfl
        rw [k1 _ _ hS] at ep
        exact absurd (Value.type.inj (congrArg Obj.cls (Option.some.inj ep))) (by decide)
    refine katKeys_of key hSL hSg hgL hb fin r (ks ++ [kv]) c h2 tk1 (by rw [List.length_append]; exact hr) (by rw [List.length_append]; exact hlt) F2.ns hS2 (fun b o h1' h2' e => k2 b o h1' h2' (k1 _ _ (kp b o h1' h2' e))) fun i k hk => ?_
    rcases Nat.lt_or_ge i ks.length with hi | hi
    · rw [List.getElem?_append_left hi] at hk
      exact tup (At2.keeps (hat i k hk) k1)
    · rw [List.getElem?_append_right hi] at hk
      cases e2 : i - ks.length with
      | zero =>
        rw [e2] at hk; cases hk
        have : i = ks.length := by omega
        subst this
        exact tup at1
      | succ n => rw [e2] at hk; simp at hk

theorem kind2 {vs : List Value} {Q : SortKind → Shared → Prop} (h0 : 0 < vs.length) (hv : ∀ v ∈ vs, ∃ d, At2 s.heap v d) (hq : Q (tuples' true) s) : wpAny (MM w) A (keyKind' vs.toArray) Q E s := by
  have : ∃ fs, KatTups s.heap vs fs ∧ fs.length = vs.length ∧ ∀ v ∈ fs, Looks (MM w) s.heap (typeOf v) (.type "str") := by
    clear h0
    induction vs with
    | nil => exact ⟨[], trivial, rfl, by simp⟩
    | cons v vs ih =>
      obtain ⟨fs, t, e, hf⟩ := ih fun u hu => hv u (by simp [hu])
      obtain ⟨d, p, t1, t2, rfl, ho⟩ := hv v (by simp)
      refine ⟨sv d.1 t1 :: fs, .cons ho rfl rfl rfl t, by simp [e], fun u hu => ?_⟩
      rcases List.mem_cons.mp hu with rfl | hu
      · exact fun A Q E s' _ q => wpAny_of_eq (a := Value.type "str") rfl q
      · exact hf u hu
  obtain ⟨fs, t, e, hf⟩ := this
  exact kat_kind t (by omega) hf (by decide) hq

theorem sortedKX {lp q : Addr} {vs : List Value} {kd : Nat → T2} {Q : Value → Shared → Prop} (F : Fx g L s.heap l) (hl : g.PlainList lp vs.toArray) (h2 : 2 ≤ vs.length) (h64 : vs.length < 64) (key : KeyOk w A.in1.in1 q g vs kd s)
    (h : ∀ g' h' tk D (p : Array Nat), Fx g' L h' l → g'.PlainList D (p.toList.map fun i => vs.getD i .none).toArray → (∀ b o, g.get? b = some o → g'.get? b = some o) → g.get? D = none →
      p.toList.Perm (List.range vs.length) → p.size = vs.length → SB (fun i j => lt2 (kd i) (kd j)) p vs.length → Q (.ref D) { s with heap := h', toks := tk }) :
    wpAny (MM w) A (call (.builtin "sorted") [.ref lp] [(Str.ofString "key", .ref q)]) Q E s := by
  obtain ⟨m, hh, Fr0, N0⟩ := F.frAll
  refine kat_sortedK (b := false) (f := .ref q) Fr0 N0 (F.list hl).isList h2 h64 (ksk_s1 _ _) (fun x => ?_) (fun x => ksk_t1 q x) fun D kS e1 h' F1 N1 ltDk ltD => ?_
  · exact ksk_l1 _ _
  have hLs : L < s.heap.objs.size := Fr0.ns.lt
  have nS := N1 _ List.mem_cons_self
  have nD := N1 _ (List.mem_cons_of_mem _ List.mem_cons_self)
  have keep : ∀ b o, b ≠ L → s.heap.get? b = some o → h'.get? b = some o := fun b o hb e => (N1 (b, o) (List.mem_cons_of_mem _ (List.mem_cons_of_mem _ (mem_allObjs.mpr ⟨hb, e⟩)))).1
  have fresh : ∀ a, (∀ p ∈ allObjs s.heap L, p.1 < a) → g.get? a = none := fun a ha => by
    cases e : g.get? a with
    | none => rfl
    | some o => exact absurd (ha (a, o) (mem_allObjs.mpr ⟨F.ne e, F.keep _ _ e⟩)) (Nat.lt_irrefl _)
  have hDg := fresh D ltD
  have hSg : g.get? kS = none := fresh kS fun p hp => Nat.lt_trans (ltD p hp) ltDk
  have hDS : D ≠ kS := Nat.ne_of_lt ltDk
  refine katKeys_of (base := h') key nS.2.1 hSg F.noL (fun b o e => keep b o (F.ne e) (F.keep b o e)) (fun ks e h3 tk3 hn3 hS3 kp3 hlen hat => ?_) vs [] 0 h' s.toks rfl (Nat.zero_le _) F1.ns nS.1 (fun b o _ _ e => e) (fun i k e => by simp at e)
  have hD3 : h3.get? D = some (seqObj "list" #[] e1) := kp3 D _ nD.2.1 hDS nD.1
  refine kind2 (by omega) (fun v hv => ?_) ?_
  · obtain ⟨i, hi, rfl⟩ := List.getElem_of_mem hv
    exact ⟨_, hat i _ (List.getElem?_eq_getElem hi)⟩
  have W : SW fun i j => lt2 (kd i) (kd j) := tot2.sw kd
  refine kasWp_of (lt := fun i j => lt2 (kd i) (kd j)) (n := vs.length) (fun i j C hi hj hc => ?_) _ (kasP_mono (fun p hp => ?_) _ (sort_ok W h2))
  · have gi : ∀ i, i < vs.length → At2 h3 (ks.getD i .none) (kd i) := fun i hi => by
      have hi' : i < ks.length := by omega
      have : ks.getD i .none = ks[i] := by simp [List.getD, hi']
      rw [this]
      exact hat i _ (List.getElem?_eq_getElem hi')
    exact At2.keyAt (gi i hi) (gi j hj) _ _ hc
  refine KatFin.intro (fr_of hn3) (news_of hS3 nS.2.1) (.head newsBut_ne) fun h4 c4 F4 N4 => ?_
  have k4 : ∀ b o, b ≠ L → b ≠ kS → h3.get? b = some o → h4.get? b = some o := fun b o h1' h2' e => (N4 (b, o) (List.mem_cons_of_mem _ (mem_newsBut.mpr ⟨h1', h2', e⟩))).1
  have hD4 := k4 D _ nD.2.1 hDS hD3
  refine KasFin.intro F4 (news_of hD4 nD.2.1) (.head newsBut_ne) fun h5 c5 F5 N5 => ?_
  have k5 : ∀ b o, b ≠ L → b ≠ D → h4.get? b = some o → h5.get? b = some o := fun b o h1' h2' e => (N5 (b, o) (List.mem_cons_of_mem _ (mem_newsBut.mpr ⟨h1', h2', e⟩))).1
  have hD5 := (N5 _ List.mem_cons_self).1
  refine h (h5.hide L) h5 tk3 D p ⟨⟨m, F5.ns, hh⟩, fun b o e => Heap.of_hide e, Heap.hide_self _ _⟩ ⟨_, (Heap.hide_ne _ nD.2.1).trans hD5⟩ (fun b o e => ?_) hDg hp.1 hp.2.1 hp.2.2
  have hbL := F.ne e
  have hbS : b ≠ kS := by rintro rfl; rw [hSg] at e; cases e
  have hbD : b ≠ D := by rintro rfl; rw [hDg] at e; cases e
  exact (Heap.hide_ne _ hbL).trans (k5 b o hbL hbD (k4 b o hbL hbS (kp3 b o hbL hbS (keep b o hbL (F.keep b o e)))))
end
end
section
open PySem.W PySem.SeqAt
section
variable {w : World} {A : Around} {E : Value → Shared → Prop} {s : Shared} {mg mb : Str → Option Value} {g : Heap} {L fa : Addr} {l : List (String × Value)} {env : Env}

theorem iter_nt {h : Heap} {I lp : Addr} {i : Nat} (x : h.IsListIter I lp i) : ∀ o, h.get? I = some o → o.cls ≠ .type "tuple" := by
  obtain ⟨o', ho', hc, _⟩ := x
  intro o e; rw [ho'] at e; rw [← Option.some.inj e, hc]; intro q; exact absurd (Value.type.inj q) (by decide)
theorem seq_nt {h : Heap} {S : Addr} {xs : Array Value} {c : Nat} (x : h.get? S = some (seqObj "list" xs c)) : ∀ o, h.get? S = some o → o.cls ≠ .type "tuple" := by
  intro o e; rw [x] at e; rw [← Option.some.inj e]; intro q; exact absurd (Value.type.inj q) (by decide)

theorem minLoop {q I lp S : Addr} {vs : List Value} {kd : Nat → T2} {h0 : Heap} {kw : List (Str × Value)} {R : Result → Shared → Prop} (hh : A.handled = none) (hu : A.units < 800) (key : KeyOk w A.in1 q g vs kd s) (hlI : lp ≠ I) (hSI : S ≠ I) (hSl : S ≠ lp)
    (hg : ∀ b o, g.get? b = some o → b ≠ S ∧ b ≠ I)
    (hR : ∀ i v h tk, vs[i]? = some v → (∀ j, j < vs.length → lt2 (kd j) (kd i) = false ∧ (j < i → lt2 (kd i) (kd j) = true)) → (∀ b o, b ≠ S → b ≠ I → h0.get? b = some o → h.get? b = some o) → R (.ok (.ret v)) { s with heap := h, toks := tk })
    (hg0 : ∀ b o, g.get? b = some o → h0.get? b = some o) (hl0 : h0.IsList lp vs.toArray) :
    ∀ (r j i : Nat) (h : Heap) (tk : Nat) (vb kb : Value) (c : Nat), vs.length - (j + 1) = r → j + 1 ≤ vs.length → h.IsListIter I lp (j + 1) → h.get? S = some (seqObj "list" #[vb, kb] c) → At2 h kb (kd i) → vs[i]? = some vb → i ≤ j →
      (∀ j', j' ≤ j → lt2 (kd j') (kd i) = false ∧ (j' < i → lt2 (kd i) (kd j') = true)) → (∀ b o, b ≠ S → b ≠ I → h0.get? b = some o → h.get? b = some o) →
      codeAny (MM w) A (.builtin "min.loop" ⟨[.ref I, .ref q, .ref S], kw⟩) R { s with heap := h, toks := tk } := by
  have hname : (toString "min" ++ toString ".loop" : String) = "min.loop" := by decide
  have W := Walks.list (prog := P0) (w := w) (A := A.in1) hh I lp hlI vs.toArray
  have hsz : vs.toArray.size = vs.length := List.size_toArray ..
  have hls : ∀ h : Heap, (∀ b o, b ≠ S → b ≠ I → h0.get? b = some o → h.get? b = some o) → h.IsList lp vs.toArray := fun h kp => hl0.at fun o e => kp lp o hSl.symm hlI e
  intro r
  induction r with
  | zero =>
    intro j i h tk vb kb c hr hj hit hS hkb hvb hij hbest kp
    have hin : j + 1 = vs.length := by omega
    refine codeAny_builtin PySem.F.entry_min_loop ?_
    rw [Around.under_plainId PySem.F.plain_min_loop _]
    show wpAny _ A.in1 (seqItems? (.ref S) >>= _) _ _ _
    refine wpAny_bind (wpAny_seqItems hS rfl ?_)
    show wpAny _ A.in1 (tryCatch (pyNext (.ref I)) _ >>= _) _ _ _
    refine wpAny_bind (wpAny_tryCatch (W.done _ _ _ ⟨by rw [hsz, ← hin]; exact hit, hls h kp⟩ fun h' tk' hk' => ?_))
    have hS' := hk' S _ (by simpa using hSI) hS
    have s1 := Heap.SameBut.update h' S (Obj.mapSeq fun _ => (#[] : Array Value))
    show wpAny _ A.in1 (updateSeq S (fun _ => #[]) >>= _) _ _ _
    refine wpAny_bind ?_
    refine wpAny_updateSeq hS' rfl (wpAny_bind (wpAny_letGo (wpAny_pure ?_)))
    exact hR i vb _ _ hvb (fun j' hj' => hbest j' (by omega)) fun b o hb hI e => (s1.2 b hb).trans (hk' b o (by simpa using hI) (kp b o hb hI e))
  | succ r ih =>
    intro j i h tk vb kb c hr hj hit hS hkb hvb hij hbest kp
    have hlt : j + 1 < vs.length := by omega
    refine codeAny_builtin PySem.F.entry_min_loop ?_
    rw [Around.under_plainId PySem.F.plain_min_loop _]
    show wpAny _ A.in1 (seqItems? (.ref S) >>= _) _ _ _
    refine wpAny_bind (wpAny_seqItems hS rfl ?_)
    show wpAny _ A.in1 (tryCatch (pyNext (.ref I)) _ >>= _) _ _ _
    refine wpAny_bind (wpAny_tryCatch (W.item (j + 1) _ _ _ (by rw [hsz]; exact hlt) ⟨hit, hls h kp⟩ fun v h' tk' hP hst' hk' => ?_))
    have hv : vs[j + 1]? = some v := by simpa using hP
    have hkb' : At2 h' kb (kd i) := At2.ext hkb (iter_nt hit) fun b o hb e => hk' b o (by simpa using hb) e
    have hS' := hk' S _ (by simpa using hSI) hS
    have kp' : ∀ b o, b ≠ S → b ≠ I → h0.get? b = some o → h'.get? b = some o := fun b o hb hI e => hk' b o (by simpa using hI) (kp b o hb hI e)
    show wpAny _ A.in1 (tryCatch (holding [v] (call (.ref q) [v])) _ >>= _) _ _ _
    refine wpAny_bind (wpAny_tryCatch (wpAny_holding (key h' tk' (j + 1) v _ _ (fun b o e => kp' b o (hg b o e).1 (hg b o e).2 (hg0 b o e)) hv fun h2 tk2 kv k2 at2 _ => ?_)))
    have hS2 := k2 _ _ hS'
    have hkb2 := At2.keeps hkb' k2
    have hit2 : h2.IsListIter I lp (j + 1 + 1) := by obtain ⟨o, ho, r⟩ := hst'.1; exact ⟨o, k2 _ _ ho, r⟩
    have kp2 : ∀ b o, b ≠ S → b ≠ I → h0.get? b = some o → h2.get? b = some o := fun b o hb hI e => k2 _ _ (kp' b o hb hI e)
    show wpAny _ A.in1 (tryCatch (holding [v, kv] (richCompare .Lt kv kb >>= _)) _ >>= _) _ _ _
    refine wpAny_bind (wpAny_tryCatch (wpAny_holding (wpAny_bind (At2.ltAt (A := A.in1) (by show A.units + 1 < cLine; exact Nat.lt_trans (Nat.lt_of_lt_of_le (by omega : A.units + 1 < 900) (by decide)) (by decide : 900 < cLine)) at2 hkb2 _ _ _ _ ?_))))
    refine wpAny_bind (wpAny_holding (wpAny_truthy_bool ?_))
    refine wpAny_bind (wpAny_letGo (wpAny_pure ?_))
    cases hb' : lt2 (kd (j + 1)) (kd i) with
    | true =>
      have s1 := Heap.SameBut.update h2 S (Obj.mapSeq fun _ => #[v, kv])
      obtain ⟨c2, hc2⟩ : ∃ c2, (h2.update S (Obj.mapSeq fun _ => #[v, kv])).get? S = some (seqObj "list" #[v, kv] c2) := ⟨_, get?_update_seq hS2 fun _ => #[v, kv]⟩
      simp only [if_true]
      refine wpAny_bind ?_
      refine wpAny_updateSeq hS2 rfl (wpAny_bind (wpAny_letGo ?_))
      rw [hname]
      refine wpAny_pure ⟨plainId_quiet PySem.F.plain_min_loop _, ih (j + 1) (j + 1) _ _ v kv c2 (by omega) hlt ?_ hc2 ?_ hv (Nat.le_refl _) (fun j' hj' => ?_) ?_⟩
      · obtain ⟨o, ho, r⟩ := hit2; exact ⟨o, (s1.2 I hSI.symm).trans ho, r⟩
      · exact At2.ext at2 (seq_nt hS2) fun b o hb e => (s1.2 b hb).trans e
      · by_cases e : j' = j + 1
        · subst e
          exact ⟨tot2.irr _, fun h => absurd h (Nat.lt_irrefl _)⟩
        · have hb1 := hbest j' (by omega)
          refine ⟨?_, fun _ => ?_⟩
          · cases e3 : lt2 (kd j') (kd (j + 1)) with
            | false => rfl
            | true => have := tot2.tr _ _ _ e3 hb'; rw [hb1.1] at this; cases this
          · rcases tot2.tri (kd (j + 1)) (kd j') with h' | h' | h'
            · exact h'
            · rw [← h', hb'] at hb1; cases hb1.1
            · have := tot2.tr _ _ _ h' hb'; rw [hb1.1] at this; cases this
      · exact fun b o hb hI e => (s1.2 b hb).trans (kp2 b o hb hI e)
    | false =>
      simp only [Bool.false_eq_true, if_false]
      refine wpAny_bind (wpAny_letGo ?_)
      rw [hname]
      refine wpAny_pure ⟨plainId_quiet PySem.F.plain_min_loop _, ih (j + 1) i _ _ vb kb c (by omega) hlt hit2 hS2 hkb2 hvb (by omega) (fun j' hj' => ?_) kp2⟩
      by_cases e : j' = j + 1
      · subst e
        exact ⟨hb', fun h => by omega⟩
      · exact hbest j' (by omega)

theorem min_args (a d v : Value) : argsOk "min" ⟨[a], [(Str.ofString "default", d), (Str.ofString "key", v)]⟩ := by unfold argsOk; kernel_rfl

theorem minKX {q I lp : Addr} {vs : List Value} {kd : Nat → T2} {d : Value} {Q : Value → Shared → Prop} (hh : A.handled = none) (hu : A.units < 800) (F : Fx g L s.heap l) (hl : g.PlainList lp vs.toArray) (hne : 0 < vs.length) (hit : s.heap.IsListIter I lp 0)
    (hIg : g.get? I = none) (hIL : I ≠ L) (hlI : lp ≠ I) (key : KeyOk w A.in1 q g vs kd s)
    (hQ : ∀ i v g' h' tk, vs[i]? = some v → (∀ j, j < vs.length → lt2 (kd j) (kd i) = false ∧ (j < i → lt2 (kd i) (kd j) = true)) → Fx g' L h' l → (∀ b o, g.get? b = some o → g'.get? b = some o) → Q v { s with heap := h', toks := tk }) :
    wpAny (MM w) A (call (.builtin "min") [.ref I] [(Str.ofString "default", d), (Str.ofString "key", .ref q)]) Q E s := by
  have hname : (toString "min" ++ toString ".loop" : String) = "min.loop" := by decide
  have hlp : lp < s.heap.objs.size := by obtain ⟨n, ho⟩ := F.list hl; exact Heap.lt_size ho
  have hIs : I < s.heap.objs.size := by obtain ⟨o, ho, _⟩ := hit; exact Heap.lt_size ho
  have hLs : L < s.heap.objs.size := by obtain ⟨m, hn, _⟩ := F.ns; exact hn.lt
  have hsz : vs.toArray.size = vs.length := List.size_toArray ..
  refine kmk_tree PySem.F.kind_min PySem.F.plain_min PySem.F.entry_min (min_args _ _ _) ?_
  show wpAny _ A.in1 (Builtin.Builtins.bindParams "min" ["key", "default"] 0 ⟨[], [(Str.ofString "default", d), (Str.ofString "key", .ref q)]⟩ >>= _) _ _ s
  refine wpAny_bind (wpAny_of_eq (show Builtin.Builtins.bindParams "min" ["key", "default"] 0 ⟨[], [(Str.ofString "default", d), (Str.ofString "key", .ref q)]⟩ = pure [some (.ref q), some d] from rfl) ?_)
  refine wpAny_bind (wpAny_pure ?_)
  have W := Walks.list (prog := P0) (w := w) (A := A.in1) hh I lp hlI vs.toArray
  refine wpAny_bind (W.self 0 _ _ _ ⟨hit, (F.list hl).isList⟩ ?_)
  refine wpAny_bind (wpAny_newList ?_ (Nat.zero_le _))
  rw [hname]
  refine wpAny_pure ⟨plainId_quiet PySem.F.plain_min_loop _, ?_⟩
  have gS : (s.heap.push (seqObj "list" #[] 0)).get? s.heap.objs.size = some (seqObj "list" #[] 0) := Heap.get?_push_size _ rfl
  have up0 : ∀ b o, s.heap.get? b = some o → (s.heap.push (seqObj "list" #[] 0)).get? b = some o := fun b o e => Heap.get?_push_of_some _ e
  have hSI : s.heap.objs.size ≠ I := Nat.ne_of_gt hIs
  have hg : ∀ b o, g.get? b = some o → b ≠ s.heap.objs.size ∧ b ≠ I := fun b o e => ⟨Nat.ne_of_lt (Heap.lt_size (F.keep _ _ e)), by rintro rfl; rw [hIg] at e; cases e⟩
  refine codeAny_builtin PySem.F.entry_min_loop ?_
  rw [Around.under_plainId PySem.F.plain_min_loop _]
  show wpAny _ A.in1 (seqItems? (.ref _) >>= _) _ _ _
  refine wpAny_bind (wpAny_seqItems gS rfl ?_)
  show wpAny _ A.in1 (tryCatch (pyNext (.ref I)) _ >>= _) _ _ _
  have hit0 : (s.heap.push (seqObj "list" #[] 0)).IsListIter I lp 0 := by obtain ⟨o, ho, r⟩ := hit; exact ⟨o, up0 _ _ ho, r⟩
  refine wpAny_bind (wpAny_tryCatch (W.item 0 _ _ _ (by rw [hsz]; exact hne) ⟨hit0, (F.list hl).isList.at fun o e => up0 _ _ e⟩ fun v h' tk' hP hst' hk' => ?_))
  have hv : vs[0]? = some v := by simpa using hP
  have hS' := hk' _ _ (by simpa using hSI) gS
  have kp' : ∀ b o, b ≠ I → s.heap.get? b = some o → h'.get? b = some o := fun b o hI e => hk' b o (by simpa using hI) (up0 _ _ e)
  show wpAny _ A.in1 (tryCatch (holding [v] (call (.ref q) [v])) _ >>= _) _ _ _
  refine wpAny_bind (wpAny_tryCatch (wpAny_holding (key h' tk' 0 v _ _ (fun b o e => kp' b o (hg b o e).2 (F.keep _ _ e)) hv fun h2 tk2 kv k2 at2 _ => ?_)))
  have hS2 := k2 _ _ hS'
  have s1 := Heap.SameBut.update h2 s.heap.objs.size (Obj.mapSeq fun _ => #[v, kv])
  obtain ⟨c2, hc2⟩ : ∃ c2, (h2.update s.heap.objs.size (Obj.mapSeq fun _ => #[v, kv])).get? s.heap.objs.size = some (seqObj "list" #[v, kv] c2) := ⟨_, get?_update_seq hS2 fun _ => #[v, kv]⟩
  show wpAny _ A.in1 (updateSeq s.heap.objs.size (fun _ => #[v, kv]) >>= _) _ _ _
  refine wpAny_bind ?_
  refine wpAny_updateSeq hS2 rfl ?_
  rw [hname]
  refine wpAny_pure ⟨plainId_quiet PySem.F.plain_min_loop _, minLoop (h0 := s.heap) hh hu key hlI hSI (Nat.ne_of_gt hlp) hg (fun i v h3 tk3 hvi hb kp3 => ?_) F.keep (F.list hl).isList _ 0 0 _ _ v kv c2 rfl hne ?_ hc2 ?_ hv (Nat.le_refl _) (fun j' hj' => ?_) ?_⟩
  · refine hQ i v (h3.hide L) h3 tk3 hvi hb (F.re fun o e => kp3 L o (Nat.ne_of_lt hLs) (Ne.symm hIL) e) fun b o e => ?_
    exact (Heap.hide_ne _ (F.ne e)).trans (kp3 b o (hg b o e).1 (hg b o e).2 (F.keep _ _ e))
  · obtain ⟨o, ho, r⟩ := hst'.1; exact ⟨o, (s1.2 I hSI.symm).trans (k2 _ _ ho), r⟩
  · exact At2.ext at2 (seq_nt hS2) fun b o hb e => (s1.2 b hb).trans e
  · have e : j' = 0 := by omega
    subst e
    exact ⟨tot2.irr _, fun h => absurd h (Nat.lt_irrefl _)⟩
  · exact fun b o hb hI e => (s1.2 b hb).trans (k2 _ _ (kp' b o hI e))
end
end
section
open PySem.W PySem.SeqAt
section
variable {w : World} {A : Around} {E : Value → Shared → Prop} {s : Shared} {mg mb : Str → Option Value} {g : Heap} {L fa : Addr} {l : List (String × Value)} {env : Env}

theorem obj_mro : mroOf (.type "object") = pure [.type "object"] := by kernel_rfl
theorem obj_lookup_new : typeLookup (.type "object") "__new__" = pure (some (.builtin "object.__new__")) := by rw [typeLookup_type, builtinLookup_eq_fast]; kernel_rfl
theorem obj_made : Bind.madeBy (.type "object") = pure (some "object.__new__") := madeBy_type obj_mro obj_lookup_new (by decide +kernel)
theorem obj_sub : isSubtype (.type "object") (.type "object") = pure true := by rw [isSubtype_type]; kernel_rfl
theorem obj_ist : isType (.type "object") = pure true := rfl
theorem obj_base : Bind.staticBase (.type "object") = pure (.type "object") := by kernel_rfl
theorem obj_noNew : (Manifest.find? "object").elim false (fun x => x.noNew) = false := by decide +kernel
theorem obj_here : Bind.madeHere "object.__new__" (.type "object") = pure () := by
  simp only [Bind.madeHere, obj_base, obj_made, pure_bind, Option.map_some, bne_self_eq_false, Bool.false_eq_true, if_false]
theorem obj_newCheck : checkBuiltinCall "object.__new__" ⟨[.type "object"], []⟩ = pure () := by
  simp only [checkBuiltinCall, PySem.F.objNew.kind, PySem.F.objNew.split, PySem.F.objNew.row, obj_ist, obj_sub, obj_base, obj_made, obj_noNew, pure_bind, Bool.not_true, Bool.false_eq_true, if_false, bne_self_eq_false]
  rfl
theorem obj_typeCheck : checkTypeCall "object" ⟨[], []⟩ = pure () := by
  unfold checkTypeCall
  rw [show toString "type." ++ toString "object" = "type.object" from by decide +kernel]
  rw [signature?_of (id := "type.object") (n := ['t', 'c', 'e', 'j', 'b', 'o']) (o := ['e', 'p', 'y', 't']) (rows := Manifest.sig_type) (by kernel_rfl) (by kernel_rfl)]
  kernel_rfl
theorem obj_refuses : ((Manifest.find? "object").elim false fun x => x.mro.any fun t => (Manifest.find? t).elim false fun y => y.noNew) = false := by decide +kernel
theorem obj_init : Slot "object" "__init__" "object.__init__" := PySem.F.slot_object_init
theorem obj_called : TypeCalled "object" "object.__new__" "object.__init__" where
  notType := by decide +kernel
  canCreate := by decide +kernel
  mro := ⟨_, _, obj_mro⟩
  made := obj_made
  plain := by decide +kernel
  sub := obj_sub
  init := obj_init
noncomputable def plainObj : Obj := { cls := .type "object", data := .plain }
theorem obj_new_meets : Meets (Builtin.«object.__new__» ⟨[.type "object"], []⟩) (fun _ R s => R (.ok (.ret (.ref s.heap.objs.size))) { s with heap := s.heap.push plainObj }) := by
  refine Meets.of_wp fun prog w A R s hs => ?_
  simp only [Builtin.«object.__new__», obj_ist, obj_refuses, obj_here, pure_bind, Bool.not_true, Bool.false_eq_true, if_false]
  repeat (any_goals (first | assumption | wp_step))
  exact ⟨_, rfl, hs⟩
theorem objectX {Q : Value → Shared → Prop} (F : Fx g L s.heap l) (h : ∀ g' h' a, Fx g' L h' l → g'.get? a = some plainObj → (∀ b o, g.get? b = some o → g'.get? b = some o) → g.get? a = none → Q (.ref a) { s with heap := h' }) :
    wpAny (MM w) A (call (.type "object") []) Q E s := by
  refine callType_meets (Q₁ := fun v s₁ => v = .ref s.heap.objs.size ∧ s₁ = { s with heap := s.heap.push plainObj }) obj_called obj_typeCheck obj_newCheck PySem.F.entry_object_new PySem.F.entry_object_init obj_new_meets ⟨rfl, rfl⟩ ?_
  rintro obj s₁ ⟨rfl, rfl⟩
  obtain ⟨g', F', o', k', n', _⟩ := F.push plainObj
  refine ⟨⟨_, Heap.get?_push_size _ rfl, rfl⟩, PySem.F.args_object_init_1 _, fun _ R s => R (.ok (.ret .none)) s, Meets.of_wp fun prog w A R s hs => wpAny_pure ⟨_, rfl, hs⟩, rfl, h g' _ _ F' o' k' n'⟩

theorem iterX {lp : Addr} {items : Array Value} {Q : Value → Shared → Prop} (F : Fx g L s.heap l) (hl : g.PlainList lp items)
    (h : ∀ g' h' I, Fx g' L h' l → g'.IsListIter I lp 0 → (∀ b o, g.get? b = some o → g'.get? b = some o) → g.get? I = none → I ≠ L → lp ≠ I → Q (.ref I) { s with heap := h' }) :
    wpAny (MM w) A (call (.builtin "iter") [.ref lp]) Q E s := by
  refine call_function_entry (by decide +kernel) (by decide +kernel) kdk_entry_iter (kdk_args_iter _) ?_
  unfold Builtin.«iter»
  refine wpAny_bind (m := someArgs "iter" 1 2 _) (wpAny_of_eq (a := [Value.ref lp]) (by first | rfl | kernel_rfl!) ?_)
  show wpAny _ _ (pyIter (.ref lp) >>= _) _ _ _
  refine wpAny_bind (wpAny_pyIter_list (F.list hl).isList ?_)
  obtain ⟨g', F', o', k', n', nL⟩ := F.push { cls := .type "list_iterator", data := .fields #[.ref lp, .int 0 0] }
  refine wpAny_pure ⟨_, rfl, h g' _ _ F' ⟨_, o', rfl, rfl⟩ k' n' nL ?_⟩
  rintro rfl
  obtain ⟨n, ho⟩ := hl
  rw [n'] at ho; cases ho

/-- nsmallest is entered -/
theorem enterN {a : Addr} {n k : Nat} {t : Tok} {lp q : Addr} {Q : Value → Shared → Prop} (R : Rm A (k + 1)) (G : Gd w mg mb s.heap) (ha : mg (nm 10) = some (.ref a))
    (h : ∀ L h₁ g₁ T pm c doc E' tk A', Fx g₁ L h₁ [("n", .int n t), ("iterable", .ref lp)] → g₁.IsCell (L + 1) (some (.ref q)) → (∀ b o, s.heap.get? b = some o → g₁.get? b = some o) → Rm A' k →
      wpAny (MM w) A' (execs (bdy 10) (callEnvC (fdOf 10 (.ref T) pm (.ref c) doc) L a)) (fun fl s' => Q (match fl with | .ret v => v | _ => .none) s') E' { s with heap := h₁, toks := tk }) :
    wpAny (MM w) A (call (.ref a) [.int n t, .ref lp] [(Str.ofString "key", .ref q)]) Q E s := by
  obtain ⟨a', pm, c, doc, T, e, ho, hcd, oT, nT, hT, hTc, hTd⟩ := G.ns
  rw [ha] at e; cases e
  refine wpAny_call ?_
  have hb : BindsTo s (fdOf 10 (.ref T) pm (.ref c) doc) ⟨[.int n t, .ref lp], [(Str.ofString "key", .ref q)]⟩ (toBs [("n", .int n t), ("iterable", .ref lp), ("key", .ref q)]) := BindsTo.of_defaults rfl hT hTd rfl rfl
  refine codeAny_call_function (fd := fdOf 10 (.ref T) pm (.ref c) doc) (body := bdy 10) (limit_of R) ho rfl (by kernel_rfl) (by kernel_rfl) rfl hcd (hb _ _ _ _ ?_)
  refine wpAny_newFunctionEnv_cells (by kernel_rfl) (fun x hx => ?_) fun env he s' x => ?_
  · have hx' : x = (Str.ofString "n", .int n t) ∨ x = (Str.ofString "iterable", .ref lp) ∨ x = (Str.ofString "key", .ref q) := by simpa [toBs] using hx
    rcases hx' with rfl | rfl | rfl
    · exact .inl (by kernel_rfl)
    · exact .inl (by kernel_rfl)
    · refine .inr ⟨by kernel_rfl, ?_⟩
      show ((cellsFrom (s.heap.objs.size + 1) (scp 10).names []).lookup (Str.ofString "key")).isSome = true
      rw [show cellsFrom (s.heap.objs.size + 1) (scp 10).names [] = [(Str.ofString "key", s.heap.objs.size + 1)] from rfl]; simp
  · subst he
    refine ⟨G.lim.keeps x.toInCall.keep, codeAny_func ?_⟩
    obtain ⟨h₁, tk, rfl⟩ := x.toInCall.same
    have hn : h₁.Ns s.heap.objs.size _ := x.toInCall.ns
    have hcell : h₁.IsCell (s.heap.objs.size + 1) (bindC (callEnvC (fdOf 10 (.ref T) pm (.ref c) doc) s.heap.objs.size a).kindOf (toBs [("n", .int n t), ("iterable", .ref lp), ("key", .ref q)]) (fun _ => none) (Str.ofString "key")) :=
      x.cell (Str.ofString "key") (s.heap.objs.size + 1) (by
        show (cellsFrom (s.heap.objs.size + 1) (scp 10).names []).lookup (Str.ofString "key") = some (s.heap.objs.size + 1)
        rw [show cellsFrom (s.heap.objs.size + 1) (scp 10).names [] = [(Str.ofString "key", s.heap.objs.size + 1)] from rfl]; simp)
    rw [show bindC (callEnvC (fdOf 10 (.ref T) pm (.ref c) doc) s.heap.objs.size a).kindOf (toBs [("n", .int n t), ("iterable", .ref lp), ("key", .ref q)]) (fun _ => none) (Str.ofString "key") = some (.ref q) from rfl] at hcell
    refine h s.heap.objs.size h₁ (h₁.hide s.heap.objs.size) T pm c doc _ tk _ ⟨⟨_, hn, fun k v e => ?_⟩, fun b o e => Heap.of_hide e, Heap.hide_self _ _⟩ ?_ (fun b o e => (Heap.hide_ne _ (Nat.ne_of_lt (Heap.lt_size e))).trans (x.toInCall.keep b o e)) R.deeper
    · have : (k = "n" ∧ v = .int n t) ∨ (k = "iterable" ∧ v = .ref lp) := by
        simp only [List.lookup] at e
        split at e
        · rename_i h; cases e; exact .inl ⟨by simpa using h, rfl⟩
        · split at e
          · rename_i h; cases e; exact .inr ⟨by simpa using h, rfl⟩
          · cases e
      rcases this with ⟨rfl, rfl⟩ | ⟨rfl, rfl⟩ <;> rfl
    · obtain ⟨o, ho', r⟩ := hcell
      exact ⟨o, (Heap.hide_ne _ (Nat.ne_of_gt (Nat.lt_succ_self _))).trans ho', r⟩

/-- f(e, k1=.., ..) of a builtin by its name -/
theorem callBlK {id : String} {k : String} {p pos : Pos} {e : Expr} {rest : List Expr} {kws : List Keyword} {Q : Value → Shared → Prop} (F : Fx g L s.heap l) (G : Gd w mg mb g) (hv : blts.lookup k = some (.builtin id))
    (h : evs (MM w) A env E (e :: rest) (fun vs s₁ => wpAny (MM w) A (evalAll ((backToKw pos (keywordEach kws env)).map (·.2))) (fun kvs s₂ => wpAny (MM w) A (call (.builtin id) vs (((backToKw pos (keywordEach kws env)).filterMap (·.1)).zip kvs)) Q E s₂) E s₁) s)
    (hns : noStar (e :: rest) = true := by rfl)
    (he : backTo pos (starEach (e :: rest) env) = (false, eval e env) :: backTo pos (starEach rest env) := by rfl)
    (hall : (backToKw pos (keywordEach kws env)).all (·.1.isSome) = true := by rfl)
    (hkw : (backToKw pos (keywordEach kws env)).any (·.1.isNone) = false := by rfl)
    (hgl : env.globals = mainGlobals := by rfl) (hbl : env.builtins = builtinsNs := by rfl)
    (hk : env.scope.kind = .function := by kernel_rfl) (hl : env.kindOf (Str.ofString k) = some .globalImplicit := by kernel_rfl) (hd : (Str.ofString k == ("__debug__" : Str)) = false := by kernel_rfl) :
    wpAny (MM w) A (eval (.Call (.Name (Str.ofString k) p) (e :: rest) kws pos) env) Q E s := by
  show wpAny (MM w) A (do callWith pos (← eval (.Name (Str.ofString k) p) env) [] (backTo pos (starEach (e :: rest) env)) (backToKw pos (keywordEach kws env))) Q E s
  refine wpAny_bind (ldBl F G hv ?_ hgl hbl hk hl hd)
  exact callWith_kw (spliced_evs (e :: rest) hns h) he (noStar_any hns) hall hkw
end
end
section
open PySem.W PySem.SeqAt
section
variable {w : World} {A : Around} {E : Value → Shared → Prop} {s : Shared} {mg mb : Str → Option Value} {g : Heap} {L fa : Addr} {l : List (String × Value)} {env : Env}

/-- the first of the least -/
noncomputable def FirstMin (kd : Nat → T2) (n i : Nat) : Prop := ∀ j, j < n → lt2 (kd j) (kd i) = false ∧ (j < i → lt2 (kd i) (kd j) = true)

theorem ns_one {lp q T c : Addr} {t : Tok} {pm doc : Value} {vs : List Value} {kd : Nat → T2} {Q : Flow → Shared → Prop} (R : Rm A 7) (G : Gd w mg mb g) (F : Fx g L s.heap [("n", .int 1 t), ("iterable", .ref lp)])
    (hcell : g.IsCell (L + 1) (some (.ref q))) (hl : g.PlainList lp vs.toArray) (hne : 0 < vs.length) (hstr : ∀ v ∈ vs, ∃ x t, v = .str x t) (key : KeyOk w A.in1 q g vs kd s)
    (hQ : ∀ g' h' tk D i v, Fx g' L h' [] → vs[i]? = some v → FirstMin kd vs.length i → g'.PlainList D [v].toArray → (∀ b o, g.get? b = some o → g'.get? b = some o) → Q (.ret (.ref D)) { s with heap := h', toks := tk }) :
    wpAny (MM w) A (exec (stN 10 0) (callEnvC (fdOf 10 (.ref T) pm (.ref c) doc) L fa)) Q E s := by
  refine wpAny_If ?_
  walk_at "S"
  simp only [Int.reduceBEq, if_true]
  walk_at "S"
  walk_at "bl"
  walk_at "ev"
  refine evs_nil ?_
  refine iterX F hl fun g1 h1 I F1 it1 k1 n1 hIL hlI => ?_
  have G1 := G.keeps k1
  walk_at "S"
  rename_i h2 F2
  refine callTy F2 G1 (by (simp only [blts, List.lookup, String.reduceBEq] <;> rfl)) ?_
  refine evs_nil ?_
  refine objectX F2 fun g3 h3 a F3 o3 k3 n3 => ?_
  have G3 := G1.keeps k3
  walk_at "S"
  rename_i h4 F4
  refine callBlK F4 G3 (by (simp only [blts, List.lookup, String.reduceBEq] <;> rfl)) ?_
  walk_at "ev"
  refine evs_nil ?_
  refine kws_cons ?_
  walk_at "S"
  refine kws_cons ?_
  refine ldC (F4.cell (hcell.keeps fun b o e => k3 _ _ (k1 _ _ e))) ?_
  refine kws_nil ?_
  have it4 : h4.IsListIter I lp 0 := by obtain ⟨o, ho, r⟩ := it1; exact ⟨o, F4.keep _ _ (k3 _ _ ho), r⟩
  -- a ghost without the iterator
  have F5 : Fx (g3.hide I) L h4 _ := F4.ghost (g' := g3.hide I) (fun b o e => F4.keep _ _ (Heap.of_hide e)) (by
    cases e : (g3.hide I).get? L with
    | none => rfl
    | some o => have := Heap.of_hide e; rw [F4.noL] at this; cases this)
  have up : ∀ b o, g.get? b = some o → (g3.hide I).get? b = some o := fun b o e => (Heap.hide_ne _ (by rintro rfl; rw [n1] at e; cases e)).trans (k3 _ _ (k1 _ _ e))
  refine minKX (d := .ref a) (kd := kd) R.h (by have := R.u; omega) F5 (hl.at fun o e => up _ _ e) hne it4 (Heap.hide_self _ _) hIL hlI (key.mono up) fun i v g6 h6 tk6 hv hb F6 k6 => ?_
  obtain ⟨x, tx, rfl⟩ := hstr v (List.mem_of_getElem? hv)
  walk_at "S"
  rename_i h7 F7
  refine wpAny_is_other (by rfl) (by intro e; cases e) ?_
  walk_at "S"
  rw [if_neg Bool.false_ne_true]
  walk_at "S"
  refine listF (L := L) ?_
  walk_at "ev"
  refine evs_nil ⟨Nat.le_of_ble_eq_true rfl, _, _, F7, fun ga ha p Fa ea ka na la => ?_⟩
  exact hQ ga ha _ p i _ (Fa.sub fun k v e => by simp at e) hv hb (plain_obj ea) fun b o e => ka _ _ (k6 _ _ (up _ _ e))

theorem ns_not1 {lp T c : Addr} {n : Nat} {t : Tok} {pm doc : Value} {Q : Flow → Shared → Prop} (F : Fx g L s.heap [("n", .int n t), ("iterable", .ref lp)]) (hn : n ≠ 1) (hQ : ∀ tk, Q .next { s with toks := tk }) :
    wpAny (MM w) A (exec (stN 10 0) (callEnvC (fdOf 10 (.ref T) pm (.ref c) doc) L fa)) Q E s := by
  refine wpAny_If ?_
  walk_at "S"
  have : ((n : Int) == 1) = false := by simp; omega
  rw [this, if_neg Bool.false_ne_true]
  walk_at "S"
  exact hQ _

theorem ns_sorted {lp q T c : Addr} {n : Nat} {t : Tok} {pm doc : Value} {vs : List Value} {kd : Nat → T2} {Q : Flow → Shared → Prop} (R : Rm A 7) (G : Gd w mg mb g) (F : Fx g L s.heap [("n", .int n t), ("iterable", .ref lp)])
    (hcell : g.IsCell (L + 1) (some (.ref q))) (hl : g.PlainList lp vs.toArray) (h2 : 2 ≤ vs.length) (h64 : vs.length < 64) (key : ∀ s', KeyOk w A.in1.in1 q g vs kd s')
    (hlt : n < vs.length → ∀ h' tk t', Fx g L h' [("n", .int n t), ("iterable", .ref lp), ("size", .int vs.length t')] → Q .next { s with heap := h', toks := tk })
    (hge : vs.length ≤ n → ∀ g' h' tk D (p : Array Nat), Fx g' L h' [] → g'.PlainList D ((p.toList.map fun i => vs.getD i .none).take n).toArray → (∀ b o, g.get? b = some o → g'.get? b = some o) →
      p.toList.Perm (List.range vs.length) → p.size = vs.length → SB (fun i j => lt2 (kd i) (kd j)) p vs.length → Q (.ret (.ref D)) { s with heap := h', toks := tk }) :
    wpAny (MM w) A (exec (stN 10 1) (callEnvC (fdOf 10 (.ref T) pm (.ref c) doc) L fa)) Q E s := by
  refine wpAny_Try_except ?_
  walk_at "S"
  walk_at "bl"
  walk_at "ev"
  refine evs_nil ?_
  refine len_list (Heap.PlainList.isList (F.list hl)) (by simp; omega) ?_
  rw [show (vs.toArray.size : Int) = (vs.length : Int) by simp]
  walk_at "S"
  rename_i h3 F3
  rcases Nat.lt_or_ge n vs.length with hc | hc
  · have : ¬ ((n : Int) ≥ (vs.length : Int)) := by omega
    simp only [this, decide_false, Bool.false_eq_true, if_false]
    walk_at "S"
    exact hlt hc _ _ _ F3
  · have : ((n : Int) ≥ (vs.length : Int)) := by omega
    simp only [this, decide_true, if_true]
    walk_at "S"
    refine callBlK F3 G (by (simp only [blts, List.lookup, String.reduceBEq] <;> rfl)) ?_
    walk_at "ev"
    refine evs_nil ?_
    refine kws_cons ?_
    refine ldC (F3.cell hcell) ?_
    refine kws_nil ?_
    refine sortedKX F3 hl h2 h64 (key _) fun g4 h4 tk4 D p F4 hl4 k4 n4 pm4 ps4 sb4 => ?_
    refine sliceE ?_
    refine evalPart_none_step ?_
    refine evalPart_some_step ?_
    walk_at "S"
    refine kba_turn (value' := PySem.Expr.Name (PySem.Str.ofString "x") ⟨0, 0, 0, 0⟩) (fun _ => rfl) ?_
    refine sliceX (s := { s with heap := h4, toks := tk4 }) F4 hl4 .none (.int _ _) pick_upto (by simp [ps4]; omega) fun g5 h5 D5 F5 hl5 k5 n5 => ?_
    exact hge hc g5 h5 _ D5 p (F5.sub fun k v e => by simp at e) hl5 (fun b o e => k5 _ _ (k4 _ _ e)) pm4 ps4 sb4
end
end
section
open PySem.W PySem.SeqAt
section
variable {w : World} {A : Around} {E : Value → Shared → Prop} {s : Shared} {g : Heap} {L : Addr} {l : List (String × Value)}

theorem nextOf_rangeI {it : Addr} {x left : Int} {Q : Value → Shared → Prop} (hit : IsRangeIter s.heap it x left 1) (hleft : 0 < left)
    (hQ : ∀ h', IsRangeIter h' it (x + 1) (left - 1) 1 → Heap.SameBut it s.heap h' → Q (.int x s.toks) { s with heap := h', toks := s.toks + 1 }) :
    wpAny (MM w) A (Builtin.SmallTypes.nextOf (.ref it)) Q E s := by
  have hT : s.TypeIs (.ref it) "range_iterator" := ⟨_, hit, rfl⟩
  unfold Builtin.SmallTypes.nextOf
  refine wpAny_bind (wpAny_callSpecial?_slot (name := Str.ofString "__next__") hT PySem.F.slot_range_iterator_next
    (call_meets PySem.F.slot_range_iterator_next hT PySem.F.entry_range_iterator_next (PySem.F.args_range_iterator_next_1 _) (AutoRange.range_iterator___next___range_iterator_1 it x left 1 (by omega)) ⟨hit, ?_⟩))
  exact wpAny_pure (hQ _ (Heap.get?_update_self _ (Heap.get?_update_self _ hit rfl) rfl) ((Heap.SameBut.update ..).trans (Heap.SameBut.update ..)))

theorem nextOf_rangeE {it : Addr} {x left : Int} {Q : Value → Shared → Prop} (hh : A.handled = none) (hit : IsRangeIter s.heap it x left 1) (hleft : left ≤ 0)
    (hE : ∀ h' e, Heap.ExtBut it s.heap h' → (∃ o, h'.get? e = some o ∧ o.cls = .type "StopIteration") → E (.ref e) { s with heap := h' }) :
    wpAny (MM w) A (Builtin.SmallTypes.nextOf (.ref it)) Q E s := by
  have hT : s.TypeIs (.ref it) "range_iterator" := ⟨_, hit, rfl⟩
  unfold Builtin.SmallTypes.nextOf
  refine wpAny_bind (wpAny_callSpecial?_slot (name := Str.ofString "__next__") hT PySem.F.slot_range_iterator_next
    (wpAny_call_entry PySem.F.slot_range_iterator_next hT PySem.F.entry_range_iterator_next ?_ (PySem.F.args_range_iterator_next_1 _)))
  show wpAny _ _ (field (.ref it) 0 >>= _) _ _ s
  refine wpAny_bind (wpAny_field hit rfl (x := rawInt x) rfl ?_)
  show wpAny _ _ (field (.ref it) 1 >>= _) _ _ s
  refine wpAny_bind (wpAny_field hit rfl (x := rawInt left) rfl ?_)
  show wpAny _ _ (field (.ref it) 2 >>= _) _ _ s
  refine wpAny_bind (wpAny_field hit rfl (x := rawInt 1) rfl ?_)
  show wpAny _ _ (if left ≤ 0 then _ else _) _ _ s
  rw [if_pos hleft]
  refine wpAny_bind (wpAny_rule ?_)
  refine wpAny_bind ?_
  show wpAny _ _ (newExc (.type "StopIteration") [] >>= _) _ _ _
  refine wpAny_bind ?_
  simp only [newExc, newTuple]
  refine wpAny_bind (wpAny_newObj_type ?_ (by size_fits))
  refine wpAny_bind (m := firstArgMember _ _) (wpAny_of_eq (a := Value.none) (by first | rfl | (simp only [firstArgMember]; rfl)) ?_)
  refine wpAny_newObj_type ?_ (by size_fits)
  simp only [raiseNew]
  refine wpAny_bind (wpAny_handled ?_)
  first | rw [show A.in1.handled = none from hh] | rw [hh]
  refine wpAny_bind (wpAny_pure (wpAny_throw ?_))
  exact hE _ _ (((Heap.ExtBut.refl it s.heap).push _).push _) ⟨_, Heap.get?_push_size _ rfl, rfl⟩

theorem zipR_item {z TI TO i1 i2 lp : Addr} {x left : Int} {k2 : Nat} {ys : Array Value} {y a b : Value} {Q : Value → Shared → Prop} (D : ZipApart z TI TO i1 i2 lp lp)
    (hz : IsZip s.heap z TI TO .none) (hTI : IsPair s.heap TI (.ref i1) (.ref i2)) (hTO : IsPair s.heap TO a b)
    (h1 : IsRangeIter s.heap i1 x left 1) (h2 : s.heap.IsListIter i2 lp k2) (hl : s.heap.IsList lp ys) (hx : 0 < left) (hy : ys[k2]? = some y)
    (hQ : ∀ h' t tk, IsZip h' z TI TO (rawInt s.heap.objs.size) → IsPair h' TO (.int x t) y → IsRangeIter h' i1 (x + 1) (left - 1) 1 → h'.IsListIter i2 lp (k2 + 1) → IsPair h' s.heap.objs.size (.int x t) y →
      (∀ c o, c ≠ z → c ≠ TO → c ≠ i1 → c ≠ i2 → s.heap.get? c = some o → h'.get? c = some o) → Q (.ref s.heap.objs.size) { s with heap := h', toks := tk }) :
    wpAny (MM w) A (Builtin.«zip.__next__» ⟨[.ref z], []⟩) (fun fin s' => ∃ v, fin = .done (.ret v) ∧ Q v s') E s := by
  show wpAny _ _ (field (.ref z) 2 >>= _) _ _ _
  refine wpAny_bind (wpAny_field hz rfl (x := .bool false) rfl ?_)
  show wpAny _ _ (field (.ref z) 3 >>= _) _ _ _
  refine wpAny_bind (wpAny_field hz rfl (x := .ref TI) rfl ?_)
  refine wpAny_bind (wpAny_seqItems hTI rfl ?_)
  show wpAny _ _ (Builtin.SmallTypes.ownedTupleIsFree (.ref z) >>= _) _ _ _
  refine wpAny_bind ?_
  unfold Builtin.SmallTypes.ownedTupleIsFree
  refine wpAny_bind (wpAny_field hz rfl (x := .none) rfl (wpAny_pure ?_))
  simp only [if_true]
  refine wpAny_bind (wpAny_rule ?_)
  refine wpAny_bind (wpAny_field hz rfl (x := .ref TO) rfl ?_)
  refine wpAny_bind (wpAny_setField_rec hz (by simp) fun h₁ hz₁ hs₁ => ?_)
  replace hz₁ : IsZip h₁ z TI TO .ellipsis := hz₁
  refine wpAny_bind ?_
  simp only [List.zipIdx_cons, List.zipIdx_nil, List.forIn_cons, List.forIn_nil]
  refine wpAny_bind (wpAny_bind (wpAny_onRaise ?_))
  show wpAny _ _ (Builtin.SmallTypes.nextOf (.ref i1) >>= _) _ _ _
  refine wpAny_bind (nextOf_rangeI (hs₁.extBut _ _ D.i1z h1) hx fun h₂ h1₂ hs₂ => wpAny_pure ?_)
  have hTO₂ : IsPair h₂ TO a b := hs₂.extBut _ _ D.TOi1 (hs₁.extBut _ _ D.TOz hTO)
  refine wpAny_bind (wpAny_seqItems hTO₂ rfl ?_)
  refine wpAny_bind (wpAny_updateSeq_pair hTO₂ fun h₃ hTO₃ hs₃ => ?_)
  replace hTO₃ : IsPair h₃ TO (.int x s.toks) b := hTO₃
  refine wpAny_bind (wpAny_letGo (wpAny_pure ?_))
  refine wpAny_bind (wpAny_bind (wpAny_onRaise ?_))
  show wpAny _ _ (Builtin.SmallTypes.nextOf (.ref i2) >>= _) _ _ _
  refine wpAny_bind (wpAny_nextOf_list_item (((h2.extBut hs₁.extBut D.i2z).extBut hs₂.extBut D.i12.symm).extBut hs₃.extBut D.TOi2.symm)
    (((hl.extBut hs₁.extBut D.l2z).extBut hs₂.extBut D.l2i1).extBut hs₃.extBut D.l2TO) hy fun h₄ h2₄ hs₄ => wpAny_pure ?_)
  have hTO₄ : IsPair h₄ TO (.int x s.toks) b := hs₄.extBut _ _ D.TOi2 hTO₃
  refine wpAny_bind (wpAny_seqItems hTO₄ rfl ?_)
  refine wpAny_bind (wpAny_updateSeq_pair hTO₄ fun h₅ hTO₅ hs₅ => ?_)
  replace hTO₅ : IsPair h₅ TO (.int x s.toks) y := hTO₅
  refine wpAny_bind (wpAny_letGo (wpAny_pure (wpAny_pure ?_)))
  refine wpAny_bind (wpAny_seqItems hTO₅ rfl ?_)
  refine wpAny_bind (wpAny_newTuple ?_)
  have hsz : h₅.objs.size = s.heap.objs.size := by rw [hs₅.1, hs₄.1, hs₃.1, hs₂.1, hs₁.1]
  have hz₅ : IsZip h₅ z TI TO .ellipsis := hs₅.extBut _ _ D.TOz.symm (hs₄.extBut _ _ D.i2z.symm (hs₃.extBut _ _ D.TOz.symm (hs₂.extBut _ _ D.i1z.symm hz₁)))
  have hk₅ : ∀ c o, c ≠ z → c ≠ TO → c ≠ i1 → c ≠ i2 → s.heap.get? c = some o → h₅.get? c = some o := fun c o c1 c2 c3 c4 e =>
    hs₅.extBut _ _ c2 (hs₄.extBut _ _ c4 (hs₃.extBut _ _ c2 (hs₂.extBut _ _ c3 (hs₁.extBut _ _ c1 e))))
  have h1₅ : IsRangeIter h₅ i1 (x + 1) (left - 1) 1 := hs₅.extBut _ _ D.TOi1.symm (hs₄.extBut _ _ D.i12 (hs₃.extBut _ _ D.TOi1.symm h1₂))
  have h2₅ : h₅.IsListIter i2 lp (k2 + 1) := h2₄.extBut hs₅.extBut D.TOi2.symm
  have hzlt : z < h₅.objs.size := Heap.lt_size hz₅
  show wpAny _ _ (Builtin.SmallTypes.ownedTupleHandOut (.ref z) (.ref h₅.objs.size) >>= _) _ _ _
  refine wpAny_bind ?_
  unfold Builtin.SmallTypes.ownedTupleHandOut
  have hz₆ : IsZip (h₅.push { cls := .type "tuple", data := .seq #[.int x s.toks, y] }) z TI TO .ellipsis := Heap.get?_push_of_some _ hz₅
  refine wpAny_bind (wpAny_setField_rec hz₆ (by simp) fun h₇ hz₇ hs₇ => ?_)
  replace hz₇ : IsZip h₇ z TI TO (rawInt h₅.objs.size) := hz₇
  refine wpAny_setField_rec hz₇ (by simp) fun h₈ hz₈ hs₈ => ?_
  replace hz₈ : IsZip h₈ z TI TO (rawInt h₅.objs.size) := hz₈
  have up : ∀ c o, c ≠ z → h₅.get? c = some o → h₈.get? c = some o := fun c o c1 e => hs₈.extBut _ _ c1 (hs₇.extBut _ _ c1 (Heap.get?_push_of_some _ e))
  have hT₈ : IsPair h₈ h₅.objs.size (.int x s.toks) y := hs₈.extBut _ _ (Nat.ne_of_gt hzlt) (hs₇.extBut _ _ (Nat.ne_of_gt hzlt) (Heap.get?_push_size _ rfl))
  rw [hsz] at hz₈ hT₈
  refine wpAny_pure ⟨_, rfl, ?_⟩
  show Q (.ref h₅.objs.size) _
  rw [hsz]
  exact hQ h₈ s.toks _ hz₈ (up _ _ D.TOz hTO₅) (up _ _ D.i1z h1₅) (h2₅.at fun o e => up _ o D.i2z e) hT₈ fun c o c1 c2 c3 c4 e => up c o c1 (hk₅ c o c1 c2 c3 c4 e)

theorem zipR_end {z TI TO i1 i2 lp : Addr} {x left : Int} {a b : Value} {Q : Fin → Shared → Prop} (hh : A.handled = none) (D : ZipApart z TI TO i1 i2 lp lp)
    (hz : IsZip s.heap z TI TO .none) (hTI : IsPair s.heap TI (.ref i1) (.ref i2)) (hTO : IsPair s.heap TO a b)
    (h1 : IsRangeIter s.heap i1 x left 1) (hx : left ≤ 0)
    (hE : ∀ h' e, (∀ c o, c ≠ z → c ≠ i1 → s.heap.get? c = some o → h'.get? c = some o) → (∃ o, h'.get? e = some o ∧ o.cls = .type "StopIteration") → E (.ref e) { s with heap := h' }) :
    wpAny (MM w) A (Builtin.«zip.__next__» ⟨[.ref z], []⟩) Q E s := by
  show wpAny _ _ (field (.ref z) 2 >>= _) _ _ _
  refine wpAny_bind (wpAny_field hz rfl (x := .bool false) rfl ?_)
  show wpAny _ _ (field (.ref z) 3 >>= _) _ _ _
  refine wpAny_bind (wpAny_field hz rfl (x := .ref TI) rfl ?_)
  refine wpAny_bind (wpAny_seqItems hTI rfl ?_)
  show wpAny _ _ (Builtin.SmallTypes.ownedTupleIsFree (.ref z) >>= _) _ _ _
  refine wpAny_bind ?_
  unfold Builtin.SmallTypes.ownedTupleIsFree
  refine wpAny_bind (wpAny_field hz rfl (x := .none) rfl (wpAny_pure ?_))
  simp only [if_true]
  refine wpAny_bind (wpAny_rule ?_)
  refine wpAny_bind (wpAny_field hz rfl (x := .ref TO) rfl ?_)
  refine wpAny_bind (wpAny_setField_rec hz (by simp) fun h₁ hz₁ hs₁ => ?_)
  replace hz₁ : IsZip h₁ z TI TO .ellipsis := hz₁
  refine wpAny_bind ?_
  simp only [List.zipIdx_cons, List.zipIdx_nil, List.forIn_cons, List.forIn_nil]
  refine wpAny_bind (wpAny_bind (wpAny_onRaise ?_))
  show wpAny _ _ (Builtin.SmallTypes.nextOf (.ref i1) >>= _) _ _ _
  refine wpAny_bind (nextOf_rangeE hh (hs₁.extBut _ _ D.i1z h1) hx fun h₂ e hs₂ he => ?_)
  obtain ⟨oe, hoe, hce⟩ := he
  have hz₂ : IsZip h₂ z TI TO .ellipsis := hs₂ _ _ D.i1z.symm hz₁
  have hez : e ≠ z := fun x => by subst x; rw [hz₂] at hoe; cases hoe; simp at hce
  refine wpAny_setField_rec hz₂ (by simp) fun h₃ _ hs₃ => hE h₃ e (fun c o c1 c3 x => hs₃.extBut _ _ c1 (hs₂ _ _ c3 (hs₁.extBut _ _ c1 x))) ⟨oe, hs₃.extBut _ _ hez hoe, hce⟩

noncomputable def zSt (z TI TO i1 it lp : Addr) (n : Nat) (ys : Array Value) (i : Nat) (h : Heap) : Prop :=
  IsZip h z TI TO .none ∧ IsPair h TI (.ref i1) (.ref it) ∧ (∃ a b, IsPair h TO a b) ∧ IsRangeIter h i1 i ((n : Int) - i) 1 ∧ h.IsListIter it lp i ∧ h.IsList lp ys
noncomputable def zMd (z TI TO i1 it lp : Addr) (n : Nat) (ys : Array Value) (i : Nat) (v : Value) (h : Heap) : Prop :=
  enP ys i v h ∧ ∃ T, v = .ref T ∧ IsZip h z TI TO (rawInt T) ∧ IsPair h TI (.ref i1) (.ref it) ∧ (∃ a b, IsPair h TO a b) ∧ IsRangeIter h i1 ((i + 1 : Nat) : Int) ((n : Int) - ((i + 1 : Nat) : Int)) 1 ∧ h.IsListIter it lp (i + 1) ∧ h.IsList lp ys ∧ T ≠ z

theorem zipK {z TI TO i1 it lp : Addr} {n : Nat} {ys : Array Value} {elts : List Expr} {k : Nat} {pos : Pos} (hh : A.handled = none) (D : ZipApart z TI TO i1 it lp lp) (hn : n ≤ ys.size) :
    KTurns P0 w A (.Tuple elts k pos) z [z, TI, TO, i1, it, lp] [z, TO, i1, it] n (enP ys) (zMd z TI TO i1 it lp n ys) (zSt z TI TO i1 it lp n ys) where
  sub := fun c hc => by simp at hc ⊢; rcases hc with rfl | rfl | rfl | rfl <;> simp
  frame := fun i h h' hst hk => by
    obtain ⟨hz, hTI, ⟨a, b, hTO⟩, h1, h2, hl⟩ := hst
    exact ⟨hk z (by simp) _ hz, hk TI (by simp) _ hTI, ⟨a, b, hk TO (by simp) _ hTO⟩, hk i1 (by simp) _ h1, h2.at fun o e => hk it (by simp) o e, hl.at fun o e => hk lp (by simp) o e⟩
  item := fun i s Q E hi hst hQ => by
    obtain ⟨hz, hTI, ⟨a, b, hTO⟩, h1, h2, hl⟩ := hst
    have hT : s.TypeIs (.ref z) "zip" := ⟨_, hz, rfl⟩
    have hiy : i < ys.size := Nat.lt_of_lt_of_le hi hn
    unfold pyNext
    refine wpAny_bind (wpAny_attempt (wpAny_callSpecial?_slot (name := Str.ofString "__next__") hT PySem.F.slot_zip_next
      (wpAny_call_entry PySem.F.slot_zip_next hT PySem.F.entry_zip_next
        (zipR_item D hz hTI hTO h1 h2 hl (by omega) (Array.getElem?_eq_getElem hiy) fun h' t tk a1 a2 a3 a4 a5 hk => wpAny_pure ?_) (PySem.F.args_zip_next_1 _))))
    refine hQ _ h' tk ⟨⟨_, _, rfl, ⟨t, _, Array.getElem?_eq_getElem hiy, rfl⟩, ⟨_, a5, rfl, _, rfl⟩⟩, _, rfl, a1, hk _ _ D.TIz D.TITO D.TIi1 D.TIi2 hTI, ⟨_, _, a2⟩, ?_, a4, hl.at fun o e => hk _ o D.l1z D.l1TO D.l1i1 D.l1i2 e, Nat.ne_of_gt (Heap.lt_size hz)⟩
      fun c o hc e => hk c o (fun x => hc (by simp [x])) (fun x => hc (by simp [x])) (fun x => hc (by simp [x])) (fun x => hc (by simp [x])) e
    have e1 : ((i + 1 : Nat) : Int) = (i : Int) + 1 := by omega
    have e2 : (n : Int) - ((i + 1 : Nat) : Int) = (n : Int) - i - 1 := by omega
    rw [e2, e1]; exact a3
  go := fun i v s Q E hm hQ => by
    obtain ⟨⟨T', vals, eT', hv, hTup⟩, T, rfl, hz, hTI, ⟨a, b, hTO⟩, h1, h2, hl, hTz⟩ := hm
    cases eT'
    refine wpAny_letOwnedTupleGo_zip hz fun h' hz' hs' => hQ h' ⟨_, vals, rfl, hv, ?_⟩ ⟨hz', hs'.extBut _ _ D.TIz hTI, ⟨a, b, hs'.extBut _ _ D.TOz hTO⟩, hs'.extBut _ _ D.i1z h1, h2.extBut hs'.extBut D.i2z, hl.extBut hs'.extBut D.l1z⟩
      fun c o hc e => hs'.extBut _ _ (fun x => hc (by simp [x])) e
    exact hTup.extBut hs'.extBut hTz
  done := fun s Q E hst hQ => by
    obtain ⟨hz, hTI, ⟨a, b, hTO⟩, h1, h2, hl⟩ := hst
    have hT : s.TypeIs (.ref z) "zip" := ⟨_, hz, rfl⟩
    unfold pyNext
    refine wpAny_bind (wpAny_attempt (wpAny_callSpecial?_slot (name := Str.ofString "__next__") hT PySem.F.slot_zip_next
      (wpAny_call_entry PySem.F.slot_zip_next hT PySem.F.entry_zip_next (zipR_end hh D hz hTI hTO h1 (by omega) fun h' e hk he => ?_) (PySem.F.args_zip_next_1 _))))
    obtain ⟨o, ho, hc⟩ := he
    refine wpAny_bind (wpAny_isInstance (T := "StopIteration") (b := true) ⟨o, ho, hc⟩ isSubtype_stop ?_)
    exact wpAny_pure (hQ _ _ fun c o hc e => hk c o (fun x => hc (by simp [x])) (fun x => hc (by simp [x])) e)

/-- and behind the end the list's iterator stands at n -/
theorem zipDone {z TI TO i1 it lp : Addr} {n : Nat} {ys : Array Value} {Q : Option Value → Shared → Prop} (hh : A.handled = none) (D : ZipApart z TI TO i1 it lp lp) (hst : zSt z TI TO i1 it lp n ys n s.heap)
    (hQ : ∀ h' tk, h'.IsListIter it lp n → (∀ b o, b ∉ [z, TO, i1, it] → s.heap.get? b = some o → h'.get? b = some o) → Q none { s with heap := h', toks := tk }) : wpAny (MM w) A (pyNext (.ref z)) Q E s := by
  obtain ⟨hz, hTI, ⟨a, b, hTO⟩, h1, h2, hl⟩ := hst
  have hT : s.TypeIs (.ref z) "zip" := ⟨_, hz, rfl⟩
  unfold pyNext
  refine wpAny_bind (wpAny_attempt (wpAny_callSpecial?_slot (name := Str.ofString "__next__") hT PySem.F.slot_zip_next
    (wpAny_call_entry PySem.F.slot_zip_next hT PySem.F.entry_zip_next (zipR_end hh D hz hTI hTO h1 (by omega) fun h' e hk he => ?_) (PySem.F.args_zip_next_1 _))))
  obtain ⟨o, ho, hc⟩ := he
  refine wpAny_bind (wpAny_isInstance (T := "StopIteration") (b := true) ⟨o, ho, hc⟩ isSubtype_stop ?_)
  exact wpAny_pure (hQ _ _ (h2.at fun o e => hk _ o D.i2z (Ne.symm D.i12) e) fun c o hc e => hk c o (fun x => hc (by simp [x])) (fun x => hc (by simp [x])) e)

noncomputable abbrev zH1 (h : Heap) (n : Nat) : Heap := h.push { cls := .type "range_iterator", data := .fields #[rawInt 0, rawInt n, rawInt 1] }
noncomputable abbrev zH2 (h : Heap) (n : Nat) (it : Addr) : Heap := (zH1 h n).push { cls := .type "tuple", data := .seq #[.ref h.objs.size, .ref it] }
noncomputable abbrev zH3 (h : Heap) (n : Nat) (it : Addr) : Heap := (zH2 h n it).push { cls := .type "tuple", data := .seq #[.none, .none] }
noncomputable abbrev zH4 (h : Heap) (n : Nat) (it : Addr) : Heap := (zH3 h n it).push { cls := .type "zip", data := .fields #[.none, .bool false, .bool false, .ref (zH1 h n).objs.size, .ref (zH2 h n it).objs.size] }
theorem meets_zipR {r it lp : Addr} {n : Nat} {t u v : Tok} (hn : n < 2 ^ 20) :
    Meets (Builtin.«zip.__new__» ⟨[.type "zip", .ref r, .ref it], []⟩) (fun _ R s => IsRange s.heap r 0 n 1 t u v ∧ s.heap.IsListIter it lp 0 ∧
      R (.ok (.ret (.ref (zH3 s.heap n it).objs.size))) { s with heap := zH4 s.heap n it }) :=
  .of_wp fun prog w A R s h => by
    obtain ⟨hp, g, d, tk, os⟩ := s; obtain ⟨hr, hi, h⟩ := h
    have hsub := sub_zip
    have hsm : Builtin.Range.small 0 n 1 = true := small_one (by omega) (by omega) (by omega) (by omega)
    have hsz : Builtin.Range.rangeSize 0 n 1 = (n : Int) := by rw [rangeSize_nat]; omega
    have hR : IsRange (Shared.heap ⟨hp, g, d, tk, os⟩) r 0 n 1 t u v := hr
    have hI : Heap.IsListIter (Shared.heap ⟨hp.push { cls := .type "range_iterator", data := .fields #[rawInt 0, rawInt (Builtin.Range.rangeSize 0 n 1), rawInt 1] }, g, d, tk, os⟩) it lp 0 := hi.at fun o e => Heap.get?_push_of_some _ e
    wp_walk using wpAny_pyIter_range hR hsm, wpAny_pyIter_listiter hI
    rw [hsz]
    exact ⟨_, rfl, h⟩

theorem zipX {r it lp : Addr} {n : Nat} {t u v : Tok} {ys : Array Value} {Q : Value → Shared → Prop} (hn : n < 2 ^ 20) (hr : IsRange s.heap r 0 n 1 t u v) (hi : s.heap.IsListIter it lp 0) (hl : s.heap.IsList lp ys) (hne : lp ≠ it)
    (h : ∀ h' z TI TO i1, ZipApart z TI TO i1 it lp lp → zSt z TI TO i1 it lp n ys 0 h' → (∀ b o, s.heap.get? b = some o → h'.get? b = some o) → s.heap.objs.size ≤ i1 → s.heap.objs.size ≤ TI → s.heap.objs.size ≤ TO → s.heap.objs.size ≤ z → Q (.ref z) { s with heap := h' }) :
    wpAny (MM w) A (call (.type "zip") [.ref r, .ref it]) Q E s := by
  refine callType_new PySem.F.called_zip (by decide) (PySem.F.typeCall_zip_2 _ _) (PySem.F.newCall_zip_2 _ _) (fun obj => PySem.F.args_object_init_3 obj _ _) PySem.F.entry_zip_new (meets_zipR hn) ⟨hr, hi, ?_⟩
  have z1 : (zH1 s.heap n).objs.size = s.heap.objs.size + 1 := Heap.size_push ..
  have z2 : (zH2 s.heap n it).objs.size = s.heap.objs.size + 2 := by rw [Heap.size_push, z1]
  have z3 : (zH3 s.heap n it).objs.size = s.heap.objs.size + 3 := by rw [Heap.size_push, z2]
  have g4 : (zH4 s.heap n it).get? (zH3 s.heap n it).objs.size = some _ := Heap.get?_push_size _ rfl
  have g3 : (zH4 s.heap n it).get? (zH2 s.heap n it).objs.size = some _ := Heap.get?_push_of_some _ (Heap.get?_push_size _ rfl)
  have g2 : (zH4 s.heap n it).get? (zH1 s.heap n).objs.size = some _ := Heap.get?_push_of_some _ (Heap.get?_push_of_some _ (Heap.get?_push_size _ rfl))
  have g1 : (zH4 s.heap n it).get? s.heap.objs.size = some _ := Heap.get?_push_of_some _ (Heap.get?_push_of_some _ (Heap.get?_push_of_some _ (Heap.get?_push_size _ rfl)))
  have up : ∀ b o, s.heap.get? b = some o → (zH4 s.heap n it).get? b = some o := fun b o e => Heap.get?_push_of_some _ (Heap.get?_push_of_some _ (Heap.get?_push_of_some _ (Heap.get?_push_of_some _ e)))
  rw [z1, z2, z3] at g4
  rw [z2] at g3
  rw [z1] at g2
  show _ ∧ _
  rw [z3]
  have a1 : it < s.heap.objs.size := by obtain ⟨_, e, _⟩ := hi; exact Heap.lt_size e
  have a2 : lp < s.heap.objs.size := by obtain ⟨_, e, _⟩ := hl; exact Heap.lt_size e
  refine ⟨⟨_, g4, rfl⟩, h _ (s.heap.objs.size + 3) (s.heap.objs.size + 1) (s.heap.objs.size + 2) s.heap.objs.size ?_ ⟨g4, g2, ⟨_, _, g3⟩, ?_, hi.at fun o e => up _ o e, hl.at fun o e => up _ o e⟩ up (Nat.le_refl _) (Nat.le_add_right _ 1) (Nat.le_add_right _ 2) (Nat.le_add_right _ 3)⟩
  · have add : ∀ a b : Nat, a ≠ b → s.heap.objs.size + a ≠ s.heap.objs.size + b := fun a b hab e => hab (Nat.add_left_cancel e)
    have add0 : ∀ b : Nat, 0 ≠ b → s.heap.objs.size ≠ s.heap.objs.size + b := fun b hb e => add 0 b hb e
    have lo : ∀ (x : Addr), x < s.heap.objs.size → ∀ k : Nat, x ≠ s.heap.objs.size + k := fun x hx k => Nat.ne_of_lt (Nat.lt_of_lt_of_le hx (Nat.le_add_right _ k))
    exact { TIz := add 1 3 (by decide), TOz := add 2 3 (by decide), i1z := add0 3 (by decide), i2z := lo it a1 3, TITO := add 1 2 (by decide), TIi1 := Ne.symm (add0 1 (by decide)), TIi2 := Ne.symm (lo it a1 1), TOi1 := Ne.symm (add0 2 (by decide)), TOi2 := Ne.symm (lo it a1 2), i12 := Ne.symm (lo it a1 0), l1z := lo lp a2 3, l1TO := lo lp a2 2, l1i1 := lo lp a2 0, l1i2 := hne, l2z := lo lp a2 3, l2TO := lo lp a2 2, l2i1 := lo lp a2 0, l2i2 := hne }
  · have e : (n : Int) - ((0 : Nat) : Int) = n := by omega
    rw [e]; exact g1
end
end
section
open PySem.W PySem.SeqAt
section
variable {w : World} {A : Around} {E : Value → Shared → Prop} {s : Shared} {target : Expr} {I D C : Addr} {fp wr : List Addr} {n k : Nat} {P Md : Nat → Value → Heap → Prop} {St : Nat → Heap → Prop} {cenv : Env} {g₀ : Heap}
/-- as compL1, and what holds behind the end -/
theorem compL1F {elt iter : Expr} {scope : Scope} {pos : Pos} {R : Result → Shared → Prop} (Fn : Heap → Prop) (W : KTurns P0 w A target I fp wr n P Md St) (hC : C ∉ fp) (hDf : D ∉ fp) (hwr : ∀ b ∈ wr, b < D)
    (done' : ∀ (s : Shared) (Q : Option Value → Shared → Prop) (E : Value → Shared → Prop), St n s.heap → (∀ h' tk, Fn h' → (∀ b o, b ∉ wr → s.heap.get? b = some o → h'.get? b = some o) → Q none { s with heap := h', toks := tk }) → wpAny (MM w) A (pyNext (.ref I)) Q E s)
    (F : Fx g₀ C s.heap []) (st : St 0 s.heap) (hl : g₀.PlainList D ([] : List Value).toArray) (hn : n < 2 ^ 19)
    (J : Nat → List Value → Heap → Prop) (j0 : ∀ g, J 0 [] g) (jlen : ∀ i vs g, J i vs g → vs.length ≤ i)
    (mono : ∀ i vs (g g' : Heap), J i vs g → (∀ b o, D < b → g.get? b = some o → g'.get? b = some o) → J i vs g')
    (step : ∀ E₁ i g h tk vs v, i < n → Fx g C h [] → (∀ b o, b ≠ C → h.get? b = some o → g.get? b = some o) → P i v h → g.PlainList D vs.toArray → J i vs g → (∀ b o, b ≠ D → b ∉ wr → g₀.get? b = some o → g.get? b = some o) →
      ∀ Kx : Value → Shared → Prop, (∀ x g' h' tk' l', Fx g' C h' l' → (∀ b o, g.get? b = some o → g'.get? b = some o) → J (i + 1) (vs ++ [x]) g' → Kx x { s with heap := h', toks := tk' }) →
      wpAny (MM w) A (assign target cenv v) (fun _ s₂ => wpAny (MM w) A (eval elt cenv) Kx E₁ s₂) E₁ { s with heap := h, toks := tk })
    (fin : ∀ g h tk vs, Fx g C h [] → (∀ b o, b ≠ C → h.get? b = some o → g.get? b = some o) → Fn h → g.PlainList D vs.toArray → J n vs g → (∀ b o, b ≠ D → b ∉ wr → g₀.get? b = some o → g.get? b = some o) → R (.ok .next) { s with heap := h, toks := tk }) :
    codeAny (MM w) A (.compLoop (.ListComp elt [⟨target, iter, [], 0⟩] scope pos) 0 (.ref I) (.ref D) cenv) R s := by
  refine compLoop1 (InvS s D C wr n St g₀ J []) n (inv0 F st hl (by decide) (fun g _ => j0 g) n) fun E₁ k s' hI => ?_
  obtain ⟨i, g, h, tk, vs, hk, rfl, V⟩ := hI
  have hCw : C ∉ wr := fun hc => hC (W.sub _ hc)
  have hDw : D ∉ wr := fun hc => hDf (W.sub _ hc)
  have nxt : ∀ h' : Heap, (∀ b o, b ∉ wr → h.get? b = some o → h'.get? b = some o) →
      Fx (h'.hide C) C h' [] ∧ (h'.hide C).PlainList D vs.toArray ∧ J i vs (h'.hide C) ∧ (∀ b o, b ≠ D → b ∉ wr → g₀.get? b = some o → (h'.hide C).get? b = some o) := by
    intro h' kk
    have up : ∀ b o, b ∉ wr → g.get? b = some o → (h'.hide C).get? b = some o := fun b o hb e => (Heap.hide_ne _ (V.fx.ne e)).trans (kk b o hb (V.fx.keep b o e))
    refine ⟨V.fx.re fun o e => kk _ _ hCw e, ?_, mono _ _ _ _ V.j fun b o hb e => up b o (above hwr b hb).2 e, fun b o hb hw e => up b o hw (V.kp b o hb hw e)⟩
    obtain ⟨m, ho⟩ := V.ls
    exact ⟨m, up _ _ hDw ho⟩
  rcases Nat.lt_or_ge i n with hi | hi
  · refine W.item i _ _ _ hi V.st fun v h' tk' md kk => ?_
    refine W.go i v _ _ _ md fun h2 hp st2 k2 => ?_
    obtain ⟨F2, l2, j2, kp2⟩ := nxt h2 fun b o hb e => k2 b o hb (kk b o hb e)
    have hle := jlen _ _ _ j2
    have hid : ∀ b o, b ≠ C → h2.get? b = some o → (h2.hide C).get? b = some o := fun b o hb e => (Heap.hide_ne _ hb).trans e
    refine wpAny_mono (step E₁ i _ h2 tk' vs v hi F2 hid hp l2 j2 kp2 _ ?_) (fun _ s₂ h₂ => h₂) fun _ _ x => x
    intro x g' h'' tk'' l' F' kk' hj
    exact turnB (above hwr) W hC hDf mono hi hk hid st2 l2 (by omega) kp2 (F'.sub (l' := []) fun k v e => by simp at e) kk' hj
  · have : i = n := Nat.le_antisymm V.le hi
    subst this
    refine done' _ _ _ V.st fun h' tk' hf kk => ?_
    obtain ⟨F2, l2, j2, kp2⟩ := nxt h' kk
    exact fin _ h' tk' vs F2 (fun b o hb e => (Heap.hide_ne _ hb).trans e) hf l2 j2 kp2
end
end
section
open PySem.W PySem.SeqAt
section
variable {w : World} {A : Around} {E : Value → Shared → Prop} {s : Shared} {mg mb : Str → Option Value} {g : Heap} {L fa : Addr} {l : List (String × Value)} {env : Env}

noncomputable def kOf (sps : List (List Nat)) (i : Nat) : T2 := (letL (sps.getD i []), (sps.getD i []).length)
noncomputable def ent (sps : List (List Nat)) (i : Nat) : TE := (kOf sps i, i, sps.getD i [])
noncomputable def AtEA (D : Addr) (g : Heap) (v : Value) (d : TE) : Prop := ∃ p kp t1 t2 t3 t4, D < p ∧ D < kp ∧ v = .ref p ∧ g.get? p = some (tupObj [.ref kp, .int d.2.1 t2, sv d.2.2 t3]) ∧ g.get? kp = some (tupObj [sv d.1.1 t1, .int d.1.2 t4])
theorem AtEA.at {D : Addr} {g : Heap} {v : Value} {d : TE} (x : AtEA D g v d) : AtE g v d := by
  obtain ⟨p, kp, t1, t2, t3, t4, _, _, e, h1, h2⟩ := x
  exact ⟨p, .ref kp, t2, t3, e, h1, kp, t1, t4, rfl, h2⟩
theorem AtEA.mono {D : Addr} {g g' : Heap} {v : Value} {d : TE} (x : AtEA D g v d) (k : ∀ b o, D < b → g.get? b = some o → g'.get? b = some o) : AtEA D g' v d := by
  obtain ⟨p, kp, t1, t2, t3, t4, a, b, e, h1, h2⟩ := x
  exact ⟨p, kp, t1, t2, t3, t4, a, b, e, k _ _ a h1, k _ _ b h2⟩

theorem ns_comp {lp q it T c : Addr} {n : Nat} {t : Tok} {pm doc : Value} {vs : List Value} {sps : List (List Nat)} {gb : Heap} {Q : Flow → Shared → Prop} (R : Rm A 7) (G : Gd w mg mb gb) (F : Fx g L s.heap l)
    (hgb : ∀ b o, gb.get? b = some o → g.get? b = some o) (hgi : gb.get? it = none) (hln : l.lookup "n" = some (.int n t)) (hli : l.lookup "it" = some (.ref it))
    (hcell : gb.IsCell (L + 1) (some (.ref q))) (hl : gb.PlainList lp vs.toArray) (hit : g.IsListIter it lp 0) (hSL : SL vs sps) (hnl : n ≤ vs.length) (h64 : vs.length < 64) (fq : FnAt gb 20 q)
    (key : ∀ s', KeyOk w A q gb vs (kOf sps) s')
    (hQ : ∀ g' h' tk W (ws : List Value), Fx g' L h' (put l "result" (.ref W)) → g'.PlainList W ws.toArray → ws.length = n → (∀ (j : Nat) v, ws[j]? = some v → AtE g' v (ent sps j)) → g'.IsListIter it lp n → g.get? W = none →
      (∀ b o, b ≠ it → g.get? b = some o → g'.get? b = some o) → Q .next { s with heap := h', toks := tk }) :
    wpAny (MM w) A (exec (stN 10 4) (callEnvC (fdOf 10 (.ref T) pm (.ref c) doc) L fa)) Q E s := by
  have Gg := G.keeps hgb
  have hne : lp ≠ it := by rintro rfl; obtain ⟨m, ho⟩ := hl; rw [hgi] at ho; cases ho
  refine compA (L := L) (x := "result") (cl := [(Str.ofString "key", L + 1)]) (by kernel_rfl) ?_
  refine callTy F Gg (by (simp only [blts, List.lookup, String.reduceBEq] <;> rfl)) ?_
  refine evs_cons ?_
  refine callTy F Gg (by (simp only [blts, List.lookup, String.reduceBEq] <;> rfl)) ?_
  refine evs_cons ?_
  refine ldL F hln ?_
  refine evs_nil ?_
  refine rangeX F fun g1 h1 r t1 t2 tk1 F1 o1 k1 n1 => ?_
  refine evs_cons ?_
  refine ldL F1 hli ?_
  refine evs_nil ?_
  have hitg : h1.IsListIter it lp 0 := hit.at fun o e => F1.keep _ _ (k1 _ _ e)
  have hl1 : h1.IsList lp vs.toArray := (F1.list (hl.at fun o e => k1 _ _ (hgb _ _ e))).isList
  refine zipX (by omega) (F1.keep _ _ o1) hitg hl1 hne fun h2 z TI TO i1 D2 st2 up2 hi1 hTI hTO hz => ?_
  have F2 := F1.up up2
  refine wpAny_pyIter_zip st2.1 ?_
  refine ⟨_, _, F2, fun _ _ h3 tk k3 hq => wpAny_pyIter_zip (k3 _ _ st2.1) hq, fun D C g3 h3 tk3 F3 hD k3 nD nC lt => ?_⟩
  dsimp only at k3 nD nC lt
  have hLs : L < h1.objs.size := by obtain ⟨m, hn, _⟩ := F1.ns; exact hn.lt
  have hits : it < h1.objs.size := by obtain ⟨_, e, _⟩ := hitg; exact Heap.lt_size e
  have hgs : ∀ b o, g.get? b = some o → b < h1.objs.size := fun b o e => Heap.lt_size (F1.keep _ _ (k1 _ _ e))
  have hLi : L ≠ it := by rintro rfl; obtain ⟨_, e, _⟩ := hit; rw [F.noL] at e; cases e
  have hfp : ∀ b ∈ [z, TI, TO, i1, it, lp], b < h2.objs.size := by
    obtain ⟨a1, a2, ⟨_, _, a3⟩, a4, ⟨_, a5, _⟩, ⟨_, a6, _⟩⟩ := st2
    intro b hb
    simp only [List.mem_cons, List.not_mem_nil, or_false] at hb
    rcases hb with rfl | rfl | rfl | rfl | rfl | rfl
    · exact Heap.lt_size a1
    · exact Heap.lt_size a2
    · exact Heap.lt_size a3
    · exact Heap.lt_size a4
    · exact Heap.lt_size a5
    · exact Heap.lt_size a6
  have hwr : ∀ b ∈ [z, TO, i1, it], b < D := fun b hb => Nat.lt_of_lt_of_le (hfp b (by simp only [List.mem_cons, List.not_mem_nil, or_false] at hb ⊢; rcases hb with rfl | rfl | rfl | rfl <;> simp)) lt.1
  have hCf : C ∉ [z, TI, TO, i1, it, lp] := notIn_of hfp (Nat.le_trans lt.1 (Nat.le_of_lt lt.2))
  have hDf : D ∉ [z, TI, TO, i1, it, lp] := notIn_of hfp lt.1
  have W : ∀ elts k pos, KTurns P0 w A (.Tuple elts k pos) z [z, TI, TO, i1, it, lp] [z, TO, i1, it] n (enP vs.toArray) (zMd z TI TO i1 it lp n vs.toArray) (zSt z TI TO i1 it lp n vs.toArray) := fun _ _ _ => zipK R.h D2 (by simpa using hnl)
  have st3 : zSt z TI TO i1 it lp n vs.toArray 0 h3 := (W [] 0 ⟨0, 0, 0, 0⟩).frame _ _ _ st2 fun b _ o e => F3.keep _ _ (k3 b o e)
  -- what was there before, in the loop
  have hnw : ∀ b, b < h1.objs.size → b ≠ it → b ∉ [z, TO, i1, it] := fun b hb hi hm => by
    simp only [List.mem_cons, List.not_mem_nil, or_false] at hm
    rcases hm with rfl | rfl | rfl | rfl
    · exact absurd hb (Nat.not_lt.mpr hz)
    · exact absurd hb (Nat.not_lt.mpr hTO)
    · exact absurd hb (Nat.not_lt.mpr hi1)
    · exact hi rfl
  have hsg3 : ∀ b o, b ≠ it → g.get? b = some o → g3.get? b = some o ∧ b ≠ D ∧ b ∉ [z, TO, i1, it] := fun b o hb eb =>
    ⟨k3 _ _ (up2 _ _ (F1.keep _ _ (k1 _ _ eb))), Nat.ne_of_lt (Nat.lt_of_lt_of_le (Heap.lt_size (up2 _ _ (F1.keep _ _ (k1 _ _ eb)))) lt.1), hnw b (hgs b o eb) hb⟩
  have gbi : ∀ b o, gb.get? b = some o → b ≠ it := fun b o e => by rintro rfl; rw [hgi] at e; cases e
  refine compL1F (fun h => h.IsListIter it lp n) (W _ _ _) hCf hDf hwr (fun s Q E hst hq => zipDone R.h D2 hst hq) F3 st3 hD (by omega) (fun i ws g => ws.length = i ∧ ∀ (j : Nat) v, ws[j]? = some v → AtEA D g v (ent sps j)) ?_ ?_ ?_ ?_ ?_
  · exact fun g => ⟨rfl, fun j v e => by simp at e⟩
  · exact fun i ws g h => Nat.le_of_eq h.1
  · exact fun i ws g g' h k => ⟨h.1, fun j v e => (h.2 j v e).mono k⟩
  · intro E₁ i gg hh tk ws v hi Fg hid hp hlD hj kp Kx kx
    obtain ⟨T', vals, rfl, ⟨ti, x, hx, rfl⟩, hT⟩ := hp
    have hTg := Fg.tup hid hT
    have hsg : ∀ b o, gb.get? b = some o → gg.get? b = some o := fun b o eb => let ⟨a1, a2, a3⟩ := hsg3 b o (gbi b o eb) (hgb b o eb); kp b o a2 a3 a1
    have hi' : i < sps.length := by have := hSL.1; omega
    obtain ⟨tx, hvx⟩ := hSL.2 i _ (List.getElem?_eq_getElem hi')
    have hx' : x = sv sps[i] tx := by
      have : vs[i]? = some x := by simpa using hx
      rw [hvx] at this; exact (Option.some.inj this).symm
    subst hx'
    refine unpackX (vs := [_, _]) Fg R.h hTg fun h4 F4 => ?_
    show wpAny _ _ (assignInOrder [assign _ _, assign _ _] [_, _]) _ _ _
    walk_at "S"
    rename_i h5 F5
    refine tupF (L := C) ?_
    refine evs_cons ?_
    refine callN (ldC (F5.cell (hcell.keeps hsg)) ?_)
    obtain ⟨pm', c', doc', hoq, _⟩ := id fq
    refine callW_def (o := { cls := .type "function", data := .func (fdOf 20 .none pm' (.ref c') doc') }) (fd := fdOf 20 .none pm' (.ref c') doc') rfl ?_
    walk_at "ev"
    refine evs_nil ⟨F5.keep _ _ (hsg _ _ hoq), ?_⟩
    refine key _ h5 _ i _ _ _ (fun b o e => F5.keep _ _ (hsg b o e)) hvx fun h6 tk6 kv k6 at6 fr6 => ?_
    obtain ⟨kp6, rfl, fr6⟩ := fr6
    obtain ⟨kp7, t7, t8, e7, o7⟩ := at6
    cases e7
    have F6 := F5.re (h' := h6) fun o e => k6 _ _ e
    have kh : ∀ b o, b ≠ C → h6.get? b = some o → (h6.hide C).get? b = some o := fun b o hb e => (Heap.hide_ne _ hb).trans e
    have kg6 : ∀ b o, gg.get? b = some o → (h6.hide C).get? b = some o := fun b o e => kh b o (Fg.ne e) (k6 _ _ (F5.keep _ _ e))
    have hCs : ∃ o, h5.get? C = some o := by obtain ⟨m, ⟨o, _, _, ho, _⟩, _⟩ := F5.ns; exact ⟨o, ho⟩
    have hDo : ∃ o, gg.get? D = some o := by obtain ⟨m, ho⟩ := hlD; exact ⟨_, ho⟩
    have hkC : kp6 ≠ C := by obtain ⟨o, ho⟩ := hCs; exact Nat.ne_of_gt (fr6 _ _ ho)
    have hkD : D < kp6 := by obtain ⟨o, ho⟩ := hDo; exact fr6 _ _ (F5.keep _ _ ho)
    walk_at "ev"; walk_at "ev"
    refine evs_nil ⟨Nat.le_of_ble_eq_true rfl, _, _, F6, fun ga ha p Fa ea ka na la => ?_⟩
    have e6 : sps.getD i [] = sps[i] := by simp [List.getD, hi']
    refine kx _ ga ha _ _ Fa (fun b o e => ka _ _ (kg6 _ _ e)) ⟨by simp [hj.1], fun j v hjv => ?_⟩
    rcases Nat.lt_or_ge j ws.length with hjl | hjl
    · rw [List.getElem?_append_left hjl] at hjv
      exact (hj.2 j v hjv).mono fun b o _ e => ka _ _ (kg6 _ _ e)
    · rw [List.getElem?_append_right hjl] at hjv
      cases e2 : j - ws.length with
      | zero =>
        rw [e2] at hjv; cases hjv
        have : j = i := by have := hj.1; omega
        subst this
        have ea' : ga.get? p = some (tupObj [.ref kp6, .int (j : Int) ti, sv (sps.getD j []) tx]) := by rw [e6]; exact ea
        have hDp : D < p := by obtain ⟨o, ho⟩ := hDo; exact la _ _ (F6.keep _ _ (kg6 _ _ ho))
        exact ⟨p, kp6, t7, ti, tx, t8, hDp, hkD, rfl, ea', ka _ _ (kh _ _ hkC o7)⟩
      | succ m => rw [e2] at hjv; simp at hjv
  · intro gg hh tk ws Fg hid hf hlD hj kp
    have hLlt : L < h2.objs.size := by obtain ⟨m, hn2, _⟩ := F2.ns; exact hn2.lt
    refine ⟨gg, _, Fg, fun o eo => ?_, fun g5 h5 tk5 F5 k5 => ?_⟩
    · exact kp L o (Nat.ne_of_lt (Nat.lt_of_lt_of_le hLlt lt.1)) (hnw L hLs hLi) (k3 _ _ eo)
    · have hDL : D ≠ L := Nat.ne_of_gt (Nat.lt_of_lt_of_le hLlt lt.1)
      have hitC : it ≠ C := fun e => hCf (by rw [← e]; simp)
      refine hQ g5 h5 tk5 D ws F5 (by obtain ⟨m, ho⟩ := hlD; exact ⟨m, k5 _ _ hDL ho⟩) hj.1 (fun j v e => ?_) ?_ ?_ fun b o hb eb => ?_
      · exact ((hj.2 j v e).mono fun b o hb e => k5 b o (Nat.ne_of_gt (Nat.lt_trans (Nat.lt_of_lt_of_le hLlt lt.1) hb)) e).at
      · exact hf.at fun o e => k5 _ _ (Ne.symm hLi) (hid _ _ hitC e)
      · cases e : g.get? D with
        | none => rfl
        | some o => exact absurd (hgs _ _ e) (Nat.not_lt.mpr (Nat.le_trans (by obtain ⟨_, e5, _⟩ := st2.2.2.2.2.1; exact Nat.le_of_lt (Nat.lt_of_le_of_lt hz (Heap.lt_size st2.1))) lt.1))
      · obtain ⟨a1, a2, a3⟩ := hsg3 b o hb eb
        exact k5 b o (F.ne eb) (kp b o a2 a3 a1)
end
end
section
open List
/-- a weak order as a Bool -/
structure WO {α : Type} (lt : α → α → Bool) : Prop where
  tr : ∀ {a b c}, lt a b = true → lt b c = true → lt a c = true
  as : ∀ {a b}, lt a b = true → lt b a = false
  nt : ∀ {a b c}, lt a b = false → lt b c = false → lt a c = false
theorem Tot.wo {α β : Type} {lt : β → β → Bool} (T : Tot lt) (f : α → β) : WO fun a b => lt (f a) (f b) := ⟨fun h1 h2 => T.tr _ _ _ h1 h2, fun h => T.asym h, fun h1 h2 => T.nt h1 h2⟩
theorem Tot.wo' {α β : Type} {lt : β → β → Bool} (T : Tot lt) (f : α → β) : WO fun a b => lt (f b) (f a) := ⟨fun h1 h2 => T.tr _ _ _ h2 h1, fun h => T.asym h, fun h1 h2 => T.nt h2 h1⟩

noncomputable def Ch (i j : Nat) : Prop := j = 2 * i + 1 ∨ j = 2 * i + 2
/-- a heap from the parent s on -/
noncomputable def HF {α : Type} (lt : α → α → Bool) (xs : List α) (s : Nat) : Prop := ∀ i j a b, s ≤ i → Ch i j → xs[i]? = some a → xs[j]? = some b → lt b a = false
/-- the same with a hole at q -/
structure HH {α : Type} (lt : α → α → Bool) (xs : List α) (s q : Nat) : Prop where
  a : ∀ i j a b, s ≤ i → Ch i j → i ≠ q → j ≠ q → xs[i]? = some a → xs[j]? = some b → lt b a = false
  b : ∀ p j a b, s ≤ p → Ch p q → Ch q j → xs[p]? = some a → xs[j]? = some b → lt b a = false
inductive Desc (s : Nat) : Nat → Prop
  | base : Desc s s
  | step {q j : Nat} : Desc s q → Ch q j → Desc s j
theorem Desc.le {s q : Nat} (h : Desc s q) : s ≤ q := by
  induction h with
  | base => exact Nat.le_refl _
  | step _ c ih => rcases c with rfl | rfl <;> omega
theorem Desc.up {s q : Nat} (h : Desc s q) (hq : s < q) : Desc s ((q - 1) / 2) ∧ Ch ((q - 1) / 2) q := by
  cases h with
  | base => omega
  | step d c =>
    rename_i p
    have : (q - 1) / 2 = p := by rcases c with rfl | rfl <;> omega
    rw [this]; exact ⟨d, c⟩

variable {α : Type} {lt : α → α → Bool}
theorem get_set {xs : List α} {i j : Nat} {v a : α} (h : (xs.set i v)[j]? = some a) : (i = j ∧ a = v ∧ j < xs.length) ∨ (i ≠ j ∧ xs[j]? = some a) := by
  by_cases e : i = j
  · subst e
    have hl := lt_of_get h
    simp at hl
    rw [List.getElem?_set_self hl] at h
    exact .inl ⟨rfl, (Option.some.inj h).symm, hl⟩
  · rw [List.getElem?_set_ne e] at h
    exact .inr ⟨e, h⟩

theorem su_hh (W : WO lt) (xs : List α) (s pos : Nat) (H : HH lt xs s pos) (D : Desc s pos) : HH lt (su lt xs pos).1 s (su lt xs pos).2 ∧ Desc s (su lt xs pos).2 ∧ (su lt xs pos).1.length ≤ 2 * (su lt xs pos).2 + 1 := by
  generalize hn : xs.length - pos = n
  induction n using Nat.strongRecOn generalizing xs pos with
  | ind n ih =>
    unfold su
    split
    · rename_i hc
      have h1 := pick_gt lt xs pos
      have h2 := pick_lt lt xs pos hc
      split
      · rename_i c hcc
        have hpos : pos < xs.length := by omega
        have hch : Ch pos (pick lt xs pos) := by
          unfold pick Ch; split
          · split <;> omega
          · omega
        have hmin : ∀ j b, Ch pos j → j ≠ pick lt xs pos → xs[j]? = some b → lt b c = false := by
          intro j b hj hne hb
          unfold pick at hcc hne
          split at hcc
          · rename_i a' b' e1 e2
            split at hcc
            · rename_i hlt
              rw [e1] at hcc; cases hcc
              rw [e1, e2] at hne
              simp only [hlt, if_true] at hne
              rcases hj with rfl | rfl
              · exact absurd rfl hne
              · rw [e2] at hb; cases hb; exact W.as hlt
            · rename_i hlt
              rw [e2] at hcc; cases hcc
              rw [e1, e2] at hne
              simp only [hlt] at hne
              rcases hj with rfl | rfl
              · rw [e1] at hb; cases hb; simpa using hlt
              · exact absurd rfl hne
          · rename_i hno
            rcases hj with rfl | rfl
            · exfalso
              apply hne
              split
              · rename_i x1 x2 e1 e2; exact absurd e2 (hno _ _ e1)
              · rfl
            · exact absurd hb (hno _ _ hcc)
        refine ih _ (by simp only [List.length_set]; omega) (xs.set pos c) (pick lt xs pos) ⟨?_, ?_⟩ (D.step hch) rfl
        · intro i j a b hs hij hi hj ea eb
          rcases get_set ea with ⟨rfl, rfl, _⟩ | ⟨ni, ea'⟩
          · rcases get_set eb with ⟨e, _, _⟩ | ⟨nj, eb'⟩
            · rcases hij with h | h <;> omega
            · exact hmin j b hij hj eb'
          · rcases get_set eb with ⟨rfl, rfl, _⟩ | ⟨nj, eb'⟩
            · exact H.b i (pick lt xs pos) a b hs hij hch ea' hcc
            · exact H.a i j a b hs hij (Ne.symm ni) (Ne.symm nj) ea' eb'
        · intro p j a b hs hp hj ea eb
          have : p = pos := by rcases hp with h | h <;> rcases hch with h' | h' <;> omega
          subst this
          rcases get_set ea with ⟨_, rfl, _⟩ | ⟨ni, _⟩
          · rcases get_set eb with ⟨e, _, _⟩ | ⟨nj, eb'⟩
            · rcases hj with h | h <;> omega
            · exact H.a _ j a b (Nat.le_trans hs (Nat.le_of_lt h1)) hj (Nat.ne_of_gt h1) (by rcases hj with h | h <;> omega) hcc eb'
          · exact absurd rfl ni
      · rename_i hcc
        rw [List.getElem?_eq_getElem h2] at hcc; cases hcc
    · exact ⟨H, D, by show xs.length ≤ 2 * pos + 1; omega⟩

theorem sd_hf (W : WO lt) (xs : List α) (new : α) (s pos : Nat) (H : HH lt xs s pos) (D : Desc s pos) (hc : ∀ j b, Ch pos j → xs[j]? = some b → lt b new = false) : HF lt (sd lt xs new s pos) s := by
  induction pos using Nat.strongRecOn generalizing xs with
  | ind pos ih =>
    have stop : (∀ p a, s ≤ p → Ch p pos → xs[p]? = some a → lt new a = false) → HF lt (xs.set pos new) s := by
      intro hp i j a b hs hij ea eb
      rcases get_set ea with ⟨rfl, rfl, _⟩ | ⟨ni, ea'⟩
      · rcases get_set eb with ⟨e, _, _⟩ | ⟨nj, eb'⟩
        · rcases hij with h | h <;> omega
        · exact hc j b hij eb'
      · rcases get_set eb with ⟨rfl, rfl, _⟩ | ⟨nj, eb'⟩
        · exact hp i a hs hij ea'
        · exact H.a i j a b hs hij (Ne.symm ni) (Ne.symm nj) ea' eb'
    unfold sd
    split
    · rename_i hlt
      obtain ⟨Dp, hpc⟩ := D.up hlt
      have hsp := Dp.le
      have par : ∀ p, Ch p pos → p = (pos - 1) / 2 := fun p h => by rcases h with rfl | rfl <;> omega
      split
      · rename_i p hp
        split
        · rename_i hnp
          refine ih _ (by omega) (xs.set pos p) ⟨?_, ?_⟩ Dp ?_
          · intro i j a b hs hij hi hj ea eb
            rcases get_set ea with ⟨rfl, rfl, _⟩ | ⟨ni, ea'⟩
            · rcases get_set eb with ⟨e, _, _⟩ | ⟨nj, eb'⟩
              · rcases hij with h | h <;> omega
              · exact H.b _ j a b hsp hpc hij hp eb'
            · rcases get_set eb with ⟨rfl, rfl, _⟩ | ⟨nj, eb'⟩
              · exact absurd (par i hij) hi
              · exact H.a i j a b hs hij (Ne.symm ni) (Ne.symm nj) ea' eb'
          · intro pp j a b hs hpp hj ea eb
            have n1 : pp ≠ pos := by rcases hpp with h | h <;> rcases hpc with h' | h' <;> omega
            rcases get_set ea with ⟨e, _, _⟩ | ⟨_, ea'⟩
            · exact absurd e.symm n1
            have h1 : lt p a = false := H.a pp _ a p hs hpp n1 (by rcases hpc with h | h <;> omega) ea' hp
            rcases get_set eb with ⟨rfl, rfl, _⟩ | ⟨nj, eb'⟩
            · exact h1
            · exact W.nt (H.a _ j p b hsp hj (by rcases hpc with h | h <;> omega) (Ne.symm nj) hp eb') h1
          · intro j b hj eb
            rcases get_set eb with ⟨rfl, rfl, _⟩ | ⟨nj, eb'⟩
            · exact W.as hnp
            · exact W.nt (H.a _ j p b hsp hj (by rcases hpc with h | h <;> omega) (Ne.symm nj) hp eb') (W.as hnp)
        · rename_i hnp
          refine stop fun p' a _ hp' ea => ?_
          rw [par p' hp', hp] at ea; cases ea; simpa using hnp
      · rename_i hp
        refine stop fun p' a _ hp' ea => ?_
        rw [par p' hp', hp] at ea; cases ea
    · rename_i hlt
      refine stop fun p' a hs hp' _ => ?_
      have := D.le
      rcases hp' with h | h <;> omega

theorem siftup_hf (W : WO lt) (xs : List α) (pos : Nat) (H : HF lt xs (pos + 1)) : HF lt (siftup lt xs pos) pos := by
  unfold siftup
  split
  · rename_i new hnew
    have hh : HH lt xs pos pos := ⟨fun i j a b hs hij hi hj ea eb => H i j a b (by omega) hij ea eb, fun p j a b hs hp _ _ _ => by rcases hp with h | h <;> omega⟩
    obtain ⟨H2, D2, L2⟩ := su_hh W xs pos pos hh .base
    refine sd_hf W _ new pos _ ⟨?_, ?_⟩ D2 ?_
    · intro i j a b hs hij hi hj ea eb
      rcases get_set ea with ⟨e, _, _⟩ | ⟨_, ea'⟩
      · exact absurd e.symm hi
      rcases get_set eb with ⟨e, _, _⟩ | ⟨_, eb'⟩
      · exact absurd e.symm hj
      exact H2.a i j a b hs hij hi hj ea' eb'
    · intro p j a b hs hp hj ea eb
      have := lt_of_get eb
      simp only [List.length_set] at this
      rcases hj with h | h <;> omega
    · intro j b hj eb
      have := lt_of_get eb
      simp only [List.length_set] at this
      rcases hj with h | h <;> omega
  · rename_i hno
    intro i j a b hs hij ea eb
    by_cases e : i = pos
    · subst e; rw [hno] at ea; cases ea
    · exact H i j a b (by omega) hij ea eb
theorem hfy_hf (W : WO lt) : ∀ (k : Nat) (xs : List α), HF lt xs k → HF lt (hfy lt k xs) 0
  | 0, _, H => H
  | k + 1, xs, H => hfy_hf W k _ (siftup_hf W xs k H)
theorem hf_half (xs : List α) : HF lt xs (xs.length / 2) := fun i j a b hs hij _ eb => by
  have := lt_of_get eb
  rcases hij with h | h <;> omega
theorem hf_set {xs : List α} (H : HF lt xs 0) (v : α) : HF lt (xs.set 0 v) 1 := by
  intro i j a b hs hij ea eb
  rcases get_set ea with ⟨e, _, _⟩ | ⟨_, ea'⟩
  · omega
  rcases get_set eb with ⟨e, _, _⟩ | ⟨_, eb'⟩
  · rcases hij with h | h <;> omega
  exact H i j a b (Nat.zero_le _) hij ea' eb'
theorem hf_init {xs : List α} {last : α} (H : HF lt (xs ++ [last]) 0) : HF lt xs 0 := by
  intro i j a b hs hij ea eb
  have h1 := lt_of_get ea
  have h2 := lt_of_get eb
  exact H i j a b hs hij (by rw [List.getElem?_append_left h1]; exact ea) (by rw [List.getElem?_append_left h2]; exact eb)
theorem hf_min (W : WO lt) {xs : List α} {top : α} (irr : ∀ a, lt a a = false) (H : HF lt xs 0) (ht : xs[0]? = some top) : ∀ (i : Nat) b, xs[i]? = some b → lt b top = false := by
  intro i
  induction i using Nat.strongRecOn with
  | ind i ih =>
    intro b hb
    by_cases e : i = 0
    · subst e; rw [ht] at hb; cases hb; exact irr _
    · have hl := lt_of_get hb
      have hp : (i - 1) / 2 < xs.length := by omega
      have ea := List.getElem?_eq_getElem hp
      exact W.nt (H _ i _ b (Nat.zero_le _) (by unfold Ch; omega) ea hb) (ih _ (by omega) _ ea)
theorem hf_min_mem (W : WO lt) {xs : List α} {top : α} (irr : ∀ a, lt a a = false) (H : HF lt xs 0) (ht : xs[0]? = some top) : ∀ b ∈ xs, lt b top = false := by
  intro b hb
  obtain ⟨i, hi, rfl⟩ := List.getElem_of_mem hb
  exact hf_min W irr H ht i _ (List.getElem?_eq_getElem hi)
end
section
open List
/-- the order of the places: by the key, then by the place -/
noncomputable def LI (sps : List (List Nat)) (i j : Nat) : Bool := if kOf sps i = kOf sps j then decide (i < j) else lt2 (kOf sps i) (kOf sps j)
theorem totLI (sps : List (List Nat)) : Tot (LI sps) := by
  have T := tot_lex tot2 tot_nat
  refine ⟨fun a => T.irr (kOf sps a, a), fun a b c => T.tr (kOf sps a, a) (kOf sps b, b) (kOf sps c, c), fun a b => ?_⟩
  rcases T.tri (kOf sps a, a) (kOf sps b, b) with h | h | h
  · exact .inl h
  · exact .inr (.inl (Prod.ext_iff.mp h).2)
  · exact .inr (.inr h)
theorem LI_of_lt {sps : List (List Nat)} {i j : Nat} (h : lt2 (kOf sps i) (kOf sps j) = true) : LI sps i j = true := by
  unfold LI
  rw [if_neg (by intro e; rw [e, tot2.irr] at h; cases h)]
  exact h
theorem LI_of_le {sps : List (List Nat)} {i j : Nat} (h : lt2 (kOf sps j) (kOf sps i) = false) (hij : i < j) : LI sps i j = true := by
  unfold LI
  split
  · simpa using hij
  · rename_i hne
    rcases tot2.tri (kOf sps i) (kOf sps j) with h' | h' | h'
    · exact h'
    · exact absurd h' hne
    · rw [h'] at h; cases h
theorem LI_le {sps : List (List Nat)} {i j : Nat} (h : LI sps i j = true) : lt2 (kOf sps j) (kOf sps i) = false := by
  unfold LI at h
  split at h
  · rename_i e; rw [e]; exact tot2.irr _
  · exact tot2.asym h

noncomputable def fE (sps : List (List Nat)) (p : Nat × Nat) : TE := (kOf sps p.1, p.2, sps.getD p.1 [])
/-- what the heap holds behind m elements: places and orders -/
structure Kp (sps : List (List Nat)) (n m ord : Nat) (ks : List (Nat × Nat)) (ds : List TE) : Prop where
  perm : ds.Perm (ks.map (fE sps))
  len : ks.length = n
  lt : ∀ p ∈ ks, p.1 < m
  ol : ∀ p ∈ ks, p.2 < ord
  mon : ∀ p ∈ ks, ∀ q ∈ ks, p.1 < q.1 → p.2 < q.2
  nd : (ks.map (·.1)).Nodup
  best : ∀ p ∈ ks, ∀ j, j < m → j ∉ ks.map (·.1) → LI sps p.1 j = true
variable {sps : List (List Nat)} {n m ord : Nat} {ks : List (Nat × Nat)} {ds : List TE}
theorem Kp.init (hds : ds.Perm ((List.range n).map (ent sps))) : Kp sps n n n ((List.range n).map fun i => (i, i)) ds where
  perm := by rw [List.map_map]; exact hds
  len := by simp
  lt := fun p hp => by obtain ⟨i, hi, rfl⟩ := List.mem_map.mp hp; exact List.mem_range.mp hi
  ol := fun p hp => by obtain ⟨i, hi, rfl⟩ := List.mem_map.mp hp; exact List.mem_range.mp hi
  mon := fun p hp q hq h => by obtain ⟨i, hi, rfl⟩ := List.mem_map.mp hp; obtain ⟨j, hj, rfl⟩ := List.mem_map.mp hq; exact h
  nd := by
    have : (((List.range n).map fun i => (i, i)).map (·.1)) = List.range n := by rw [List.map_map]; exact List.map_id _
    rw [this]; exact List.nodup_range
  best := fun p hp j hj hn => by
    exfalso; apply hn
    exact List.mem_map.mpr ⟨(j, j), List.mem_map.mpr ⟨j, List.mem_range.mpr hj, rfl⟩, rfl⟩
theorem Kp.reject {top : TE} (K : Kp sps n m ord ks ds) (hmax : ∀ e ∈ ds, ltE top e = false) (hk : lt2 (kOf sps m) top.1 = false) : Kp sps n (m + 1) ord ks ds where
  perm := K.perm
  len := K.len
  lt := fun p hp => Nat.lt_succ_of_lt (K.lt p hp)
  ol := K.ol
  mon := K.mon
  nd := K.nd
  best := fun p hp j hj hn => by
    rcases Nat.lt_succ_iff_lt_or_eq.mp hj with h | rfl
    · exact K.best p hp j h hn
    · refine LI_of_le ?_ (K.lt p hp)
      have h1 := hmax _ (K.perm.mem_iff.mpr (List.mem_map.mpr ⟨p, hp, rfl⟩))
      have h2 : lt2 top.1 (kOf sps p.1) = false := by
        cases e : lt2 top.1 (kOf sps p.1) with
        | false => rfl
        | true =>
          have : ltE top (fE sps p) = true := by
            unfold ltE
            rw [if_neg (by intro e'; rw [show (fE sps p).1 = kOf sps p.1 from rfl] at e'; rw [e', tot2.irr] at e; cases e)]
            exact e
          rw [h1] at this; cases this
      exact tot2.nt hk h2
theorem Kp.accept {top : TE} {rest ds' : List TE} (K : Kp sps n m ord ks (top :: rest)) (hmax : ∀ e ∈ top :: rest, ltE top e = false) (hk : lt2 (kOf sps m) top.1 = true) (hp' : ds'.Perm ((kOf sps m, ord, sps.getD m []) :: rest)) :
    ∃ ks', Kp sps n (m + 1) (ord + 1) ks' ds' := by
  obtain ⟨p0, hp0, e0⟩ := List.mem_map.mp (K.perm.mem_iff.mp (List.mem_cons_self))
  have hks : ks.Perm (p0 :: ks.erase p0) := List.perm_cons_erase hp0
  have hrest : rest.Perm ((ks.erase p0).map (fE sps)) := by
    have := K.perm.trans (hks.map (fE sps))
    rw [List.map_cons, e0] at this
    exact this.cons_inv
  have hnd : (p0.1 :: (ks.erase p0).map (·.1)).Nodup := by
    have := (hks.map (·.1)).nodup_iff.mp K.nd
    rwa [List.map_cons] at this
  have hmem : ∀ p ∈ ks.erase p0, p ∈ ks := fun p hp => List.mem_of_mem_erase hp
  have hmn : m ∉ (ks.erase p0).map (·.1) := fun h => by
    obtain ⟨p, hp, e⟩ := List.mem_map.mp h
    have := K.lt p (hmem p hp); omega
  have hktop : top.1 = kOf sps p0.1 := by rw [← e0]; rfl
  -- the greatest is above all others
  have habove : ∀ p ∈ ks.erase p0, LI sps p.1 p0.1 = true := fun p hp => by
    have hne : p.1 ≠ p0.1 := fun e => (List.nodup_cons.mp hnd).1 (e ▸ List.mem_map.mpr ⟨p, hp, rfl⟩)
    have h1 := hmax (fE sps p) (List.mem_cons_of_mem _ (hrest.mem_iff.mpr (List.mem_map.mpr ⟨p, hp, rfl⟩)))
    rw [← e0] at h1
    have h2 : lt2 (kOf sps p0.1) (kOf sps p.1) = false := by
      cases e : lt2 (kOf sps p0.1) (kOf sps p.1) with
      | false => rfl
      | true =>
        have : ltE (fE sps p0) (fE sps p) = true := by
          unfold ltE
          rw [if_neg (by intro e'; rw [show (fE sps p0).1 = kOf sps p0.1 from rfl, show (fE sps p).1 = kOf sps p.1 from rfl] at e'; rw [e', tot2.irr] at e; cases e)]
          exact e
        rw [h1] at this; cases this
    rcases Nat.lt_or_ge p.1 p0.1 with hlt | hge
    · exact LI_of_le h2 hlt
    · have hlt : p0.1 < p.1 := by omega
      rcases tot2.tri (kOf sps p.1) (kOf sps p0.1) with h' | h' | h'
      · exact LI_of_lt h'
      · exfalso
        have hm := K.mon p0 hp0 p (hmem p hp) hlt
        have : ltE (fE sps p0) (fE sps p) = true := by
          unfold ltE
          rw [if_pos (show (fE sps p0).1 = (fE sps p).1 from h'.symm), if_neg (show ¬ (fE sps p0).2.1 = (fE sps p).2.1 from fun e => by have : p0.2 = p.2 := e; omega)]
          simpa [fE] using hm
        rw [h1] at this; cases this
      · rw [h2] at h'; cases h'
  have hmk : lt2 (kOf sps m) (kOf sps p0.1) = true := hktop ▸ hk
  refine ⟨(m, ord) :: ks.erase p0, ?_, ?_, ?_, ?_, ?_, ?_, ?_⟩
  · refine hp'.trans ?_
    rw [List.map_cons]
    exact .cons _ hrest
  · have := hks.length_eq
    rw [List.length_cons] at this ⊢
    rw [← this]; exact K.len
  · intro p hp
    rcases List.mem_cons.mp hp with rfl | hp
    · exact Nat.lt_succ_self _
    · exact Nat.lt_succ_of_lt (K.lt p (hmem p hp))
  · intro p hp
    rcases List.mem_cons.mp hp with rfl | hp
    · exact Nat.lt_succ_self _
    · exact Nat.lt_succ_of_lt (K.ol p (hmem p hp))
  · intro p hp q hq h
    rcases List.mem_cons.mp hp with rfl | hp
    · rcases List.mem_cons.mp hq with rfl | hq
      · exact absurd h (Nat.lt_irrefl _)
      · exact absurd (K.lt q (hmem q hq)) (Nat.not_lt.mpr (Nat.le_of_lt h))
    · rcases List.mem_cons.mp hq with rfl | hq
      · exact K.ol p (hmem p hp)
      · exact K.mon p (hmem p hp) q (hmem q hq) h
  · rw [List.map_cons]
    exact List.nodup_cons.mpr ⟨hmn, (List.nodup_cons.mp hnd).2⟩
  · intro p hp j hj hn
    rw [List.map_cons] at hn
    have hn1 : j ≠ m := fun e => hn (e ▸ List.mem_cons_self)
    have hn2 : j ∉ (ks.erase p0).map (·.1) := fun h => hn (List.mem_cons_of_mem _ h)
    have hjm : j < m := by omega
    have hp0j : j = p0.1 ∨ LI sps p0.1 j = true := by
      by_cases e : j = p0.1
      · exact .inl e
      · refine .inr (K.best p0 hp0 j hjm fun h => ?_)
        have := (hks.map (·.1)).mem_iff.mp h
        rw [List.map_cons] at this
        rcases List.mem_cons.mp this with h | h
        · exact e h
        · exact hn2 h
    rcases List.mem_cons.mp hp with rfl | hp
    · have h1 : LI sps m p0.1 = true := LI_of_lt hmk
      rcases hp0j with rfl | h
      · exact h1
      · exact (totLI sps).tr _ _ _ h1 h
    · have h1 := habove p hp
      rcases hp0j with rfl | h
      · exact h1
      · exact (totLI sps).tr _ _ _ h1 h

/-- the places of the n least, in order -/
structure Small (sps : List (List Nat)) (n : Nat) (q : List Nat) : Prop where
  len : q.length = n
  lt : ∀ i ∈ q, i < sps.length
  pw : q.Pairwise fun a b => LI sps a b = true
  best : ∀ i ∈ q, ∀ j, j < sps.length → j ∉ q → LI sps i j = true
/-- sorted by key, order: the places in order -/
theorem Kp.small {ys : List TE} (K : Kp sps n sps.length ord ks ds) (hp : ys.Perm ds) (hs : ys.Pairwise fun a b => ltE b a = false) : ∃ q, Small sps n q ∧ ys.map (·.2.2) = q.map fun i => sps.getD i [] := by
  obtain ⟨ks', hperm, hmap⟩ : ∃ ks' : List (Nat × Nat), ks'.Perm ks ∧ ks'.map (fE sps) = ys := by
    have h1 : ys.Perm (ks.map (fE sps)) := hp.trans K.perm
    clear hs hp K
    generalize hz : ks.map (fE sps) = zs at h1
    induction h1 generalizing ks with
    | nil => rw [List.map_eq_nil_iff] at hz; exact ⟨[], by rw [hz], rfl⟩
    | cons x _ ih =>
      obtain ⟨p, ks0, rfl, rfl, e⟩ := List.map_eq_cons_iff.mp hz
      obtain ⟨ks1, a, b⟩ := ih e
      exact ⟨p :: ks1, .cons _ a, by rw [List.map_cons, b]⟩
    | swap x y l =>
      obtain ⟨p, ks0, rfl, rfl, e⟩ := List.map_eq_cons_iff.mp hz
      obtain ⟨q, ks1, rfl, rfl, rfl⟩ := List.map_eq_cons_iff.mp e
      exact ⟨q :: p :: ks1, .swap _ _ _, rfl⟩
    | trans _ _ ih1 ih2 =>
      obtain ⟨k2, a2, b2⟩ := ih2 hz
      obtain ⟨k1, a1, b1⟩ := ih1 b2
      exact ⟨k1, a1.trans a2, b1⟩
  refine ⟨ks'.map (·.1), ⟨?_, ?_, ?_, ?_⟩, ?_⟩
  · rw [List.length_map, hperm.length_eq]; exact K.len
  · intro i hi
    obtain ⟨p, hp', rfl⟩ := List.mem_map.mp hi
    exact K.lt p (hperm.mem_iff.mp hp')
  · rw [List.pairwise_map]
    have hnd : ks'.Pairwise fun a b => a.1 ≠ b.1 := by
      have := (hperm.map (·.1)).nodup_iff.mpr K.nd
      exact List.pairwise_map.mp this
    rw [← hmap, List.pairwise_map] at hs
    refine (hs.and hnd).imp_of_mem ?_
    intro a b ha hb ⟨h1, h2⟩
    have ha' := hperm.mem_iff.mp ha
    have hb' := hperm.mem_iff.mp hb
    have h3 : lt2 (kOf sps b.1) (kOf sps a.1) = false := by
      cases e : lt2 (kOf sps b.1) (kOf sps a.1) with
      | false => rfl
      | true =>
        have : ltE (fE sps b) (fE sps a) = true := by
          unfold ltE
          rw [if_neg (by intro e'; rw [show (fE sps b).1 = kOf sps b.1 from rfl, show (fE sps a).1 = kOf sps a.1 from rfl] at e'; rw [e', tot2.irr] at e; cases e)]
          exact e
        rw [h1] at this; cases this
    rcases Nat.lt_or_ge a.1 b.1 with h | h
    · exact LI_of_le h3 h
    · have hlt : b.1 < a.1 := by omega
      rcases tot2.tri (kOf sps a.1) (kOf sps b.1) with h' | h' | h'
      · exact LI_of_lt h'
      · exfalso
        have hm := K.mon b hb' a ha' hlt
        have : ltE (fE sps b) (fE sps a) = true := by
          unfold ltE
          rw [if_pos (show (fE sps b).1 = (fE sps a).1 from h'.symm), if_neg (show ¬ (fE sps b).2.1 = (fE sps a).2.1 from fun e => by have : b.2 = a.2 := e; omega)]
          simpa [fE] using hm
        rw [h1] at this; cases this
      · rw [h3] at h'; cases h'
  · intro i hi j hj hn
    obtain ⟨p, hp', rfl⟩ := List.mem_map.mp hi
    exact K.best p (hperm.mem_iff.mp hp') j hj fun h => hn ((hperm.map (·.1)).mem_iff.mpr h)
  · rw [← hmap, List.map_map, List.map_map]; rfl

/-- of the stable sort -/
theorem small_sort {p : Array Nat} (hp : p.toList.Perm (List.range sps.length)) (hs : p.size = sps.length) (hb : SB (fun i j => lt2 (kOf sps i) (kOf sps j)) p sps.length) (hn : sps.length ≤ n) : Small sps sps.length (p.toList.take n) := by
  have ht : p.toList.take n = p.toList := List.take_of_length_le (by simp; omega)
  rw [ht]
  refine ⟨by simpa using hs, fun i hi => List.mem_range.mp (hp.mem_iff.mp hi), ?_, fun i hi j hj hn => absurd (hp.mem_iff.mpr (List.mem_range.mpr hj)) hn⟩
  rw [List.pairwise_iff_getElem]
  intro i j hi hj hij
  have e : ∀ k (h : k < p.toList.length), gt p k = p.toList[k] := fun k h => by
    have : k < p.size := by simpa using h
    simp [gt, Array.getD, this]
  have := hb i j hij (by simpa [hs] using hj)
  rw [e i hi, e j hj] at this
  rcases this with h | ⟨h, hl⟩
  · exact LI_of_lt h
  · exact LI_of_le h hl
theorem small_one {i : Nat} (h : FirstMin (kOf sps) sps.length i) (hi : i < sps.length) : Small sps 1 [i] where
  len := rfl
  lt := fun j hj => by rw [List.mem_singleton.mp hj]; exact hi
  pw := by simp
  best := fun a ha j hj hn => by
    rw [List.mem_singleton.mp ha]
    have hne : j ≠ i := fun e => hn (by simp [e])
    obtain ⟨h1, h2⟩ := h j hj
    rcases Nat.lt_or_ge j i with hlt | hge
    · exact LI_of_lt (h2 hlt)
    · exact LI_of_le h1 (by omega)
end
section
open PySem.W PySem.SeqAt
section
variable {w : World} {A : Around} {E : Value → Shared → Prop} {s : Shared} {mg mb : Str → Option Value} {g : Heap} {L fa : Addr} {l : List (String × Value)} {env : Env}

theorem ns_s2 {q T c : Addr} {pm doc : Value} {Q : Flow → Shared → Prop} (F : Fx g L s.heap l) (hcell : g.IsCell (L + 1) (some (.ref q))) (hQ : ∀ tk, Q .next { s with toks := tk }) :
    wpAny (MM w) A (exec (stN 10 2) (callEnvC (fdOf 10 (.ref T) pm (.ref c) doc) L fa)) Q E s := by
  refine wpAny_If ?_
  refine wpAny_isTrue_Compare1 ?_
  refine ldC (F.cell hcell) ?_
  walk_at "S"
  refine wpAny_is_other (by rfl) (by intro e; cases e) ?_
  walk_at "S"
  rw [if_neg Bool.false_ne_true]
  walk_at "S"
  exact hQ _

theorem ns_s3 {lp T c : Addr} {pm doc : Value} {items : Array Value} {Q : Flow → Shared → Prop} (F : Fx g L s.heap l) (G : Gd w mg mb g) (hl : g.PlainList lp items) (hlk : l.lookup "iterable" = some (.ref lp))
    (hQ : ∀ g' h' tk I, Fx g' L h' (put l "it" (.ref I)) → g'.IsListIter I lp 0 → (∀ b o, g.get? b = some o → g'.get? b = some o) → g.get? I = none → Q .next { s with heap := h', toks := tk }) :
    wpAny (MM w) A (exec (stN 10 3) (callEnvC (fdOf 10 (.ref T) pm (.ref c) doc) L fa)) Q E s := by
  refine wpAny_Assign_Name ?_
  walk_at "bl"
  refine evs_cons (ldL F hlk ?_)
  refine evs_nil ?_
  refine iterX F hl fun g1 h1 I F1 it1 k1 n1 hIL hlI => ?_
  refine stL F1 fun h2 F2 => ?_
  exact hQ g1 h2 _ I F2 it1 k1 n1

theorem ns_s5 {rp T c : Addr} {pm doc : Value} {ws : List Value} {Q : Flow → Shared → Prop} (F : Fx g L s.heap l) (hl : g.PlainList rp ws.toArray) (hlk : l.lookup "result" = some (.ref rp)) (hne : 0 < ws.length) (hsz : ws.length < 1000)
    (hQ : ∀ tk, Q .next { s with toks := tk }) :
    wpAny (MM w) A (exec (stN 10 5) (callEnvC (fdOf 10 (.ref T) pm (.ref c) doc) L fa)) Q E s := by
  refine wpAny_If ?_
  refine wpAny_isTrue_Not ?_
  refine wpAny_isTrue_value ?_
  refine ldL F hlk ?_
  refine wpAny_truthy_list (Heap.PlainList.isList (F.list hl)) (by simp; omega) ?_
  have : ws.toArray.isEmpty = false := by
    cases ws with
    | nil => simp at hne
    | cons _ _ => simp
  rw [this]
  simp only [Bool.not_false, Bool.not_true, Bool.false_eq_true, if_false]
  walk_at "S"
  exact hQ _

theorem ns_s6 {rp T c : Addr} {pm doc : Value} {ys : List (KE' w).I} {Q : Flow → Shared → Prop} (R : Rm A 5) (F : Fx g L s.heap l) (G : Gd w mg mb g) (hl : (KE' w).Is g rp ys) (hlk : l.lookup "result" = some (.ref rp)) (hsz : ys.length < 1000)
    (hQ : ∀ g' h' tk, Fx g' L h' l → (KE' w).Is g' rp (hfy (fun a b => (KE' w).lt b.2 a.2) (ys.length / 2) ys) → (∀ b o, b ≠ rp → g.get? b = some o → g'.get? b = some o) → Q .next { s with heap := h', toks := tk }) :
    wpAny (MM w) A (exec (stN 10 6) (callEnvC (fdOf 10 (.ref T) pm (.ref c) doc) L fa)) Q E s := by
  refine wpAny_Expr_any ?_
  refine callFn 5 F G fun b fb => ?_
  refine evs_cons (ldL F hlk ?_)
  refine evs_nil ⟨fun c o e _ => F.keep c o e, ?_⟩
  refine spec_heapify_max (R.le (by omega)) (fb.keeps F.keep) (G.keeps F.keep) (hl.keeps F.keep) (by omega) fun h' tk' k' i' => ?_
  obtain ⟨F2, k2, k3⟩ := F.change (h' := h') (list_ne hl.1 F.noL) k'
  refine hQ _ h' tk' F2 ⟨i'.1.at fun o e => k3 _ o (list_ne hl.1 F.noL) e, fun x hx => ?_⟩ k2
  have hx' : x ∈ ys := (hfy_perm _ _ _).mem_iff.mp hx
  exact (KE' w).ext (hl.2 x hx') (plain_nt hl.1) k2

theorem ns_s7 {rp T c : Addr} {pm doc : Value} {ys : List (KE' w).I} {y : (KE' w).I} {Q : Flow → Shared → Prop} (F : Fx g L s.heap l) (hl : (KE' w).Is g rp ys) (hlk : l.lookup "result" = some (.ref rp)) (h0 : ys[0]? = some y) (hsz : ys.length < 1000)
    (hQ : ∀ h' tk tv, Fx g L h' (put l "top" tv) → At2 g tv y.2.1 → Q .next { s with heap := h', toks := tk }) :
    wpAny (MM w) A (exec (stN 10 7) (callEnvC (fdOf 10 (.ref T) pm (.ref c) doc) L fa)) Q E s := by
  refine wpAny_Assign_Name ?_
  refine Subscript_ ?_
  refine Subscript_ ?_
  refine ldL F hlk ?_
  walk_at "S"
  refine getK 0 (by assumption) hl h0 rfl (by omega) ?_
  obtain ⟨p, kv, t2, t3, e, ho, hk⟩ := hl.2 y (List.mem_of_getElem? h0)
  rw [e]
  walk_at "S"
  refine tupItem (i := 0) (isTup_obj (F.keep _ _ ho)) rfl rfl (by show 3 < _; decide) ?_
  exact stL (s := { s with toks := _ }) F fun h' F' => hQ h' _ kv F' hk

theorem ns_s8 {T c : Addr} {pm doc : Value} {n : Nat} {t : Tok} {Q : Flow → Shared → Prop} (F : Fx g L s.heap l) (hlk : l.lookup "n" = some (.int n t))
    (hQ : ∀ h' tk, Fx g L h' (put l "order" (.int n t)) → Q .next { s with heap := h', toks := tk }) :
    wpAny (MM w) A (exec (stN 10 8) (callEnvC (fdOf 10 (.ref T) pm (.ref c) doc) L fa)) Q E s := by
  refine wpAny_Assign_Name ?_
  refine ldL F hlk ?_
  exact stL F fun h' F' => hQ h' _ F'

theorem ns_s9 {T c : Addr} {pm doc : Value} {gb : Heap} {Q : Flow → Shared → Prop} (F : Fx g L s.heap l) (G : Gd w mg mb gb) (hgb : ∀ b o, gb.get? b = some o → g.get? b = some o)
    (hQ : ∀ h' tk b, Fx g L h' (put l "_heapreplace" (.ref b)) → FnAt gb 4 b → Q .next { s with heap := h', toks := tk }) :
    wpAny (MM w) A (exec (stN 10 9) (callEnvC (fdOf 10 (.ref T) pm (.ref c) doc) L fa)) Q E s := by
  have Fb : Fx gb L s.heap l := F.ghost (fun b o e => F.keep _ _ (hgb _ _ e)) (by
    cases e : gb.get? L with
    | none => rfl
    | some o => have := hgb _ _ e; rw [F.noL] at this; cases this)
  refine wpAny_Assign_Name ?_
  refine ldFn 4 Fb G fun b fb => ?_
  exact stL F fun h' F' => hQ h' _ b F' fb
end
end
section
open PySem.W PySem.SeqAt
section
variable {w : World} {A : Around} {E : Value → Shared → Prop} {s : Shared} {mg mb : Str → Option Value} {g : Heap} {L fa : Addr} {l : List (String × Value)} {env : Env}

noncomputable abbrev ltX (w : World) : (KE' w).I → (KE' w).I → Bool := fun a b => (KE' w).lt b.2 a.2
theorem woX (w : World) : WO (ltX w) := totE.wo' fun a : (KE' w).I => (a.2 : TE)
theorem irrX (w : World) : ∀ a, ltX w a a = false := fun a => totE.irr a.2

set_option maxHeartbeats 4000000 in
theorem ns_s10 {lp q rp I bR T c : Addr} {n : Nat} {t0 : Tok} {tv0 : Value} {pm doc : Value} {vs : List Value} {sps : List (List Nat)} {gb : Heap} {ys0 : List (KE' w).I} {y0 : (KE' w).I} {ks0 : List (Nat × Nat)} {Q : Flow → Shared → Prop} (R : Rm A 7) (G : Gd w mg mb gb)
    (F : Fx g L s.heap [("result", .ref rp), ("order", .int n t0), ("_heapreplace", .ref bR), ("top", tv0), ("it", .ref I)])
    (hgb : ∀ b o, gb.get? b = some o → g.get? b = some o) (hgi : gb.get? I = none) (hgr : gb.get? rp = none) (hIr : I ≠ rp)
    (hcell : gb.IsCell (L + 1) (some (.ref q))) (hl : gb.PlainList lp vs.toArray) (hit : g.IsListIter I lp n) (hSL : SL vs sps) (hnl : n ≤ vs.length) (h64 : vs.length < 64) (fq : FnAt gb 20 q) (fR : FnAt gb 4 bR)
    (key : ∀ s', KeyOk w A q gb vs (kOf sps) s') (hys : (KE' w).Is g rp ys0) (hKp : Kp sps n n n ks0 (ys0.map (·.2))) (hHF : HF (ltX w) ys0 0) (hy0 : ys0[0]? = some y0) (htv : At2 g tv0 y0.2.1)
    (hQ : ∀ g' h' tk ys ks ord, Fx g' L h' [("result", .ref rp)] → (KE' w).Is g' rp ys → Kp sps n vs.length ord ks (ys.map (·.2)) → (∀ b o, gb.get? b = some o → g'.get? b = some o) → Q .next { s with heap := h', toks := tk }) :
    wpAny (MM w) A (exec (stN 10 10) (callEnvC (fdOf 10 (.ref T) pm (.ref c) doc) L fa)) Q E s := by
  have hne : lp ≠ I := by rintro rfl; obtain ⟨m, ho⟩ := hl; rw [hgi] at ho; cases ho
  have hnr : lp ≠ rp := by rintro rfl; obtain ⟨m, ho⟩ := hl; rw [hgr] at ho; cases ho
  refine wpAny_For ?_
  refine ldL F (by walk_at "lk") ?_
  refine wpAny_pyIter_listiter (hit.at fun o e => F.keep _ _ e) ?_
  refine forLoopK (fun r s' => ∃ m g' h' tk' ys ks ord t tv y, r = vs.length - m ∧ m ≤ vs.length ∧ s' = { s with heap := h', toks := tk' } ∧ Fx g' L h' [("result", .ref rp), ("order", .int (ord : Nat) t), ("_heapreplace", .ref bR), ("top", tv)] ∧
      g'.IsListIter I lp m ∧ (KE' w).Is g' rp ys ∧ (∀ b o, gb.get? b = some o → g'.get? b = some o) ∧ Kp sps n m ord ks (ys.map (·.2)) ∧ HF (ltX w) ys 0 ∧ ys[0]? = some y ∧ At2 g' tv y.2.1) (vs.length - n) ?_ (fun E₁ r s' Kn kn hI => ?_)
  · exact in10 n g _ _ ys0 ks0 n t0 tv0 y0 ⟨rfl, hnl, rfl, by walk_at "sub", hit, hys, hgb, hKp, hHF, hy0, htv⟩
  · refine ex10 hI fun m g' h' tk' ys ks ord t tv y hJ => ?_
    clear hI
    obtain ⟨rfl, hm, rfl, F', it', hys', kb, hK, hH, hy, htv'⟩ := hJ
    have hsz : vs.toArray.size = vs.length := List.size_toArray ..
    have W := Walks.list (prog := P0) (w := w) (A := A) R.h I lp hne vs.toArray
    have hl' : g'.PlainList lp vs.toArray := hl.at fun o e => kb _ o e
    have hyl : ys.length < 1000 := by
      have h1 : ys.length = ks.length := by
        have := hK.perm.length_eq
        rw [List.length_map (as := ks)] at this
        exact (List.length_map (as := ys) _).symm.trans this
      have h2 := hK.len
      omega
    have hst : h'.IsListIter I lp m ∧ h'.IsList lp vs.toArray := ⟨it'.at fun o e => F'.keep _ _ e, (F'.list hl').isList⟩
    rcases Nat.lt_or_ge m vs.length with hlt | hge
    · refine W.item m _ _ _ (by rw [hsz]; exact hlt) hst fun v h1 tk1 hP hst1 k1 => ?_
      have hv : vs[m]? = some v := by simpa using hP
      have hms : m < sps.length := by have := hSL.1; omega
      obtain ⟨tx, hvx⟩ := hSL.2 m _ (List.getElem?_eq_getElem hms)
      obtain rfl : v = sv sps[m] tx := by rw [hvx] at hv; exact (Option.some.inj hv).symm
      have e6 : sps.getD m [] = sps[m] := by simp [List.getD, hms]
      obtain ⟨oI, hoI, rI⟩ := id it'
      obtain ⟨oI1, hoI1, rI1⟩ := hst1.1
      obtain ⟨g1, F1, hI1, kk1⟩ := F'.turn (h' := h1) hoI hoI1 fun b x hb e => k1 b x (by simpa using hb) e
      have kb1 : ∀ b o, gb.get? b = some o → g1.get? b = some o := fun b o e => kk1 b o (by rintro rfl; rw [hgi] at e; cases e) (kb b o e)
      have it1 : g1.IsListIter I lp (m + 1) := ⟨oI1, hI1, rI1⟩
      have nt : ∀ o, g'.get? I = some o → o.cls ≠ .type "tuple" := iter_nt it'
      have hys1 : (KE' w).Is g1 rp ys := ⟨hys'.1.at fun o e => kk1 _ o (Ne.symm hIr) e, fun x hx => (KE' w).ext (hys'.2 x hx) nt kk1⟩
      have htv1 : At2 g1 tv y.2.1 := htv'.ext nt kk1
      refine owned_name (wpAny_assign_Name ?_)
      walk_at "S"
      rename_i h2 F2
      refine callN (ldC (F2.cell (hcell.keeps kb1)) ?_)
      obtain ⟨pm', c', doc', hoq, _⟩ := id fq
      refine callW_def (o := { cls := .type "function", data := .func (fdOf 20 .none pm' (.ref c') doc') }) (fd := fdOf 20 .none pm' (.ref c') doc') rfl ?_
      walk_at "ev"
      refine evs_nil ⟨F2.keep _ _ (kb1 _ _ hoq), ?_⟩
      refine key _ h2 _ m _ _ _ (fun b o e => F2.keep _ _ (kb1 b o e)) hvx fun h6 tk6 kv k6 at6 fr6 => ?_
      have F6 := F2.re (h' := h6) fun o e => k6 _ _ e
      have kg6 : ∀ b o, g1.get? b = some o → (h6.hide L).get? b = some o := fun b o e => (Heap.hide_ne _ (F1.ne e)).trans (k6 _ _ (F2.keep _ _ e))
      have at6g : At2 (h6.hide L) kv (kOf sps m) := by
        obtain ⟨kp, rfl, fr⟩ := fr6
        obtain ⟨p, t1, t2, e, ho⟩ := at6
        cases e
        refine ⟨kp, t1, t2, rfl, (Heap.hide_ne _ ?_).trans ho⟩
        obtain ⟨mm, ⟨oL, _, _, hoL, _⟩, _⟩ := F2.ns
        exact Nat.ne_of_gt (fr _ _ hoL)
      have kb6 : ∀ b o, gb.get? b = some o → (h6.hide L).get? b = some o := fun b o e => kg6 b o (kb1 b o e)
      have it6 : (h6.hide L).IsListIter I lp (m + 1) := it1.at fun o e => kg6 _ o e
      have hys6 := hys1.keeps kg6
      have htv6 : At2 (h6.hide L) tv y.2.1 := htv1.keeps kg6
      generalize h6.hide L = g6 at F6 at6g kb6 it6 hys6 htv6
      clear kg6 F1 F2 hys1 htv1 it1 kb1 kk1 hI1 hst1 hst hys' htv' it' F' kb hl' fr6 at6 k6 k1
      walk_at "S"
      refine At2.ltAt (A := A) (by have := R.u; show A.units < 9900; omega) (At2.keeps at6g (Fx.keep (by assumption))) (At2.keeps htv6 (Fx.keep (by assumption))) P0 w _ _ ?_
      have hmax : ∀ e ∈ ys.map (·.2), ltE y.2 e = false := fun e he => by
        obtain ⟨x, hx, rfl⟩ := List.mem_map.mp he
        exact hf_min_mem (woX w) (irrX w) hH hy x hx
      walk_at "S"
      cases hlt' : lt2 (kOf sps m) y.2.1 with
      | false =>
        simp only [Bool.false_eq_true, if_false]
        walk_at "S"
        exact kn (vs.length - (m + 1)) _ (subLt hlt) (in10 (m + 1) g6 _ _ ys ks ord _ tv y ⟨rfl, hlt, rfl, by walk_at "sub", it6, hys6, kb6, hK.reject hmax hlt', hH, hy, htv6⟩)
      | true =>
        simp only [if_true]
        walk_at "S"
        refine callN (ldL (by assumption) (by walk_at "lk") ?_)
        obtain ⟨pm2, c2, doc2, hoR, _⟩ := id fR
        refine callW_def (o := { cls := .type "function", data := .func (fdOf 4 .none pm2 (.ref c2) doc2) }) (fd := fdOf 4 .none pm2 (.ref c2) doc2) rfl ?_
        walk_at "ev"
        refine evs_cons ?_
        refine tupF (L := L) ?_
        walk_at "ev"; walk_at "ev"; walk_at "ev"
        have F7 := (by assumption : Fx g6 L _ _)
        refine evs_nil ⟨Nat.le_of_ble_eq_true rfl, _, _, F7, fun ga ha p Fa ea ka na la => ?_⟩
        clear la
        refine evs_nil ⟨Fa.keep _ _ (ka _ _ (kb6 _ _ hoR)), ?_⟩
        have Ga := G.keeps fun b o e => ka b o (kb6 b o e)
        have hysa := hys6.keeps ka
        have hpa : (KE' w).At ga (.ref p) (kOf sps m, ord, sps.getD m []) := ⟨p, kv, _, _, rfl, by rw [e6]; exact ea, at6g.keeps ka⟩
        refine spec_heapreplace_max (K := KE' w) (it := (Value.ref p, ((kOf sps m, ord, sps.getD m []) : TE))) (R.le (by omega)) ((fR.keeps fun b o e => ka b o (kb6 b o e)).keeps Fa.keep) (Ga.keeps Fa.keep) (hysa.keeps Fa.keep) hy ((KE' w).keeps hpa Fa.keep) (by omega) fun h8 tk8 k8 i8 => ?_
        obtain ⟨F8, kk8, kl8⟩ := Fa.change (h' := h8) (list_ne hysa.1 Fa.noL) k8
        have hmem8 : ∀ x, x ∈ siftup (fun a b : (KE' w).I => (KE' w).lt b.2 a.2) (ys.set 0 (Value.ref p, ((kOf sps m, ord, sps.getD m []) : TE))) 0 → (KE' w).At (h8.hide L) x.1 x.2 := fun x hx => by
          have hx' := (siftup_perm _ _ _).mem_iff.mp hx
          rcases List.mem_or_eq_of_mem_set hx' with hq | hq
          · exact (KE' w).ext (hysa.2 x hq) (plain_nt hysa.1) kk8
          · subst hq; exact (KE' w).ext hpa (plain_nt hysa.1) kk8
        have i8g : (KE' w).Is (h8.hide L) rp (siftup (fun a b : (KE' w).I => (KE' w).lt b.2 a.2) (ys.set 0 (Value.ref p, ((kOf sps m, ord, sps.getD m []) : TE))) 0) := ⟨i8.1.at fun o e => kl8 _ o (list_ne hysa.1 Fa.noL) e, hmem8⟩
        have kb8 : ∀ b o, gb.get? b = some o → (h8.hide L).get? b = some o := fun b o e => kk8 b o (by rintro rfl; rw [hgr] at e; cases e) (ka _ _ (kb6 b o e))
        have it8 : (h8.hide L).IsListIter I lp (m + 1) := it6.at fun o e => kk8 _ o hIr (ka _ _ e)
        -- the heap
        obtain ⟨rest, hrest⟩ : ∃ rest, ys = y :: rest := by
          cases ys with
          | nil => simp at hy
          | cons a r => simp at hy; subst hy; exact ⟨r, rfl⟩
        have hH8 : HF (ltX w) (siftup (ltX w) (ys.set 0 (Value.ref p, ((kOf sps m, ord, sps.getD m []) : TE))) 0) 0 := siftup_hf (woX w) _ 0 (hf_set hH _)
        have hp8 : (siftup (ltX w) (ys.set 0 (Value.ref p, ((kOf sps m, ord, sps.getD m []) : TE))) 0).Perm ((Value.ref p, ((kOf sps m, ord, sps.getD m []) : TE)) :: rest) := by
          have := siftup_perm (ltX w) (ys.set 0 (Value.ref p, ((kOf sps m, ord, sps.getD m []) : TE))) 0
          rw [hrest] at this ⊢
          exact this
        obtain ⟨ks', hK8⟩ := Kp.accept (top := y.2) (rest := rest.map (·.2)) (by rw [hrest] at hK; exact hK) (by rw [hrest] at hmax; exact hmax) hlt' (hp8.map (·.2))
        have hlen8 : (siftup (ltX w) (ys.set 0 (Value.ref p, ((kOf sps m, ord, sps.getD m []) : TE))) 0).length = ys.length := by rw [siftup_length]; simp
        change (KE' w).Is (h8.hide L) rp (siftup (ltX w) (ys.set 0 (Value.ref p, ((kOf sps m, ord, sps.getD m []) : TE))) 0) at i8g
        clear hmem8 hp8 kl8 kk8 i8 k8
        generalize siftup (ltX w) (ys.set 0 (Value.ref p, ((kOf sps m, ord, sps.getD m []) : TE))) 0 = zs at i8g hH8 hK8 hlen8
        obtain ⟨z, hz⟩ : ∃ z, zs[0]? = some z := ⟨zs[0]'(by rw [hlen8, hrest]; simp), List.getElem?_eq_getElem _⟩
        generalize h8.hide L = g8 at F8 i8g kb8 it8
        obtain ⟨pz, kz, t2z, t3z, ez, hoz, hkz⟩ := i8g.2 z (List.mem_of_getElem? hz)
        walk_at "S"
        refine Assign_Tuple ?_
        walk_at "S"
        refine getK 0 (by assumption) i8g hz rfl (by omega) ?_
        rw [ez]
        refine unpackX (vs := [_, _, _]) (by assumption) R.h (isTup_obj hoz) fun h9 F9 => ?_
        show wpAny _ _ (assignInOrder [assign _ _, assign _ _, assign _ _] [_, _, _]) _ _ _
        walk_at "S"
        rw [show (ord : Int) + 1 = ((ord + 1 : Nat) : Int) by omega] at *
        exact kn (vs.length - (m + 1)) _ (subLt hlt) (in10 (m + 1) g8 _ _ zs ks' (ord + 1) _ kz z ⟨rfl, hlt, rfl, by walk_at "sub", it8, i8g, kb8, hK8, hH8, hz, hkz⟩)
    · have : m = vs.length := Nat.le_antisymm hm hge
      subst this
      refine W.done _ _ _ (by rw [hsz]; exact hst) fun h1 tk1 k1 => ?_
      obtain ⟨oI, hoI, rI⟩ := id it'
      obtain ⟨F2, k2, k3⟩ := F'.change (h' := h1) (F'.ne hoI) fun b o hb e => k1 b o (by simpa using hb) e
      walk_at "S"
      refine hQ _ h1 tk1 ys ks ord (by walk_at "sub") ⟨hys'.1.at fun o e => k2 _ o (Ne.symm hIr) e, fun x hx => (KE' w).ext (hys'.2 x hx) (iter_nt it') k2⟩ hK fun b o e => k2 b o (by rintro rfl; rw [hgi] at e; cases e) (kb b o e)
end
end
section
open PySem.W
section
variable {w : World} {A : Around} {E : Value → Shared → Prop} {s s₂ : Shared} {elt target iter : Expr} {scope : Scope} {pos : Pos} {env : Env} {cl : List (Str × Addr)} {g : Heap} {L I : Addr} {l : List (String × Value)}
  {fp wr : List Addr} {n : Nat} {P Md : Nat → Value → Heap → Prop} {St : Nat → Heap → Prop}

/-- a comprehension of one clause over any turns -/
theorem iterCore {K : Addr → Heap → Shared → Prop} (W : KTurns P0 w A target I fp wr n P Md St) (F₂ : Fx g L s₂.heap l) (st : St 0 s₂.heap) (hfp : ∀ b ∈ fp, b < s₂.heap.objs.size) (hwr : ∀ b ∈ wr, g.get? b = none ∧ b ≠ L) (hn : n < 2 ^ 19)
    (J : Addr → Nat → List Value → Heap → Prop) (j0 : ∀ D g, J D 0 [] g) (jlen : ∀ D i vs g, J D i vs g → vs.length ≤ i)
    (mono : ∀ D i vs (g g' : Heap), J D i vs g → (∀ b o, D < b → g.get? b = some o → g'.get? b = some o) → J D i vs g')
    (step : ∀ E₁ D C i g' h tk ws v, i < n → Fx g' C h [] → (∀ b o, b ≠ C → h.get? b = some o → g'.get? b = some o) → P i v h → (∃ o, g'.get? D = some o) → J D i ws g' → (∀ b o, g.get? b = some o → g'.get? b = some o) →
      ∀ Kx : Value → Shared → Prop, (∀ x g'' h' tk' l', Fx g'' C h' l' → (∀ b o, g'.get? b = some o → g''.get? b = some o) → J D (i + 1) (ws ++ [x]) g'' → Kx x { s₂ with heap := h', toks := tk' }) →
      wpAny (MM w) A (assign target (compEnvC scope cl C env) v) (fun _ s₂' => wpAny (MM w) A (eval elt (compEnvC scope cl C env)) Kx E₁ s₂') E₁ { s₂ with heap := h, toks := tk })
    (fin : ∀ D g' h' tk' ws, g'.PlainList D ws.toArray → J D n ws g' → (∀ b o, g.get? b = some o → g'.get? b = some o) → L < D → g.get? D = none → K D g' { s₂ with heap := h', toks := tk' }) :
    ∀ D C g₃ h₃ tk, Fx g₃ C h₃ [] → g₃.PlainList D ([] : List Value).toArray → (∀ b o, s₂.heap.get? b = some o → g₃.get? b = some o) → s₂.heap.get? D = none → s₂.heap.get? C = none → (s₂.heap.objs.size ≤ D ∧ D < C) →
      codeAny (MM w) A (.compLoop (.ListComp elt [⟨target, iter, [], 0⟩] scope pos) 0 (.ref I) (.ref D) (compEnvC scope cl C env)) (CompEnd L s₂.heap K D C) { s₂ with heap := h₃, toks := tk } := by
  intro D C g3 h3 tk3 F3 hD k3 nD nC lt
  have hwrD : ∀ b ∈ wr, b < D := fun b hb => Nat.lt_of_lt_of_le (hfp b (W.sub b hb)) lt.1
  have hCf : C ∉ fp := notIn_of hfp (Nat.le_trans lt.1 (Nat.le_of_lt lt.2))
  have hDf : D ∉ fp := notIn_of hfp lt.1
  have st3 : St 0 h3 := W.frame _ _ _ st fun b _ o e => F3.keep _ _ (k3 b o e)
  have hg3 : ∀ b o, g.get? b = some o → g3.get? b = some o ∧ b ≠ D ∧ b ∉ wr := fun b o e =>
    ⟨k3 _ _ (F₂.keep _ _ e), Nat.ne_of_lt (Nat.lt_of_lt_of_le (Heap.lt_size (F₂.keep _ _ e)) lt.1), fun hm => by rw [(hwr b hm).1] at e; cases e⟩
  have hLlt : L < s₂.heap.objs.size := by obtain ⟨m, hn, _⟩ := F₂.ns; exact hn.lt
  refine compL1 W hCf hDf hwrD F3 st3 hD hn (fun i vs g => J D i vs g) (fun g => j0 D g) (fun i vs g h => jlen D i vs g h) (fun i vs g g' h k => mono D i vs g g' h k) ?_ ?_
  · intro E₁ i gg hh tk ws v hi Fg hid hp hl hj kp Kx kx
    have hsg : ∀ b o, g.get? b = some o → gg.get? b = some o := fun b o e => let ⟨a1, a2, a3⟩ := hg3 b o e; kp b o a2 a3 a1
    exact step E₁ D C i gg hh tk ws v hi Fg hid hp (by obtain ⟨m, ho⟩ := hl; exact ⟨_, ho⟩) hj hsg Kx kx
  · intro gg hh tk ws Fg hl hj kp
    refine ⟨gg, _, Fg, fun o eo => kp L o (Nat.ne_of_lt (Nat.lt_of_lt_of_le hLlt lt.1)) (fun hm => (hwr L hm).2 rfl) (k3 _ _ eo), fin D gg hh tk ws hl hj (fun b o e => let ⟨a1, a2, a3⟩ := hg3 b o e; kp b o a2 a3 a1) (Nat.lt_of_lt_of_le hLlt lt.1) ?_⟩
    cases e : g.get? D with
    | none => rfl
    | some o => exact absurd (Heap.lt_size (F₂.keep _ _ e)) (Nat.not_lt.mpr lt.1)

/-- a list, ready for a loop -/
theorem lstIterX {lp : Addr} {items : Array Value} {Q : Value → Shared → Prop} (F : Fx g L s.heap l) (hl : g.PlainList lp items) (hh : A.handled = none)
    (h : ∀ I h', Fx g L h' l → (∀ target, KTurns P0 w A target I [I, lp] [I] items.size (fun i v _ => items[i]? = some v) (fun i v h => items[i]? = some v ∧ h.IsListIter I lp (i + 1) ∧ h.IsList lp items) (fun i h => h.IsListIter I lp i ∧ h.IsList lp items)) →
      (h'.IsListIter I lp 0 ∧ h'.IsList lp items) → Self w A (.ref I) { s with heap := h' } → (∀ b ∈ [I, lp], b < h'.objs.size) → (∀ b ∈ [I], g.get? b = none ∧ b ≠ L) → Q (.ref I) { s with heap := h' }) :
    wpAny (MM w) A (pyIter (.ref lp)) Q E s := by
  have hlp : lp < s.heap.objs.size := by obtain ⟨n, ho⟩ := F.list hl; exact Heap.lt_size ho
  have hne : lp ≠ s.heap.objs.size := Nat.ne_of_lt hlp
  have hLs : L < s.heap.objs.size := by obtain ⟨m, hn, _⟩ := F.ns; exact hn.lt
  refine wpAny_pyIter_list (F.list hl).isList ?_
  have W := Walks.list (prog := P0) (w := w) (A := A) hh s.heap.objs.size lp hne items
  have up : ∀ b o, s.heap.get? b = some o → (s.heap.push { cls := .type "list_iterator", data := .fields #[.ref lp, .int 0 0] }).get? b = some o := fun b o e => Heap.get?_push_of_some _ e
  have st : (s.heap.push { cls := .type "list_iterator", data := .fields #[.ref lp, .int 0 0] }).IsListIter s.heap.objs.size lp 0 ∧ (s.heap.push { cls := .type "list_iterator", data := .fields #[.ref lp, .int 0 0] }).IsList lp items :=
    ⟨⟨_, Heap.get?_push_size _ rfl, rfl, rfl⟩, (F.list hl).isList.at fun o e => up _ o e⟩
  refine h s.heap.objs.size _ (F.up up) (fun target => KTurns.ofWalks W fun i v s Q E st q => letGo_listiter st.1 q) st (Walks.selfOf (s := { s with heap := _ }) W st) (fun b hb => ?_) (fun b hb => ?_)
  · rw [Heap.size_push]
    rcases List.mem_cons.mp hb with rfl | hb
    · exact Nat.lt_succ_self _
    · rw [List.mem_singleton.mp hb]; exact Nat.lt_succ_of_lt hlp
  · rw [List.mem_singleton.mp hb]
    refine ⟨?_, Nat.ne_of_gt hLs⟩
    cases e : g.get? s.heap.objs.size with
    | none => rfl
    | some o => exact absurd (Heap.lt_size (F.keep _ _ e)) (Nat.lt_irrefl _)
end
end
section
open PySem.W PySem.SeqAt
section
variable {w : World} {A : Around} {E : Value → Shared → Prop} {s : Shared} {mg mb : Str → Option Value} {g : Heap} {L fa : Addr} {l : List (String × Value)} {env : Env}

theorem ns_s11 {rp T c : Addr} {pm doc : Value} {ys : List (KE' w).I} {Q : Flow → Shared → Prop} (R : Rm A 2) (F : Fx g L s.heap l) (hl : (KE' w).Is g rp ys) (hlk : l.lookup "result" = some (.ref rp)) (hsz : ys.length < 64)
    (hQ : ∀ g' h' zs, Fx g' L h' l → (KE' w).Is g' rp zs → (∀ b o, b ≠ rp → g.get? b = some o → g'.get? b = some o) → Srt (fun a b => (KE' w).lt a.2 b.2) ys zs → ∀ tk, Q .next { s with heap := h', toks := tk }) :
    wpAny (MM w) A (exec (stN 10 11) (callEnvC (fdOf 10 (.ref T) pm (.ref c) doc) L fa)) Q E s := by
  refine wpAny_Expr_any ?_
  refine methList PySem.F.slot_list_sort PySem.F.type_list_sort ?_
  refine ldL F hlk ?_
  refine ⟨rp, _, rfl, F.list hl.1, evs_nil ?_⟩
  refine lsortK skE (Value.none, ((([], 0), 0, []) : TE)) rfl (by have := R.u; omega) F hl hsz fun g' h' zs F' hl' k' sr => ?_
  exact hQ g' h' zs F' hl' k' sr _

theorem SL.take_succ {vs : List Value} {xs : List (List Nat)} {i : Nat} {x : List Nat} {t : Tok} (h : SL vs (xs.take i)) (hx : xs[i]? = some x) : SL (vs ++ [sv x t]) (xs.take (i + 1)) := by
  have e : xs.take (i + 1) = xs.take i ++ [x] := by rw [List.take_succ, hx]; rfl
  rw [e]; exact h.snoc

set_option maxHeartbeats 2000000 in
theorem ns_s12 {rp T c : Addr} {pm doc : Value} {ys : List (KE' w).I} {Q : Flow → Shared → Prop} (R : Rm A 2) (F : Fx g L s.heap l) (hl : (KE' w).Is g rp ys) (hlk : l.lookup "result" = some (.ref rp)) (hsz : ys.length < 64)
    (hQ : ∀ g' h' tk D ws, Fx g' L h' l → g'.PlainList D ws.toArray → SL ws (ys.map fun y => (y.2 : TE).2.2) → (∀ b o, g.get? b = some o → g'.get? b = some o) → Q (.ret (.ref D)) { s with heap := h', toks := tk }) :
    wpAny (MM w) A (exec (stN 10 12) (callEnvC (fdOf 10 (.ref T) pm (.ref c) doc) L fa)) Q E s := by
  refine wpAny_Return_some ?_
  refine compE (L := L) (cl := []) (closureFor_none (by decide +kernel)) ?_
  refine ldL F hlk ?_
  refine lstIterX F hl.1 R.h fun I h1 F1 W st self hfp hwr => ?_
  refine ⟨g, l, F1, self, iterCore (s₂ := { s with heap := h1 }) (W _) F1 st hfp hwr (by simp; omega) (fun D i ws _ => SL ws ((ys.map fun y => (y.2 : TE).2.2).take i)) ?_ ?_ ?_ ?_ ?_⟩
  · intro D g; exact ⟨rfl, fun i x e => by simp at e⟩
  · intro D i ws g hj; rw [hj.1, List.length_take]; omega
  · exact fun _ _ _ _ _ h _ => h
  · intro E₁ D C i g' h tk ws v hi Fg hid hp hD hj hk Kx kx
    have hi' : i < ys.length := by simpa using hi
    obtain rfl : v = ys[i].1 := by
      have : (ys.map (·.1))[i]? = some v := by simpa using hp
      rw [List.getElem?_map, List.getElem?_eq_getElem hi'] at this
      exact (Option.some.inj this).symm
    obtain ⟨p, kv, t2, t3, ep, hpo, _⟩ := (KE' w).keeps (hl.2 ys[i] (by simp)) hk
    rw [ep]
    refine unpackX (vs := [_, _, _]) Fg R.h (isTup_obj hpo) fun h4 F4 => ?_
    show wpAny _ _ (assignInOrder [assign _ _, assign _ _, assign _ _] [_, _, _]) _ _ _
    walk_at "S"
    rename_i h5 F5
    refine kx _ g' h5 _ _ F5 (fun _ _ e => e) (SL.take_succ hj ?_)
    rw [List.getElem?_map, List.getElem?_eq_getElem hi']; rfl
  · intro D g' h' tk' ws hlD hj hk hLD hDg g'' h'' F'' k''
    have e : (ys.map fun y => (y.2 : TE).2.2).take ((ys.map (·.1)).toArray.size) = ys.map fun y => (y.2 : TE).2.2 := List.take_of_length_le (by simp)
    rw [e] at hj
    refine hQ g'' h'' tk' D ws F'' (hlD.at fun o e => k'' _ o (Nat.ne_of_gt hLD) e) hj fun b o e => k'' b o (F.ne e) (hk b o e)
end
end
section
open PySem.W PySem.SeqAt
section
variable {w : World} {A : Around} {E : Value → Shared → Prop} {s : Shared} {mg mb : Str → Option Value} {g : Heap} {L fa : Addr} {l : List (String × Value)} {env : Env}

theorem keyOk_of {q : Addr} {vs : List Value} {sps : List (List Nat)} (R : Rm A 4) (G : Gd w mg mb g) (fq : FnAt g 20 q) (hSL : SL vs sps) (hNm : ∀ sp ∈ sps, Nm sp) : KeyOk w A q g vs (kOf sps) s := by
  intro h tk i v Q E hk hv hq
  have hi : i < sps.length := by have := lt_of_get hv; rw [hSL.1] at this; exact this
  obtain ⟨tx, hx⟩ := hSL.2 i _ (List.getElem?_eq_getElem hi)
  obtain rfl : v = sv sps[i] tx := by rw [hx] at hv; exact (Option.some.inj hv).symm
  have e6 : sps.getD i [] = sps[i] := by simp [List.getD, hi]
  refine spec_key (s := { s with heap := h, toks := tk }) R (fq.keeps hk) (G.keeps hk) (hNm _ (List.getElem_mem hi)) fun h' tk' t1 t2 kp k1 fr hkp => hq h' tk' (.ref kp) k1 ⟨kp, t1, t2, rfl, ?_⟩ ⟨kp, rfl, fr⟩
  unfold kOf
  rw [e6]; exact hkp

theorem SL.pick {vs : List Value} {sps : List (List Nat)} (h : SL vs sps) {q : List Nat} (hq : ∀ i ∈ q, i < sps.length) : SL (q.map fun i => vs.getD i .none) (q.map fun i => sps.getD i []) := by
  refine ⟨by simp, fun j x e => ?_⟩
  rw [List.getElem?_map] at e
  cases eq : q[j]? with
  | none => rw [eq] at e; cases e
  | some i =>
    rw [eq] at e
    simp only [Option.map_some, Option.some.injEq] at e
    subst e
    have hi := hq i (List.mem_of_getElem? eq)
    obtain ⟨t, ht⟩ := h.2 i _ (List.getElem?_eq_getElem hi)
    refine ⟨t, ?_⟩
    have e6 : sps.getD i [] = sps[i] := by simp [List.getD, hi]
    rw [List.getElem?_map, eq, Option.map_some, List.getD_eq_getElem?_getD, ht, e6]; rfl

theorem map_at {ws : List Value} {sps : List (List Nat)} {g : Heap} {rp : Addr} (hl : g.PlainList rp ws.toArray) (hat : ∀ (j : Nat) v, ws[j]? = some v → AtE g v (ent sps j)) :
    ∃ ys : List (KE' w).I, (KE' w).Is g rp ys ∧ ys.length = ws.length ∧ ys.map (·.2) = (List.range ws.length).map (ent sps) := by
  refine ⟨ws.zipIdx.map fun p => (p.1, ent sps p.2), ⟨?_, ?_⟩, by simp, ?_⟩
  · have : ((ws.zipIdx.map fun p => ((p.1, ent sps p.2) : (KE' w).I)).map (·.1)) = ws := by
      rw [List.map_map]
      show ws.zipIdx.map Prod.fst = ws
      simp
    rw [this]; exact hl
  · intro x hx
    obtain ⟨p, hp, rfl⟩ := List.mem_map.mp hx
    have := List.mem_zipIdx' hp
    exact hat p.2 p.1 ((List.getElem?_eq_getElem this.1).trans (congrArg some this.2.symm))
  · rw [List.map_map]
    show (ws.zipIdx.map fun p => ent sps p.2) = _
    refine List.ext_getElem (by simp) fun i h1 h2 => ?_
    simp

set_option maxHeartbeats 4000000 in
theorem spec_ns {a lp q : Addr} {n : Nat} {t : Tok} {vs : List Value} {sps : List (List Nat)} {Q : Value → Shared → Prop} (R : Rm A 9) (G : Gd w mg mb s.heap) (ha : mg (nm 10) = some (.ref a)) (fq : FnAt s.heap 20 q)
    (hl : s.heap.PlainList lp vs.toArray) (hSL : SL vs sps) (hNm : ∀ sp ∈ sps, Nm sp) (hn1 : 1 ≤ n) (hnl : n ≤ sps.length) (h2 : 2 ≤ sps.length) (h64 : sps.length < 64)
    (h : ∀ h' tk D ws qs, (∀ b o, s.heap.get? b = some o → h'.get? b = some o) → h'.PlainList D ws.toArray → Small sps n qs → SL ws (qs.map fun i => sps.getD i []) → Q (.ref D) { s with heap := h', toks := tk }) :
    wpAny (MM w) A (call (.ref a) [.int n t, .ref lp] [(Str.ofString "key", .ref q)]) Q E s := by
  have hvl : vs.length = sps.length := hSL.1
  refine enterN R G ha fun L h₁ g₁ T pm c doc E' tk A' F hcell k1 R1 => ?_
  have G1 := G.keeps k1
  have fq1 := fq.keeps k1
  have hl1 : g₁.PlainList lp vs.toArray := hl.at fun o e => k1 _ _ e
  show wpAny (MM w) A' (execs [stN 10 0, stN 10 1, stN 10 2, stN 10 3, stN 10 4, stN 10 5, stN 10 6, stN 10 7, stN 10 8, stN 10 9, stN 10 10, stN 10 11, stN 10 12] _) _ _ _
  refine wpAny_execs_cons ?_
  by_cases hn : n = 1
  · subst hn
    refine ns_one (R1.le (by omega)) G1 F hcell hl1 (by omega) (fun v hv => ?_) (keyOk_of (sps := sps) (Rm.in1 (n := 4) (R1.le (by omega))) G1 fq1 hSL hNm) fun g' h' tk' D i v F' hv hb hD k' => ?_
    · obtain ⟨i, hi, rfl⟩ := List.getElem_of_mem hv
      obtain ⟨tx, hx⟩ := hSL.2 i _ (List.getElem?_eq_getElem (by omega))
      rw [List.getElem?_eq_getElem hi] at hx
      exact ⟨_, tx, Option.some.inj hx⟩
    · have hi : i < sps.length := by have := lt_of_get hv; omega
      have hp := hSL.pick (q := [i]) (by simpa using hi)
      have ev : vs.getD i .none = v := by rw [List.getD_eq_getElem?_getD, hv]; rfl
      simp only [List.map_cons, List.map_nil, ev] at hp
      exact h h' tk' D [v] [i] (fun b o e => F'.keep _ _ (k' _ _ (k1 _ _ e))) (F'.list hD) (small_one (by rw [← hvl]; exact hb) hi) hp
  refine ns_not1 F hn fun tk1 => ?_
  refine wpAny_execs_cons ?_
  refine ns_sorted (s := { s with heap := h₁, toks := tk1 }) (kd := kOf sps) (R1.le (by omega)) G1 F hcell hl1 (by omega) (by omega) (fun s' => keyOk_of (Rm.in1 (n := 4) (Rm.in1 (n := 5) (R1.le (by omega)))) G1 fq1 hSL hNm) (fun hlt h2 tk2 t' F2 => ?_) fun hge g' h' tk' D p F' hD k' pm' ps' sb' => ?_
  rotate_left
  · have en : n = sps.length := by omega
    subst en
    have hs := small_sort (n := sps.length) (sps := sps) (p := p) (by rw [← hvl]; exact pm') (by rw [← hvl]; exact ps') (by rw [← hvl]; exact sb') (Nat.le_refl _)
    rw [← List.map_take] at hD
    exact h h' tk' D _ _ (fun b o e => F'.keep _ _ (k' _ _ (k1 _ _ e))) (F'.list hD) hs (hSL.pick hs.lt)
  refine wpAny_execs_cons ?_
  refine ns_s2 F2 hcell fun tk3 => ?_
  refine wpAny_execs_cons ?_
  refine ns_s3 (s := { s with heap := h2, toks := tk3 }) F2 G1 hl1 (by walk_at "lk") fun g3 h3 tk3 I F3 it3 k3 n3 => ?_
  refine wpAny_execs_cons ?_
  simp only [put, String.reduceEq, if_true, if_false] at F3
  refine ns_comp (R1.le (by omega)) G1 F3 k3 n3 (by walk_at "lk") (by walk_at "lk") hcell hl1 it3 hSL (by omega) (by omega) fq1 (fun s' => keyOk_of (R1.le (by omega)) G1 fq1 hSL hNm) fun g4 h4 tk4 W ws F4 hW hwl hat it4 nW k4 => ?_
  simp only [put, String.reduceEq, if_true, if_false] at F4
  have kb4 : ∀ b o, g₁.get? b = some o → g4.get? b = some o := fun b o e => k4 b o (by rintro rfl; rw [n3] at e; cases e) (k3 _ _ e)
  have nW1 : g₁.get? W = none := by
    cases e : g₁.get? W with
    | none => rfl
    | some o => rw [k3 _ _ e] at nW; cases nW
  have hIW : I ≠ W := by
    rintro rfl
    obtain ⟨o, ho, _⟩ := it3
    rw [nW] at ho; cases ho
  obtain ⟨ys, hys, hyl, hym⟩ := map_at (w := w) hW hat
  rw [hwl] at hyl hym
  refine wpAny_execs_cons ?_
  refine ns_s5 F4 hW (by walk_at "lk") (by omega) (by omega) fun tk5 => ?_
  refine wpAny_execs_cons ?_
  refine ns_s6 (s := { s with heap := h4, toks := tk5 }) (R1.le (by omega)) F4 (G1.keeps kb4) hys (by walk_at "lk") (by omega) fun g6 h6 tk6 F6 hy6 k6 => ?_
  have kb6 : ∀ b o, g₁.get? b = some o → g6.get? b = some o := fun b o e => k6 b o (by rintro rfl; rw [nW1] at e; cases e) (kb4 b o e)
  have it6 : g6.IsListIter I lp n := it4.at fun o e => k6 _ o hIW e
  have hH6 : HF (ltX w) (hfy (ltX w) (ys.length / 2) ys) 0 := hfy_hf (woX w) _ _ (hf_half ys)
  have hp6 : (hfy (ltX w) (ys.length / 2) ys).Perm ys := hfy_perm _ _ _
  have hl6 : (hfy (ltX w) (ys.length / 2) ys).length = n := by rw [hfy_length]; exact hyl
  change (KE' w).Is g6 W (hfy (ltX w) (ys.length / 2) ys) at hy6
  have hK6 : Kp sps n n n ((List.range n).map fun i => (i, i)) ((hfy (ltX w) (ys.length / 2) ys).map (·.2)) := Kp.init (by rw [← hym]; exact hp6.map (·.2))
  generalize hfy (ltX w) (ys.length / 2) ys = zs at hy6 hH6 hl6 hK6
  obtain ⟨z, hz⟩ : ∃ z, zs[0]? = some z := ⟨zs[0]'(by omega), List.getElem?_eq_getElem _⟩
  refine wpAny_execs_cons ?_
  refine ns_s7 F6 hy6 (by walk_at "lk") hz (by omega) fun h7 tk7 tv F7 htv => ?_
  simp only [put, String.reduceEq, if_true, if_false] at F7
  refine wpAny_execs_cons ?_
  refine ns_s8 (s := { s with heap := h7, toks := tk7 }) F7 (by walk_at "lk") fun h8 tk8 F8 => ?_
  simp only [put, String.reduceEq, if_true, if_false] at F8
  refine wpAny_execs_cons ?_
  refine ns_s9 (s := { s with heap := h8, toks := tk8 }) F8 G1 kb6 fun h9 tk9 bR F9 fR => ?_
  simp only [put, String.reduceEq, if_true, if_false] at F9
  refine wpAny_execs_cons ?_
  refine ns_s10 (s := { s with heap := h9, toks := tk9 }) (rp := W) (I := I) (n := n) (gb := g₁) (R1.le (by omega)) G1 (by walk_at "sub") kb6 n3 nW1 hIW hcell hl1 it6 hSL (by omega) (by omega) fq1 fR (fun s' => keyOk_of (R1.le (by omega)) G1 fq1 hSL hNm) hy6 hK6 hH6 hz htv fun g10 h10 tk10 us ks ord F10 hu10 hK10 k10 => ?_
  have hul : us.length < 64 := by
    have e1 : us.length = ks.length := by
      have := hK10.perm.length_eq
      rw [List.length_map (as := ks)] at this
      exact (List.length_map (as := us) _).symm.trans this
    have := hK10.len
    omega
  refine wpAny_execs_cons ?_
  refine ns_s11 (s := { s with heap := h10, toks := tk10 }) (R1.le (by omega)) F10 hu10 (by walk_at "lk") hul fun g11 h11 xs F11 hx11 k11 sr tk11 => ?_
  have hxl : xs.length < 64 := by rw [sr.1.length_eq]; exact hul
  rw [hvl] at hK10
  obtain ⟨qs, hsm, hmap⟩ := Kp.small hK10 (sr.1.map (·.2)) (List.pairwise_map.mpr sr.2)
  refine wpAny_execs_cons ?_
  refine ns_s12 (s := { s with heap := h11, toks := tk11 }) (R1.le (by omega)) F11 hx11 (by walk_at "lk") hxl fun g12 h12 tk12 D ws12 F12 hD12 hS12 k12 => ?_
  have hm1 : ∀ (l : List (KE' w).I), (l.map (fun y => (y.2 : TE))).map (fun e => e.2.2) = l.map fun y => (y.2 : TE).2.2 := fun l => by
    induction l with
    | nil => rfl
    | cons a r ih => exact congrArg (List.cons _) ih
  have hS13 : SL ws12 (qs.map fun i => sps.getD i []) := ((hm1 xs).symm.trans hmap) ▸ hS12
  exact h h12 tk12 D ws12 qs (fun b o e => F12.keep _ _ (k12 _ _ (k11 b o (by rintro rfl; rw [k1 _ _ e] at nW1; cases nW1) (k10 _ _ (k1 _ _ e))))) (F12.list hD12) hsm hS13
end
end
section
open PySem.W
section
variable {w : World} {A : Around} {E : Value → Shared → Prop} {s : Shared} {mg mb : Str → Option Value} {c F : Addr}

theorem addL {l b : Addr} {vs ws : List Value} {Q : Value → Shared → Prop} (hl : s.heap.IsList l vs.toArray) (hb : s.heap.IsList b ws.toArray)
    (h : Q (.ref s.heap.objs.size) { s with heap := s.heap.push (lstObj (vs ++ ws)) }) (hsz : vs.length + ws.length ≤ 2 ^ 20) :
    wpAny (MM w) A (binaryOp .Add (.ref l) (.ref b)) Q E s := by
  obtain ⟨⟨cls, dd, data, sl⟩, ho, hc, n, hd⟩ := id hl
  obtain ⟨⟨cls2, dd2, data2, sl2⟩, ho2, hc2, n2, hd2⟩ := id hb
  simp only at hc hd hc2 hd2
  subst hc hd hc2 hd2
  refine concat_meets ⟨_, ho, rfl⟩ ⟨_, ho2, rfl⟩ noFill_list_add seq_list_add PySem.F.slot_list_add PySem.F.entry_list_add (PySem.F.args_list_add_2 _ _)
    (list_addW l b vs.toArray ws.toArray n n2 dd dd2 sl sl2 (by rw [sizeLine_eq]; simp; omega)) ⟨ho, ho2, ?_⟩
  have e : vs.toArray ++ ws.toArray = (vs ++ ws).toArray := by simp
  rw [e]; exact h

theorem intsAre_of : ∀ (l : List Value) (f : Nat → Int), (∀ (i : Nat) v, l[i]? = some v → ∃ t, v = .int (f i) t) → IntsAre l ((List.range l.length).map f)
  | [], _, _ => .nil
  | v :: r, f, h => by
    obtain ⟨t, e⟩ := h 0 v rfl
    subst e
    rw [List.length_cons, List.range_succ_eq_map, List.map_cons, List.map_map]
    exact .cons _ t (intsAre_of r _ fun i v hv => h (i + 1) v (by simpa using hv))

/-- a type called at the top -/
theorem callTop {T : String} {k : Str} {p pos : Pos} {args : List Expr} {Q : Value → Shared → Prop} (hg : s.heap.Ns mainGlobals mg) (hb : s.heap.Ns builtinsNs mb) (hm : mg k = none) (hv : mb k = some (.type T))
    (h : evs (MM w) A (mainEnv P0 c F) E args (fun vs s₁ => wpAny (MM w) A (call (.type T) vs) Q E s₁) s) (hns : noStar args = true := by rfl)
    (hd : (k == ("__debug__" : Str)) = false := by kernel_rfl) :
    wpAny (MM w) A (eval (.Call (.Name k p) args [] pos) (mainEnv P0 c F)) Q E s :=
  callN (Name_module (by kernel_rfl) rfl (loadGlobal_builtin (mg := mg) (mb := mb) hg hm hb hv (PySem.callWith_type (noStar_any hns) (args_evs hns h))) hd)

noncomputable def valS : Stmt → Expr
  | .Assign _ v _ => v
  | _ => .Constant .none 0 default
noncomputable def B1T (w : World) (a : Addr) (h : Heap) : Prop := ∃ S n, h.SetOf (intKind P0 w) a S n ∧ ∀ k, S k = b1L.contains k
theorem B1T.stab (w : World) (N : Nat) : ∀ (a : Addr) (h h' : Heap), N ≤ a → (∀ b o, N ≤ b → h.get? b = some o → h'.get? b = some o) → B1T w a h → B1T w a h' := by
  rintro a h h' ha k ⟨S, n, ⟨o, es, ep, t, ho, r⟩, hS⟩
  exact ⟨S, n, ⟨o, es, ep, t, k _ _ ha ho, r⟩, hS⟩

theorem evSet {Q : Value → Shared → Prop} (hh : A.handled = none) (hg : s.heap.Ns mainGlobals mg) (hb : s.heap.Ns builtinsNs mb)
    (ms : mg (Str.ofString "set") = none) (vs : mb (Str.ofString "set") = some (.type "set")) (ml : mg (Str.ofString "list") = none) (vl : mb (Str.ofString "list") = some (.type "list"))
    (mr : mg (Str.ofString "range") = none) (vr : mb (Str.ofString "range") = some (.type "range"))
    (h : ∀ a h₁ tk, s.heap.objs.size ≤ a → B1T w a h₁ → a < h₁.objs.size → (∀ b o', s.heap.get? b = some o' → h₁.get? b = some o') → Q (.ref a) { s with heap := h₁, toks := tk }) :
    wpAny (MM w) A (eval (valS (stm 12)) (mainEnv P0 c F)) Q E s := by
  refine callTop hg hb ms vs ?_
  refine evs_cons ?_
  refine wpAny_BinOp ?_
  refine listD ?_
  refine evs_cons (wpAny_Constant_int ?_)
  refine evs_cons (wpAny_Constant_int ?_)
  refine evs_cons (wpAny_Constant_int ?_)
  refine evs_cons (wpAny_Constant_int ?_)
  refine evs_cons (wpAny_Constant_int ?_)
  refine evs_cons (wpAny_Constant_int ?_)
  refine evs_cons (wpAny_Constant_int ?_)
  refine evs_cons (wpAny_Constant_int ?_)
  refine evs_cons (wpAny_Constant_int ?_)
  refine evs_cons (wpAny_Constant_int ?_)
  refine evs_cons (wpAny_Constant_int ?_)
  refine evs_nil ⟨Nat.le_of_ble_eq_true rfl, ?_⟩
  refine callTop (hg.push _) (hb.push _) ml vl ?_
  refine evs_cons ?_
  refine callTop (hg.push _) (hb.push _) mr vr ?_
  refine evs_cons (wpAny_Constant_int ?_)
  refine evs_cons (wpAny_Constant_int ?_)
  refine evs_nil ?_
  refine call_range_2 ?_
  refine evs_nil ?_
  refine call_list_range (n := 16) hh (IsRange.new _ _ _ _ _ _ _) (by decide) (by decide) (by decide) fun h' tk acc' c' k1 ho1 hit => ?_
  obtain ⟨hsz16, hitem⟩ := hit
  have hia : IntsAre acc'.toList ((List.range 16).map fun (i : Nat) => (65024 : Int) + (i : Int)) := by
    have := intsAre_of acc'.toList (fun (i : Nat) => (65024 : Int) + (i : Int) * 1) fun i v hv => hitem i v (by simpa using hv)
    rw [show acc'.toList.length = 16 by simpa using hsz16] at this
    simpa using this
  refine addL (ws := acc'.toList) ⟨_, k1 _ _ (Heap.get?_push_of_some _ (Heap.get?_push_size _ rfl)), rfl, _, rfl⟩ ⟨_, ho1, rfl, _, by simp; rfl⟩ ?_ (by simp [hsz16])
  refine evs_nil ?_
  refine call_set_list (ns := b1L) hh ⟨_, Heap.get?_push_size _ rfl, rfl, _, rfl⟩ ?_ ?_ fun h2 tk2 hS k2 => ?_
  · show IntsAre ((_ ++ acc'.toList).toArray.toList) b1L
    rw [List.toList_toArray]
    refine IntsAre.append ?_ hia
    repeat (first | exact .nil | refine .cons _ _ ?_)
  · unfold scanBound
    simp [hsz16]
  · have hs1 : s.heap.objs.size ≤ h'.objs.size := by
      have := Heap.lt_size ho1
      simp only [Heap.size_push] at this
      exact Nat.le_of_lt (Nat.lt_of_le_of_lt (Nat.le_trans (Nat.le_succ _) (Nat.le_succ _)) this)
    have hu : ∀ b o, s.heap.get? b = some o → h'.get? b = some o := fun b o e => k1 _ _ (Heap.get?_push_of_some _ (Heap.get?_push_of_some _ e))
    refine h _ h2 tk2 ?_ ⟨_, _, hS, fun k => ?_⟩ ?_ fun b o e => ?_
    · exact Nat.le_trans hs1 (by rw [Heap.size_push]; exact Nat.le_succ _)
    · rw [firstMet_any]
      have e27 : ∀ n, n = b1L.length → (List.range n).map (fun i => b1L.getD i 0) = b1L := fun n e => by rw [e]; exact range_getD b1L
      rw [e27 _ (by simp [hsz16]; rfl), List.contains_eq_any_beq]
      congr 1
      funext x
      exact Bool.beq_comm ..
    · obtain ⟨o, _, _, _, ho, _⟩ := hS
      exact Heap.lt_size ho
    · have e2 := hu b o e
      exact k2 b o (Nat.lt_of_lt_of_le (Heap.lt_size e2) (by rw [Heap.size_push]; exact Nat.le_succ _)) (Heap.get?_push_of_some _ e2)
end
end
section
open PySem.W
noncomputable def dKs : Expr → List (Option Expr)
  | .Dict ks _ _ => ks
  | _ => []
noncomputable def dVs : Expr → List Expr
  | .Dict _ vs _ => vs
  | _ => []
noncomputable def dP : Expr → Pos
  | .Dict _ _ p => p
  | _ => default
noncomputable def asP : Stmt → Pos
  | .Assign _ _ p => p
  | _ => default
noncomputable def tgP : Stmt → Pos
  | .Assign [.Name _ p] _ _ => p
  | _ => default
noncomputable def B3T (w : World) (a : Addr) (h : Heap) : Prop := ∃ f, (a == sysModules) = false ∧ h.MapOf (intKind P0 w) a f ∧ (∃ o, h.get? a = some o ∧ o.dict = none) ∧ ∀ k, match b3L.lookup k with | some r => ∃ t, f k = some (.str r t) | none => f k = none
theorem B3T.stab (w : World) (N : Nat) : ∀ (a : Addr) (h h' : Heap), N ≤ a → (∀ b o, N ≤ b → h.get? b = some o → h'.get? b = some o) → B3T w a h → B3T w a h' := by
  rintro a h h' ha k ⟨f, hm, ⟨o, es, ep, ho, r⟩, ⟨o', ho', hd'⟩, hf⟩
  exact ⟨f, hm, ⟨o, es, ep, k _ _ ha ho, r⟩, ⟨o', k _ _ ha ho', hd'⟩, hf⟩
noncomputable def asc : Int → List Int → Bool
  | _, [] => true
  | a, b :: r => decide (a < b) && asc b r
theorem asc_pw : ∀ {a : Int} {l : List Int}, asc a l = true → (∀ b ∈ l, a < b) ∧ l.Nodup
  | _, [], _ => ⟨by simp, .nil⟩
  | a, b :: r, h => by
    simp only [asc, Bool.and_eq_true, decide_eq_true_eq] at h
    obtain ⟨h1, h2⟩ := asc_pw h.2
    refine ⟨fun c hc => ?_, List.nodup_cons.mpr ⟨fun hb => absurd (h1 b hb) (Int.lt_irrefl _), h2⟩⟩
    rcases List.mem_cons.mp hc with rfl | hc
    · exact h.1
    · exact Int.lt_trans h.1 (h1 c hc)
theorem b3_lit : litAll (dKs (valS (stm 14))) (dVs (valS (stm 14))) = some b3L := by kernel_rfl
theorem b3_nodup : (b3L.map (·.1)).Nodup := (asc_pw (a := 0) (by decide +kernel)).2
theorem b3_size : b3L.length ≤ 2 ^ 20 := by decide +kernel
theorem b3_ne : b3L ≠ [] := by
  intro e
  have : (b3L.length == 0) = false := by decide +kernel
  rw [e] at this; cases this
theorem b3_shape : valS (stm 14) = .Dict (dKs (valS (stm 14))) (dVs (valS (stm 14))) (dP (valS (stm 14))) := by kernel_rfl
theorem stm14_shape : stm 14 = .Assign [.Name (Str.ofString "b3_exceptions") (tgP (stm 14))] (valS (stm 14)) (asP (stm 14)) := by kernel_rfl
theorem stm12_shape : stm 12 = .Assign [.Name (Str.ofString "b1_set") (tgP (stm 12))] (valS (stm 12)) (asP (stm 12)) := by kernel_rfl
theorem body_eq : P0.main.body = [stm 0, stm 1, stm 2, stm 3, stm 4, stm 5, stm 6, stm 7, stm 8, stm 9, stm 10, stm 11, stm 12, stm 13, stm 14, stm 15, stm 16, stm 17, stm 18, stm 19, stm 20, stm 21, stm 22] := by kernel_rfl
theorem hnewOf {L : List (Str × (Addr → Heap → Prop))} {x : Str} (h : ((L.map (·.1)).all fun y => y != x) = true) : ∀ p ∈ L, p.1 ≠ x := fun p hp => by
  have := List.all_eq_true.mp h p.1 (List.mem_map.mpr ⟨p, hp, rfl⟩)
  simpa using this
section
variable {w : World} {A : Around} {E : Value → Shared → Prop} {s : Shared} {h₀ : Heap} {mg₀ mg mb : Str → Option Value} {c Pl F : Addr} {ps : Array Value} {ln : Nat} {L : List (Str × (Addr → Heap → Prop))} {names : List Str} {Q : Flow → Shared → Prop}

theorem dictLit' {e : Expr} {env : Env} {ks : List (Option Expr)} {vs : List Expr} {pos : Pos} {kL : List (Int × Str)} {Q : Value → Shared → Prop} (he : e = .Dict ks vs pos) (h : litAll ks vs = some kL) (hn : (kL.map (·.1)).Nodup) (hsz : kL.length ≤ 2 ^ 20) (hne : kL ≠ []) (hbig : sysModules < s.heap.objs.size)
    (hQ : SubQ (w := w) s kL fun d s' => Q (.ref d) s') : wpAny (MM w) A (eval e env) Q E s := by
  subst he; exact dictLit h hn hsz hne hbig hQ

theorem evB3 {Q : Value → Shared → Prop} (hbig : sysModules < s.heap.objs.size)
    (h : ∀ a h₁ tk, s.heap.objs.size ≤ a → B3T w a h₁ → a < h₁.objs.size → (∀ b o', s.heap.get? b = some o' → h₁.get? b = some o') → Q (.ref a) { s with heap := h₁, toks := tk }) :
    wpAny (MM w) A (eval (valS (stm 14)) (mainEnv P0 c F)) Q E s := by
  have h1 := b3_shape
  have h2 := b3_lit
  have h3 := b3_nodup
  have h4 := b3_size
  have h5 := b3_ne
  have h6 : ∀ (kvs : List (Int × Value)), VS kvs b3L → ∀ k, match b3L.lookup k with | some r => ∃ t, valueAt kvs k = some (.str r t) | none => valueAt kvs k = none := fun kvs hv k => by
    have := hv.lookup k
    revert this
    generalize b3L.lookup k = o
    intro this
    cases o <;> exact this
  have h7 : ∀ (a : Addr) (h : Heap) (kvs : List (Int × Value)), (a == sysModules) = false → h.DictOf (intKind P0 w) a kvs → VS kvs b3L → B3T w a h := fun a h kvs ha hdo hv => by
    refine ⟨_, ha, hdo.mapOf, ?_, h6 kvs hv⟩
    obtain ⟨o, es, ep, ho, hc, _⟩ := hdo
    exact ⟨o, ho, hc.2.1⟩
  clear h6
  generalize b3L = kL at h2 h3 h4 h5 h7
  generalize valS (stm 14) = e at h1 h2 ⊢
  refine dictLit' h1 h2 h3 h4 h5 hbig fun h' tk d kvs hd hdo hv hk => ?_
  have hlt : d < h'.objs.size := by obtain ⟨o, _, _, ho, _⟩ := hdo; exact Heap.lt_size ho
  exact h d h' tk hd (h7 d h' kvs (beq_eq_false_iff_ne.mpr (Nat.ne_of_gt (Nat.lt_of_lt_of_le hbig hd))) hdo hv) hlt hk

theorem defT1 (X : Tp h₀ mg₀ c Pl s.heap mg ps ln L names) (hnew : ∀ p ∈ L, p.1 ≠ nm 1) (hln : ln < (psn 1).line)
    (k : ∀ h' tk mg' ps', Tp h₀ mg₀ c Pl h' mg' ps' (psn 1).line ((nm 1, FnT h₀.objs.size 1) :: L) (nm 1 :: names) → Q .next { s with heap := h', toks := tk }) :
    wpAny (MM w) A (exec (stm 1) (mainEnv P0 c F)) Q E s :=
  defT 1 X hnew (by kernel_rfl) k (by kernel_rfl) hln (by kernel_rfl) (by kernel_rfl) (by kernel_rfl) (by kernel_rfl) (by kernel_rfl) (by kernel_rfl) (by decide +kernel) (by kernel_rfl)

theorem defT2 (X : Tp h₀ mg₀ c Pl s.heap mg ps ln L names) (hnew : ∀ p ∈ L, p.1 ≠ nm 2) (hln : ln < (psn 2).line)
    (k : ∀ h' tk mg' ps', Tp h₀ mg₀ c Pl h' mg' ps' (psn 2).line ((nm 2, FnT h₀.objs.size 2) :: L) (nm 2 :: names) → Q .next { s with heap := h', toks := tk }) :
    wpAny (MM w) A (exec (stm 2) (mainEnv P0 c F)) Q E s :=
  defT 2 X hnew (by kernel_rfl) k (by kernel_rfl) hln (by kernel_rfl) (by kernel_rfl) (by kernel_rfl) (by kernel_rfl) (by kernel_rfl) (by kernel_rfl) (by decide +kernel) (by kernel_rfl)

theorem defT3 (X : Tp h₀ mg₀ c Pl s.heap mg ps ln L names) (hnew : ∀ p ∈ L, p.1 ≠ nm 3) (hln : ln < (psn 3).line)
    (k : ∀ h' tk mg' ps', Tp h₀ mg₀ c Pl h' mg' ps' (psn 3).line ((nm 3, FnT h₀.objs.size 3) :: L) (nm 3 :: names) → Q .next { s with heap := h', toks := tk }) :
    wpAny (MM w) A (exec (stm 3) (mainEnv P0 c F)) Q E s :=
  defT 3 X hnew (by kernel_rfl) k (by kernel_rfl) hln (by kernel_rfl) (by kernel_rfl) (by kernel_rfl) (by kernel_rfl) (by kernel_rfl) (by kernel_rfl) (by decide +kernel) (by kernel_rfl)

theorem defT4 (X : Tp h₀ mg₀ c Pl s.heap mg ps ln L names) (hnew : ∀ p ∈ L, p.1 ≠ nm 4) (hln : ln < (psn 4).line)
    (k : ∀ h' tk mg' ps', Tp h₀ mg₀ c Pl h' mg' ps' (psn 4).line ((nm 4, FnT h₀.objs.size 4) :: L) (nm 4 :: names) → Q .next { s with heap := h', toks := tk }) :
    wpAny (MM w) A (exec (stm 4) (mainEnv P0 c F)) Q E s :=
  defT 4 X hnew (by kernel_rfl) k (by kernel_rfl) hln (by kernel_rfl) (by kernel_rfl) (by kernel_rfl) (by kernel_rfl) (by kernel_rfl) (by kernel_rfl) (by decide +kernel) (by kernel_rfl)

theorem defT5 (X : Tp h₀ mg₀ c Pl s.heap mg ps ln L names) (hnew : ∀ p ∈ L, p.1 ≠ nm 5) (hln : ln < (psn 5).line)
    (k : ∀ h' tk mg' ps', Tp h₀ mg₀ c Pl h' mg' ps' (psn 5).line ((nm 5, FnT h₀.objs.size 5) :: L) (nm 5 :: names) → Q .next { s with heap := h', toks := tk }) :
    wpAny (MM w) A (exec (stm 5) (mainEnv P0 c F)) Q E s :=
  defT 5 X hnew (by kernel_rfl) k (by kernel_rfl) hln (by kernel_rfl) (by kernel_rfl) (by kernel_rfl) (by kernel_rfl) (by kernel_rfl) (by kernel_rfl) (by decide +kernel) (by kernel_rfl)

theorem defT6 (X : Tp h₀ mg₀ c Pl s.heap mg ps ln L names) (hnew : ∀ p ∈ L, p.1 ≠ nm 6) (hln : ln < (psn 6).line)
    (k : ∀ h' tk mg' ps', Tp h₀ mg₀ c Pl h' mg' ps' (psn 6).line ((nm 6, FnT h₀.objs.size 6) :: L) (nm 6 :: names) → Q .next { s with heap := h', toks := tk }) :
    wpAny (MM w) A (exec (stm 6) (mainEnv P0 c F)) Q E s :=
  defT 6 X hnew (by kernel_rfl) k (by kernel_rfl) hln (by kernel_rfl) (by kernel_rfl) (by kernel_rfl) (by kernel_rfl) (by kernel_rfl) (by kernel_rfl) (by decide +kernel) (by kernel_rfl)

theorem defT7 (X : Tp h₀ mg₀ c Pl s.heap mg ps ln L names) (hnew : ∀ p ∈ L, p.1 ≠ nm 7) (hln : ln < (psn 7).line)
    (k : ∀ h' tk mg' ps', Tp h₀ mg₀ c Pl h' mg' ps' (psn 7).line ((nm 7, FnT h₀.objs.size 7) :: L) (nm 7 :: names) → Q .next { s with heap := h', toks := tk }) :
    wpAny (MM w) A (exec (stm 7) (mainEnv P0 c F)) Q E s :=
  defT 7 X hnew (by kernel_rfl) k (by kernel_rfl) hln (by kernel_rfl) (by kernel_rfl) (by kernel_rfl) (by kernel_rfl) (by kernel_rfl) (by kernel_rfl) (by decide +kernel) (by kernel_rfl)

theorem defT8 (X : Tp h₀ mg₀ c Pl s.heap mg ps ln L names) (hnew : ∀ p ∈ L, p.1 ≠ nm 8) (hln : ln < (psn 8).line)
    (k : ∀ h' tk mg' ps', Tp h₀ mg₀ c Pl h' mg' ps' (psn 8).line ((nm 8, FnT h₀.objs.size 8) :: L) (nm 8 :: names) → Q .next { s with heap := h', toks := tk }) :
    wpAny (MM w) A (exec (stm 8) (mainEnv P0 c F)) Q E s :=
  defT 8 X hnew (by kernel_rfl) k (by kernel_rfl) hln (by kernel_rfl) (by kernel_rfl) (by kernel_rfl) (by kernel_rfl) (by kernel_rfl) (by kernel_rfl) (by decide +kernel) (by kernel_rfl)

theorem defT9 (X : Tp h₀ mg₀ c Pl s.heap mg ps ln L names) (hnew : ∀ p ∈ L, p.1 ≠ nm 9) (hln : ln < (psn 9).line)
    (k : ∀ h' tk mg' ps', Tp h₀ mg₀ c Pl h' mg' ps' (psn 9).line ((nm 9, FnT h₀.objs.size 9) :: L) (nm 9 :: names) → Q .next { s with heap := h', toks := tk }) :
    wpAny (MM w) A (exec (stm 9) (mainEnv P0 c F)) Q E s :=
  defT 9 X hnew (by kernel_rfl) k (by kernel_rfl) hln (by kernel_rfl) (by kernel_rfl) (by kernel_rfl) (by kernel_rfl) (by kernel_rfl) (by kernel_rfl) (by decide +kernel) (by kernel_rfl)

theorem defT13 (X : Tp h₀ mg₀ c Pl s.heap mg ps ln L names) (hnew : ∀ p ∈ L, p.1 ≠ nm 13) (hln : ln < (psn 13).line)
    (k : ∀ h' tk mg' ps', Tp h₀ mg₀ c Pl h' mg' ps' (psn 13).line ((nm 13, FnT h₀.objs.size 13) :: L) (nm 13 :: names) → Q .next { s with heap := h', toks := tk }) :
    wpAny (MM w) A (exec (stm 13) (mainEnv P0 c F)) Q E s :=
  defT 13 X hnew (by kernel_rfl) k (by kernel_rfl) hln (by kernel_rfl) (by kernel_rfl) (by kernel_rfl) (by kernel_rfl) (by kernel_rfl) (by kernel_rfl) (by decide +kernel) (by kernel_rfl)

theorem defT15 (X : Tp h₀ mg₀ c Pl s.heap mg ps ln L names) (hnew : ∀ p ∈ L, p.1 ≠ nm 15) (hln : ln < (psn 15).line)
    (k : ∀ h' tk mg' ps', Tp h₀ mg₀ c Pl h' mg' ps' (psn 15).line ((nm 15, FnT h₀.objs.size 15) :: L) (nm 15 :: names) → Q .next { s with heap := h', toks := tk }) :
    wpAny (MM w) A (exec (stm 15) (mainEnv P0 c F)) Q E s :=
  defT 15 X hnew (by kernel_rfl) k (by kernel_rfl) hln (by kernel_rfl) (by kernel_rfl) (by kernel_rfl) (by kernel_rfl) (by kernel_rfl) (by kernel_rfl) (by decide +kernel) (by kernel_rfl)

theorem defT17 (X : Tp h₀ mg₀ c Pl s.heap mg ps ln L names) (hnew : ∀ p ∈ L, p.1 ≠ nm 17) (hln : ln < (psn 17).line)
    (k : ∀ h' tk mg' ps', Tp h₀ mg₀ c Pl h' mg' ps' (psn 17).line ((nm 17, FnT h₀.objs.size 17) :: L) (nm 17 :: names) → Q .next { s with heap := h', toks := tk }) :
    wpAny (MM w) A (exec (stm 17) (mainEnv P0 c F)) Q E s :=
  defT 17 X hnew (by kernel_rfl) k (by kernel_rfl) hln (by kernel_rfl) (by kernel_rfl) (by kernel_rfl) (by kernel_rfl) (by kernel_rfl) (by kernel_rfl) (by decide +kernel) (by kernel_rfl)

theorem defT18 (X : Tp h₀ mg₀ c Pl s.heap mg ps ln L names) (hnew : ∀ p ∈ L, p.1 ≠ nm 18) (hln : ln < (psn 18).line)
    (k : ∀ h' tk mg' ps', Tp h₀ mg₀ c Pl h' mg' ps' (psn 18).line ((nm 18, FnT h₀.objs.size 18) :: L) (nm 18 :: names) → Q .next { s with heap := h', toks := tk }) :
    wpAny (MM w) A (exec (stm 18) (mainEnv P0 c F)) Q E s :=
  defT 18 X hnew (by kernel_rfl) k (by kernel_rfl) hln (by kernel_rfl) (by kernel_rfl) (by kernel_rfl) (by kernel_rfl) (by kernel_rfl) (by kernel_rfl) (by decide +kernel) (by kernel_rfl)

theorem defT19 (X : Tp h₀ mg₀ c Pl s.heap mg ps ln L names) (hnew : ∀ p ∈ L, p.1 ≠ nm 19) (hln : ln < (psn 19).line)
    (k : ∀ h' tk mg' ps', Tp h₀ mg₀ c Pl h' mg' ps' (psn 19).line ((nm 19, FnT h₀.objs.size 19) :: L) (nm 19 :: names) → Q .next { s with heap := h', toks := tk }) :
    wpAny (MM w) A (exec (stm 19) (mainEnv P0 c F)) Q E s :=
  defT 19 X hnew (by kernel_rfl) k (by kernel_rfl) hln (by kernel_rfl) (by kernel_rfl) (by kernel_rfl) (by kernel_rfl) (by kernel_rfl) (by kernel_rfl) (by decide +kernel) (by kernel_rfl)

theorem defT20 (X : Tp h₀ mg₀ c Pl s.heap mg ps ln L names) (hnew : ∀ p ∈ L, p.1 ≠ nm 20) (hln : ln < (psn 20).line)
    (k : ∀ h' tk mg' ps', Tp h₀ mg₀ c Pl h' mg' ps' (psn 20).line ((nm 20, FnT h₀.objs.size 20) :: L) (nm 20 :: names) → Q .next { s with heap := h', toks := tk }) :
    wpAny (MM w) A (exec (stm 20) (mainEnv P0 c F)) Q E s :=
  defT 20 X hnew (by kernel_rfl) k (by kernel_rfl) hln (by kernel_rfl) (by kernel_rfl) (by kernel_rfl) (by kernel_rfl) (by kernel_rfl) (by kernel_rfl) (by decide +kernel) (by kernel_rfl)

theorem defT21 (X : Tp h₀ mg₀ c Pl s.heap mg ps ln L names) (hnew : ∀ p ∈ L, p.1 ≠ nm 21) (hln : ln < (psn 21).line)
    (k : ∀ h' tk mg' ps', Tp h₀ mg₀ c Pl h' mg' ps' (psn 21).line ((nm 21, FnT h₀.objs.size 21) :: L) (nm 21 :: names) → Q .next { s with heap := h', toks := tk }) :
    wpAny (MM w) A (exec (stm 21) (mainEnv P0 c F)) Q E s :=
  defT 21 X hnew (by kernel_rfl) k (by kernel_rfl) hln (by kernel_rfl) (by kernel_rfl) (by kernel_rfl) (by kernel_rfl) (by kernel_rfl) (by kernel_rfl) (by decide +kernel) (by kernel_rfl)

theorem defT22 (X : Tp h₀ mg₀ c Pl s.heap mg ps ln L names) (hnew : ∀ p ∈ L, p.1 ≠ nm 22) (hln : ln < (psn 22).line)
    (k : ∀ h' tk mg' ps', Tp h₀ mg₀ c Pl h' mg' ps' (psn 22).line ((nm 22, FnT h₀.objs.size 22) :: L) (nm 22 :: names) → Q .next { s with heap := h', toks := tk }) :
    wpAny (MM w) A (exec (stm 22) (mainEnv P0 c F)) Q E s :=
  defT 22 X hnew (by kernel_rfl) k (by kernel_rfl) hln (by kernel_rfl) (by kernel_rfl) (by kernel_rfl) (by kernel_rfl) (by kernel_rfl) (by kernel_rfl) (by decide +kernel) (by kernel_rfl)
end
end
section
open PySem.W
noncomputable def Lall (w : World) (N : Nat) : List (Str × (Addr → Heap → Prop)) := [(nm 22, FnT N 22), (nm 21, FnT N 21), (nm 20, FnT N 20), (nm 19, FnT N 19), (nm 18, FnT N 18), (nm 17, FnT N 17), (nm 15, FnT N 15), (Str.ofString "b3_exceptions", B3T w), (nm 13, FnT N 13), (Str.ofString "b1_set", B1T w), (nm 10, NsT N), (nm 9, FnT N 9), (nm 8, FnT N 8), (nm 7, FnT N 7), (nm 6, FnT N 6), (nm 5, FnT N 5), (nm 4, FnT N 4), (nm 3, FnT N 3), (nm 2, FnT N 2), (nm 1, FnT N 1)]
noncomputable def nall : List Str := [nm 22, nm 21, nm 20, nm 19, nm 18, nm 17, Str.ofString "__name__", nm 15, Str.ofString "b3_exceptions", nm 13, Str.ofString "b1_set", Str.ofString "__name__", nm 10, nm 9, nm 8, nm 7, nm 6, nm 5, nm 4, nm 3, nm 2, nm 1, Str.ofString "__name__"]
noncomputable def cE : Expr → Pos
  | .Constant _ _ p => p
  | _ => default
noncomputable def dE : Expr := (prm 10).defaults.getD 0 (.Constant .none 0 default)
theorem d10 : (prm 10).defaults = [dE] := by kernel_rfl
theorem d10s : dE = .Constant .none 0 (cE dE) := by kernel_rfl
theorem d10c : dE.isPlainConst = true := by kernel_rfl
theorem constNone {p : Pos} {k : Nat} : ∀ v, (Expr.Constant .none k p).ConstVal v → v = .none := fun v hv => by
  have : v = .none := by simpa [Expr.ConstVal, Const.Val] using hv
  exact this
theorem hv10 : ∀ v, dE.ConstVal v → v = .none := d10s ▸ constNone
section
variable {w : World} {A : Around} {E : Value → Shared → Prop} {s : Shared} {h₀ : Heap} {mg₀ mg mb : Str → Option Value} {c Pl F : Addr} {Q : Flow → Shared → Prop}
theorem objT' {names : List Str} {L : List (Str × (Addr → Heap → Prop))} {ps : Array Value} {ln : Nat} {st : Stmt} {x : Str} {p p3 : Pos} {value : Expr} {P : Addr → Heap → Prop} (hst : st = .Assign [.Name x p] value p3) (X : Tp h₀ mg₀ c Pl s.heap mg ps ln L names) (hnew : ∀ p ∈ L, p.1 ≠ x) (hloc : P0.main.scope.names.lookup x = some .local) (hnb : x ≠ "__builtins__")
    (hs : swapsWith value (some (.Name x p)) p3.line (mainEnv P0 c F) = pure false)
    (stb : ∀ a h h', h₀.objs.size ≤ a → (∀ b o, h₀.objs.size ≤ b → h.get? b = some o → h'.get? b = some o) → P a h → P a h')
    (hval : ∀ Q' : Value → Shared → Prop, (∀ a h₁ tk, s.heap.objs.size ≤ a → P a h₁ → a < h₁.objs.size → (∀ b o', s.heap.get? b = some o' → h₁.get? b = some o') → Q' (.ref a) { s with heap := h₁, toks := tk }) →
      wpAny (MM w) A (eval value (mainEnv P0 c F)) Q' E s)
    (k : ∀ h' tk mg', Tp h₀ mg₀ c Pl h' mg' ps ln ((x, P) :: L) (x :: names) → Q .next { s with heap := h', toks := tk }) :
    wpAny (MM w) A (exec st (mainEnv P0 c F)) Q E s := by
  subst hst; exact objT X hnew hloc hnb stb hval k hs
theorem sw12 : swapsWith (valS (stm 12)) (some (.Name (Str.ofString "b1_set") (tgP (stm 12)))) (asP (stm 12)).line (mainEnv P0 c F) = pure false := by kernel_rfl
theorem sw14 : swapsWith (valS (stm 14)) (some (.Name (Str.ofString "b3_exceptions") (tgP (stm 14)))) (asP (stm 14)).line (mainEnv P0 c F) = pure false := by kernel_rfl
structure EvB3 (w : World) (c F : Addr) (e : Expr) : Prop where
  ev : ∀ {A : Around} {E : Value → Shared → Prop} {s : Shared} {Q : Value → Shared → Prop}, sysModules < s.heap.objs.size → (∀ a h₁ tk, s.heap.objs.size ≤ a → B3T w a h₁ → a < h₁.objs.size → (∀ b o', s.heap.get? b = some o' → h₁.get? b = some o') → Q (.ref a) { s with heap := h₁, toks := tk }) →
    wpAny (MM w) A (eval e (mainEnv P0 c F)) Q E s
theorem evB3E (w : World) (c F : Addr) : EvB3 w c F (valS (stm 14)) := by
  constructor
  intro A E s Q h1 h2
  have := @evB3 w A E s c F Q h1 h2
  assumption
set_option maxHeartbeats 4000000 in
theorem top_walk (X : Tp h₀ mg₀ c Pl s.heap mg #[] 0 [] []) (hh : A.handled = none) (hb : h₀.Ns builtinsNs mb) (hbb' : ∀ (x : Str) v, x ≠ "__name__" → bootBuiltins x = some v → mb x = some v) (hoth : ∀ x, x ∉ bootMainNames → mg₀ x = none) (hbig : sysModules < h₀.objs.size)
    (k : ∀ h' tk mg' ps', Tp h₀ mg₀ c Pl h' mg' ps' (psn 22).line (Lall w h₀.objs.size) nall → Q .next { s with heap := h', toks := tk }) :
    wpAny (MM w) A (execs P0.main.body (mainEnv P0 c F)) Q E s := by
  rw [body_eq]
  refine wpAny_execs_cons (strT X (hnewOf (by kernel_rfl)) (by kernel_rfl) (by decide +kernel) fun h0 tk0 mg0 X0 => ?_)
  show wpAny (MM w) A _ Q E { s with heap := h0, toks := tk0 }
  refine wpAny_execs_cons (defT1 X0 (hnewOf (by kernel_rfl)) (by decide +kernel) fun h1 tk1 mg1 ps1 X1 => ?_)
  show wpAny (MM w) A _ Q E { s with heap := h1, toks := tk1 }
  refine wpAny_execs_cons (defT2 X1 (hnewOf (by kernel_rfl)) (by decide +kernel) fun h2 tk2 mg2 ps2 X2 => ?_)
  show wpAny (MM w) A _ Q E { s with heap := h2, toks := tk2 }
  refine wpAny_execs_cons (defT3 X2 (hnewOf (by kernel_rfl)) (by decide +kernel) fun h3 tk3 mg3 ps3 X3 => ?_)
  show wpAny (MM w) A _ Q E { s with heap := h3, toks := tk3 }
  refine wpAny_execs_cons (defT4 X3 (hnewOf (by kernel_rfl)) (by decide +kernel) fun h4 tk4 mg4 ps4 X4 => ?_)
  show wpAny (MM w) A _ Q E { s with heap := h4, toks := tk4 }
  refine wpAny_execs_cons (defT5 X4 (hnewOf (by kernel_rfl)) (by decide +kernel) fun h5 tk5 mg5 ps5 X5 => ?_)
  show wpAny (MM w) A _ Q E { s with heap := h5, toks := tk5 }
  refine wpAny_execs_cons (defT6 X5 (hnewOf (by kernel_rfl)) (by decide +kernel) fun h6 tk6 mg6 ps6 X6 => ?_)
  show wpAny (MM w) A _ Q E { s with heap := h6, toks := tk6 }
  refine wpAny_execs_cons (defT7 X6 (hnewOf (by kernel_rfl)) (by decide +kernel) fun h7 tk7 mg7 ps7 X7 => ?_)
  show wpAny (MM w) A _ Q E { s with heap := h7, toks := tk7 }
  refine wpAny_execs_cons (defT8 X7 (hnewOf (by kernel_rfl)) (by decide +kernel) fun h8 tk8 mg8 ps8 X8 => ?_)
  show wpAny (MM w) A _ Q E { s with heap := h8, toks := tk8 }
  refine wpAny_execs_cons (defT9 X8 (hnewOf (by kernel_rfl)) (by decide +kernel) fun h9 tk9 mg9 ps9 X9 => ?_)
  show wpAny (MM w) A _ Q E { s with heap := h9, toks := tk9 }
  refine wpAny_execs_cons (defN X9 (hnewOf (by kernel_rfl)) d10 d10c hv10 (fun h10 tk10 mg10 ps10 X10 => ?_) (by kernel_rfl) (by decide +kernel) (by kernel_rfl) (by kernel_rfl) (by kernel_rfl) (by kernel_rfl) (by kernel_rfl) (by kernel_rfl) (by decide +kernel) (by kernel_rfl))
  show wpAny (MM w) A _ Q E { s with heap := h10, toks := tk10 }
  refine wpAny_execs_cons (strT X10 (hnewOf (by kernel_rfl)) (by kernel_rfl) (by decide +kernel) fun h11 tk11 mg11 X11 => ?_)
  show wpAny (MM w) A _ Q E { s with heap := h11, toks := tk11 }
  have hb12 : h11.Ns builtinsNs mb := hb.at fun o => X11.keep _ o (Nat.ne_of_lt (Nat.lt_of_le_of_lt (Nat.zero_le _) X11.main.low.2)) (by decide)
  have hm12 : ∀ x, x ∉ bootMainNames → ([Str.ofString "__name__", nm 10, nm 9, nm 8, nm 7, nm 6, nm 5, nm 4, nm 3, nm 2, nm 1, Str.ofString "__name__"] : List Str).contains x = false → mg11 x = none := fun x h1 h2 => (X11.others x (by rw [← List.contains_iff_mem, h2]; exact Bool.false_ne_true)).trans (hoth x h1)
  refine wpAny_execs_cons ?_
  refine objT' (P := B1T w) stm12_shape X11 (hnewOf (by kernel_rfl)) (by kernel_rfl) (by decide +kernel) sw12 (B1T.stab w _) (fun Q' hq => ?_) (fun h12 tk12 mg12 X12 => ?_)
  · exact evSet hh X11.main.g hb12 (hm12 _ (by decide +kernel) (by kernel_rfl)) (hbb' _ _ (by decide +kernel) (by kernel_rfl)) (hm12 _ (by decide +kernel) (by kernel_rfl)) (hbb' _ _ (by decide +kernel) (by kernel_rfl)) (hm12 _ (by decide +kernel) (by kernel_rfl)) (hbb' _ _ (by decide +kernel) (by kernel_rfl)) hq
  show wpAny (MM w) A _ Q E { s with heap := h12, toks := tk12 }
  refine wpAny_execs_cons (defT13 X12 (hnewOf (by kernel_rfl)) (by decide +kernel) fun h13 tk13 mg13 ps13 X13 => ?_)
  show wpAny (MM w) A _ Q E { s with heap := h13, toks := tk13 }
  refine wpAny_execs_cons ?_
  have q1 := stm14_shape
  have q2 := sw14 (c := c) (F := F)
  have q3 := evB3E w c F
  generalize stm 14 = st at q1 q2 q3 ⊢
  generalize valS st = vl at q1 q2 q3
  generalize tgP st = p1 at q1 q2
  generalize asP st = p2 at q1 q2
  refine objT' (P := B3T w) q1 X13 (hnewOf (by kernel_rfl)) (by kernel_rfl) (by decide +kernel) q2 (B3T.stab w _) (fun Q' hq => ?_) (fun h14 tk14 mg14 X14 => ?_)
  · exact q3.ev (Nat.lt_of_lt_of_le hbig X13.grows) hq
  show wpAny (MM w) A _ Q E { s with heap := h14, toks := tk14 }
  refine wpAny_execs_cons (defT15 X14 (hnewOf (by kernel_rfl)) (by decide +kernel) fun h15 tk15 mg15 ps15 X15 => ?_)
  show wpAny (MM w) A _ Q E { s with heap := h15, toks := tk15 }
  refine wpAny_execs_cons (strT X15 (hnewOf (by kernel_rfl)) (by kernel_rfl) (by decide +kernel) fun h16 tk16 mg16 X16 => ?_)
  show wpAny (MM w) A _ Q E { s with heap := h16, toks := tk16 }
  refine wpAny_execs_cons (defT17 X16 (hnewOf (by kernel_rfl)) (by decide +kernel) fun h17 tk17 mg17 ps17 X17 => ?_)
  show wpAny (MM w) A _ Q E { s with heap := h17, toks := tk17 }
  refine wpAny_execs_cons (defT18 X17 (hnewOf (by kernel_rfl)) (by decide +kernel) fun h18 tk18 mg18 ps18 X18 => ?_)
  show wpAny (MM w) A _ Q E { s with heap := h18, toks := tk18 }
  refine wpAny_execs_cons (defT19 X18 (hnewOf (by kernel_rfl)) (by decide +kernel) fun h19 tk19 mg19 ps19 X19 => ?_)
  show wpAny (MM w) A _ Q E { s with heap := h19, toks := tk19 }
  refine wpAny_execs_cons (defT20 X19 (hnewOf (by kernel_rfl)) (by decide +kernel) fun h20 tk20 mg20 ps20 X20 => ?_)
  show wpAny (MM w) A _ Q E { s with heap := h20, toks := tk20 }
  refine wpAny_execs_cons (defT21 X20 (hnewOf (by kernel_rfl)) (by decide +kernel) fun h21 tk21 mg21 ps21 X21 => ?_)
  show wpAny (MM w) A _ Q E { s with heap := h21, toks := tk21 }
  refine wpAny_execs_cons (defT22 X21 (hnewOf (by kernel_rfl)) (by decide +kernel) fun h22 tk22 mg22 ps22 X22 => ?_)
  show wpAny (MM w) A _ Q E { s with heap := h22, toks := tk22 }
  exact wpAny_execs_nil (k _ _ _ _ X22)
end
end
section
open PySem.W
section
variable {w : World} {h₀ h : Heap} {mg₀ mg mb : Str → Option Value} {c Pl : Addr} {ps : Array Value} {ln : Nat}

theorem blts_ok : (blts.all fun p => !bootMainNames.contains (Str.ofString p.1) && !nall.contains (Str.ofString p.1) && (Str.ofString p.1 != ("__name__" : Str))) = true := by decide +kernel
noncomputable def isBlt (p : String × Value) : Prop := bootBuiltins (Str.ofString p.1) = some p.2
theorem blts_boot : ∀ p ∈ blts, isBlt p := by
  intro p hp
  simp only [blts, List.mem_cons, List.not_mem_nil, or_false] at hp
  rcases hp with rfl | rfl | rfl | rfl | rfl | rfl | rfl | rfl | rfl | rfl | rfl | rfl | rfl | rfl <;> (unfold isBlt; kernel_rfl)

theorem lookup_mem {k : String} {v : Value} : ∀ {l : List (String × Value)}, l.lookup k = some v → (k, v) ∈ l
  | [], h => by simp at h
  | (k', v') :: r, h => by
    by_cases e : k = k'
    · subst e; simp at h; subst h; exact List.mem_cons_self
    · have hb : (k == k') = false := by simpa using e
      rw [List.lookup_cons, hb] at h
      exact List.mem_cons_of_mem _ (lookup_mem h)

theorem gd_of (X : Tp h₀ mg₀ c Pl h mg ps ln (Lall w h₀.objs.size) nall) (hb : h.Ns builtinsNs mb) (hbb : ∀ x : Str, x ≠ "__name__" → mb x = bootBuiltins x) (hoth : ∀ x, x ∉ bootMainNames → mg₀ x = none) (hlim : h.NoLimit) : Gd w mg mb h where
  g := X.main.g
  b := hb
  lim := hlim
  fn := fun i hi => by
    have hm : (nm i, FnT h₀.objs.size i) ∈ Lall w h₀.objs.size := by
      simp only [fnIdx, List.mem_cons, List.not_mem_nil, or_false] at hi
      unfold Lall
      rcases hi with rfl | rfl | rfl | rfl | rfl | rfl | rfl | rfl | rfl | rfl | rfl | rfl | rfl | rfl | rfl | rfl | rfl <;> (repeat (first | with_reducible exact List.mem_cons_self | apply List.mem_cons_of_mem))
    obtain ⟨a, _, e, f⟩ := X.made _ hm
    exact ⟨a, e, FnT.fnAt f⟩
  bl := fun k v hk => by
    have hm := lookup_mem hk
    have h1 := List.all_eq_true.mp blts_ok _ hm
    simp only [Bool.and_eq_true, Bool.not_eq_true', bne_iff_ne] at h1
    obtain ⟨⟨h1, h2⟩, h3⟩ := h1
    refine ⟨(X.others _ fun hx => ?_).trans (hoth _ fun hx => ?_), (hbb _ h3).trans (blts_boot _ hm)⟩
    · rw [List.contains_iff_mem.mpr hx] at h2; cases h2
    · rw [List.contains_iff_mem.mpr hx] at h1; cases h1
  b1 := by
    have hm : (Str.ofString "b1_set", B1T w) ∈ Lall w h₀.objs.size := by
      unfold Lall
      repeat (first | with_reducible exact List.mem_cons_self | apply List.mem_cons_of_mem)
    obtain ⟨a, _, e, S, n, f, g⟩ := X.made _ hm
    exact ⟨a, S, n, e, f, g⟩
  b3 := by
    have hm : (Str.ofString "b3_exceptions", B3T w) ∈ Lall w h₀.objs.size := by
      unfold Lall
      repeat (first | with_reducible exact List.mem_cons_self | apply List.mem_cons_of_mem)
    obtain ⟨a, _, e, f, h1, h2, h3, h4⟩ := X.made _ hm
    refine ⟨a, f, e, h1, h2, h3, fun k => ?_⟩
    have := h4 k
    revert this
    generalize b3L.lookup k = o
    intro this
    cases o <;> exact this
  ns := by
    have hm : (nm 10, NsT h₀.objs.size) ∈ Lall w h₀.objs.size := by
      unfold Lall
      repeat (first | with_reducible exact List.mem_cons_self | apply List.mem_cons_of_mem)
    obtain ⟨a, _, e, pm, cc, doc, T, _, _, h1, h2, o, n, h3, h4, h5⟩ := X.made _ hm
    exact ⟨a, pm, cc, doc, T, e, h1, h2, o, n, h3, h4, h5⟩
end

theorem globalNs {h : Heap} {m : Str → Option Value} (hn : h.Ns mainGlobals m) (name : Str) : globalOf h name = m name := by
  obtain ⟨o, es, ep, ho, hd, _, hf⟩ := hn
  have ho' : h.get? mainNs = some o := ho
  unfold globalOf
  rw [ho']
  dsimp only
  rw [hd]
  exact hf name
theorem staticNs {h : Heap} {m : Str → Option Value} (hn : h.Ns cStatics m) (name : Str) : staticOf h name = m name := by
  obtain ⟨o, es, ep, ho, hd, _, hf⟩ := hn
  unfold staticOf
  rw [ho]
  dsimp only
  rw [hd]
  exact hf name
theorem builtinNs {h : Heap} {m : Str → Option Value} (hn : h.Ns builtinsNs m) (name : Str) : builtinOf h name = m name := by
  obtain ⟨o, es, ep, ho, hd, _, hf⟩ := hn
  unfold builtinOf
  rw [ho]
  dsimp only
  rw [hd]
  exact hf name
theorem theDef22 : P0.theDef (nm 22) = some (prm 22, bdy 22, scp 22) := by kernel_rfl
theorem kw22 : kwWritten? (prm 22).kwonlyargs (prm 22).kw_defaults = some [] := by kernel_rfl
theorem df22 : (prm 22).defaults = [] := by kernel_rfl
theorem pin_law {h₀ h : Heap} {w : World} {mg₀ mg : Str → Option Value} {c Pl : Addr} {ps : Array Value} {ln : Nat} (X : Tp h₀ mg₀ c Pl h mg ps ln (Lall w h₀.objs.size) nall) : isTheDefsW P0 h (nm 22) := by
  have hm : (nm 22, FnT h₀.objs.size 22) ∈ Lall w h₀.objs.size := by
    unfold Lall
    repeat (first | with_reducible exact List.mem_cons_self | apply List.mem_cons_of_mem)
  obtain ⟨a, _, e, pm, cc, doc, _, h1, _⟩ := X.made _ hm
  exact ⟨a, _, _, _, _, _, (globalNs X.main.g _).trans e, h1, rfl, theDef22, rfl, rfl, rfl, rfl, rfl, rfl, rfl, rfl, .inl ⟨df22, rfl⟩, [], kw22, .inl ⟨rfl, rfl⟩⟩

theorem open0 (w : World) : (∃ s, AfterImport (opening P0) w s) ∧ ∀ s, AfterImport (opening P0) w s → Ready [] [] [] [] s :=
  AfterImport.of_body (prog := opening P0) (body_ok_of (by kernel_rfl) (by kernel_rfl) fun s mg c Pl F A Q X k => by
    show wpAny _ _ (execs [] _) _ _ _
    exact wpAny_execs_nil (k s.heap mg #[] s.toks X)) (by kernel_rfl)
theorem behind_eq : behindTheImports P0 = P0.main.body := by kernel_rfl
theorem anns_none : hasAnns P0.main.body = false := by kernel_rfl
theorem doc_none : docOf P0.main.body = none := by kernel_rfl
theorem names_bound : (nall.all fun x => P0.boundNames.contains x) = true := by decide +kernel
theorem laid_free : (laidNames.all fun x => !nall.contains x) = true := by decide +kernel
theorem boot_startup : (bootMainNames.all fun x => startupNames.contains x) = true := by decide +kernel

theorem top_ran (w : World) (s : Shared) (hs : AfterImport (opening P0) w s) : ∃ s₁ mg mb, TopRan P0 w s s₁ ∧ s₁.asleep ∧ s₁.gens = #[] ∧ isTheDefsW P0 s₁.heap (nm 22) ∧ s₁.heap.isNs mainGlobals = true ∧ Gd w mg mb s₁.heap ∧ sysModules < s₁.heap.objs.size := by
  obtain ⟨N, mg₀, mb, hg, hb, hbb, hlim, hgens, _, _, hoth, hst, _, _, hbm, hseer⟩ := (open0 w).2 s hs
  have hz : s.asleep := hs.life
  obtain ⟨bm, ob, hbm1, hbm2, hbm3, hbm4, hbm5, hbm6⟩ := hbm
  have hstlt : cStatics < s.heap.objs.size := hst.lt
  have hglt : mainGlobals < s.heap.objs.size := hg.lt
  have hbmg : bm ≠ mainGlobals := by
    rintro rfl
    obtain ⟨o, _, _, ho, hd, _⟩ := hg
    rw [hbm3] at ho; cases ho; rw [hbm6] at hd; cases hd
  have run := run_through (p := P0) (w := w) (s := s) (t := (topStub P0).cur)
    (R := fun f s' => ∃ h₀ c Pl h' tk mg' ps', s' = { s with heap := h', toks := tk } ∧ (∀ b o, s.heap.get? b = some o → h₀.get? b = some o) ∧ s.heap.objs.size ≤ Pl ∧ Tp h₀ mg₀ c Pl h' mg' ps' (psn 22).line (Lall w h₀.objs.size) nall) hz ?_
  · obtain ⟨m, t₁, s₁, f, hm, ht, hl, ⟨h₀, c, Pl, h', tk, mg', ps', rfl, k0, hPl, X⟩, hge⟩ := run
    have keep : ∀ b o, b ≠ mainGlobals → s.heap.get? b = some o → h'.get? b = some o := fun b o hb e => X.keep b o (Nat.ne_of_lt (Nat.lt_of_lt_of_le (Heap.lt_size e) hPl)) hb (k0 b o e)
    have hst' : h'.Ns cStatics (fun _ => none) := hst.at fun o => keep _ o (by decide)
    have hb' : h'.Ns builtinsNs mb := hb.at fun o => keep _ o (by decide)
    have nm0 : ∀ x, x ∉ bootMainNames → mg₀ x = none := fun x hx => hoth x (by simp) hx
    refine ⟨_, mg', mb, ⟨⟨m, t₁, hm, ht⟩, hl, Shared.rest_eq rfl, fun b o e hn => keep b o (fun q => hn (.inl q)) e, fun key v hv => ?_, fun key => .inl ?_, ?_, fun name hn => ?_, ?_, fun g hgm => ?_, fun x v hx => ?_, fun x hx => ?_⟩,
      Shared.asleep_of_life hl hz, hge, pin_law X, ?_, gd_of X hb' hbb nm0 ⟨_, hst', rfl⟩, Nat.lt_trans (by decide : sysModules < mainGlobals) X.main.g.lt⟩
    · rw [staticNs hst'] at hv; cases hv
    · rw [staticNs hst', staticNs hst]
    · obtain ⟨o, es, ep, ho, hd, hk, _⟩ := X.main.g
      exact ⟨o, es, ep, ho, hd, hk⟩
    · exact (builtinNs hb' name).trans (hbb name hn)
    · obtain ⟨bm', o, h1, _, _, _, h5, h6, h7, _⟩ := X.main.bmod
      exact ⟨bm', o, (globalNs X.main.g _).trans h1, h5, h6, h7⟩
    · have hge' : s.gens = #[] := hge
      have : g ∈ s.gens := hgm
      rw [hge'] at this
      simp at this
    · rw [globalNs X.main.g] at hx
      by_cases hn : x ∈ nall
      · exact .inr (List.contains_iff_mem.mp (List.all_eq_true.mp names_bound x hn))
      · rw [X.others x hn] at hx
        by_cases hb0 : x ∈ bootMainNames
        · exact .inl (List.contains_iff_mem.mp (List.all_eq_true.mp boot_startup x hb0))
        · rw [nm0 x hb0] at hx; cases hx
    · have := List.all_eq_true.mp laid_free x hx
      have hn : x ∉ nall := fun h => by rw [List.contains_iff_mem.mpr h] at this; cases this
      exact (globalNs X.main.g x).trans ((X.others x hn).trans (globalNs hg x).symm)
    · obtain ⟨o, es, ep, ho, hd, hk, _⟩ := X.main.g
      show Heap.isNs h' mainGlobals = true
      unfold Heap.isNs
      rw [ho]
      dsimp only
      rw [hd]
      simp only [Array.all_eq_true_iff_forall_mem]
      intro e he
      obtain ⟨n, t, e1⟩ := hk e he
      rw [e1]
  · show wpAny _ _ (moduleCode P0.main >>= fun code => newBodyFrame code mainNs mainNs >>= fun frame => run (.body (behindTheImports P0) { scope := P0.main.scope, locals := mainNs, globals := mainNs, cells := [], code, frame := some frame }) >>= fun _ => ret .none) _ _ _
    refine wpAny_bind (wpAny_moduleCode fun c Pl h1 tk1 k1 hc hPl hcode => ?_)
    unfold newBodyFrame
    refine wpAny_bind (wpAny_bind (wpAny_nsGet (hg.keeps k1) (wpAny_alloc ?_)))
    have k2 : ∀ b o, s.heap.get? b = some o → (h1.push { cls := .type "frame", slots := #[some (Value.ref c), some (.ref mainNs), some (.ref mainNs), none, some ((mg₀ "__name__").getD .none), none, some (.ref builtinsNs)] }).get? b = some o := fun b o e => Heap.get?_push_of_some _ (k1 b o e)
    have hPl1 : Pl < h1.objs.size := hcode.lt.2
    refine wpAny_bind (wpAny_run ?_)
    rw [behind_eq]
    refine codeAny_body anns_none doc_none ?_
    have X0 : Tp (h1.push { cls := .type "frame", slots := #[some (Value.ref c), some (.ref mainNs), some (.ref mainNs), none, some ((mg₀ "__name__").getD .none), none, some (.ref builtinsNs)] }) mg₀ c Pl (h1.push { cls := .type "frame", slots := #[some (Value.ref c), some (.ref mainNs), some (.ref mainNs), none, some ((mg₀ "__name__").getD .none), none, some (.ref builtinsNs)] }) mg₀ #[] 0 [] [] := by
      refine ⟨⟨hg.keeps k2, hcode.push _, ⟨Nat.lt_of_lt_of_le hglt hc, Nat.lt_of_lt_of_le hglt hPl⟩, ⟨bm, ob, hbm1, hbm2, hbmg, Nat.ne_of_lt (Nat.lt_of_lt_of_le (Heap.lt_size hbm3) hPl), k2 _ _ hbm3, hbm4, hbm5, hbm6⟩⟩, fun _ _ _ _ e => e, ?_, ?_, Nat.le_refl _, fun p hp => (by simp at hp), fun p hp => (by simp at hp), fun _ _ => rfl, fun _ _ => rfl⟩
      · rw [Heap.size_push]; exact Nat.lt_succ_of_lt hPl1
      · exact (hg.keeps k2).lt
    refine wpAny_mono (E := fun _ _ => False) (top_walk (mb := mb) (Q := fun f s' => f = .next ∧ ∃ h' tk mg' ps', s' = { s with heap := h', toks := tk } ∧ Tp _ mg₀ c Pl h' mg' ps' (psn 22).line (Lall w _) nall) X0 rfl (hb.keeps k2) (fun x v hx hv => (hbb x hx).trans hv) (fun x hx => hoth x (by simp) hx) ?_ fun h' tk mg' ps' X => ⟨rfl, h', tk, mg', ps', rfl, X⟩) ?_ fun _ _ x => x.elim
    · exact Nat.lt_trans (by decide : sysModules < mainGlobals) (hg.keeps k2).lt
    · rintro f s' ⟨rfl, h', tk, mg', ps', rfl, X⟩
      exact wpAny_pure ⟨_, rfl, ⟨_, c, Pl, h', tk, mg', ps', rfl, k2, hPl, X⟩, hgens⟩
end
section
open PySem.W
/-- what a call of the law does -/
noncomputable def LawSpec : Prop := ∀ {w : World} {A : Around} {E : Value → Shared → Prop} {s : Shared} {mg mb : Str → Option Value} {fa lp : Addr} {its : Array Value} {ns : List Int} {Q : Value → Shared → Prop},
  Rm A 10 → FnAt s.heap 22 fa → Gd w mg mb s.heap → s.heap.IsList lp its → IntsAre its.toList ns → ns.length ≤ 63 →
  (∀ h' tk, (∀ b o, s.heap.get? b = some o → h'.get? b = some o) → Q (.bool true) { s with heap := h', toks := tk }) → wpAny (MM w) A (call (.ref fa) [.ref lp]) Q E s

theorem ints_of {R : WRecords} {cl : Str → Option Addr} {h : Heap} : ∀ {vs : List Value} {xs : List WData} {as : List Addr}, ReadsAllW R cl h vs xs as → (∀ x ∈ xs, ∃ i, x = .int i) → ∃ ns, IntsAre vs ns ∧ ns.length = xs.length
  | _, _, _, .nil, _ => ⟨[], .nil, rfl⟩
  | _, _, _, .cons (v := v) (d := d) h1 h2, hx => by
    obtain ⟨i, e⟩ := hx d (by simp)
    subst e
    obtain ⟨ns, h3, h4⟩ := ints_of h2 fun x hm => hx x (by simp [hm])
    cases h1 with
    | int _ t => exact ⟨i :: ns, .cons i t h3, by simp [h4]⟩

theorem items_of {R : WRecords} {e : WShape} : ∀ {xs : List WData}, WShape.hasItems R xs e = true → ∀ x ∈ xs, WShape.has R x e = true
  | [], _, x, h => by simp at h
  | y :: r, h, x, hx => by
    have h' : WShape.has R y e = true ∧ WShape.hasItems R r e = true := by simpa [WShape.hasItems] using h
    rcases List.mem_cons.mp hx with rfl | hx
    · exact h'.1
    · exact items_of h'.2 x hx
theorem law_args {R : WRecords} {args : List WData} (h : WShape.hasAll R args [.list .int] = true) : ∃ xs, args = [.list xs] ∧ ∀ x ∈ xs, ∃ i, x = .int i := by
  obtain ⟨d, r, rfl, h1, h2⟩ := hasAllW_cons h
  obtain rfl := hasAllW_nil h2
  obtain ⟨xs, rfl, h3⟩ := hasW_list h1
  exact ⟨xs, rfl, fun x hx => hasW_int (items_of h3 x hx)⟩

noncomputable abbrev RR : RowW := PySem.Challenge.rw_mq0400_01.row.toRowW
theorem prog_rr : RR.prog = P0 := rfl
theorem name22 : RR.name = nm 22 := by kernel_rfl
theorem pre_len {xs : List WData} (h : RR.claim.pre [.list xs] = true) : xs.length ≤ 63 := by
  have h1 := (pre_splitW h).2
  unfold WTm.holds at h1
  have e : RR.pre = .and (.not (.lt (.lit (.int 63)) (.len (.arg 0)))) (.lit (.bool true)) := rfl
  rw [e, w_and (w_not (w_lt w_lit (w_len_list (w_arg rfl)))) w_lit] at h1
  by_cases q : (63 : Int) < xs.length
  · rw [decide_eq_true q] at h1; cases h1
  · omega
theorem post_true {args ds : List WData} : RR.claim.post args (.bool true) ds = true := by
  show (WShape.has RR.records (.bool true) .bool && WTm.holds RR.records (.eq .res (.lit (.bool true))) { args := args, res := some (.bool true), after := ds }) = true
  unfold WTm.holds
  rw [w_eq_bool (w_res rfl) w_lit]
  rfl
theorem bare0 : P0.bare := by
  refine ⟨rfl, rfl, rfl, rfl, rfl, by decide +kernel⟩
theorem opens0 : opensWell P0 = true := by decide +kernel

theorem holds_by (H : LawSpec) : RR.claim.HoldsOpenBy (callStub RR.name) [RR.name] PySem.Challenge.rw_mq0400_01.row.keeps false := by
  refine ⟨⟨bare0, opens0, rfl⟩, ⟨[.list []], by decide +kernel, by decide +kernel⟩, fun w => ⟨(open0 w).1, fun s' hs' => ?_⟩⟩
  obtain ⟨s, mg, mb, T, hz, hgens, hpin, hns, G, hbig⟩ := top_ran w s' hs'
  have hg' : s'.gens = #[] := by
    obtain ⟨_, _, _, _, _, _, _, hgens, _⟩ := (open0 w).2 s' hs'
    exact hgens
  refine ⟨s', rfl, hg', s, T, ?_, fun x hx => (by cases hx), fun x hx => (by cases hx), ?_⟩
  · intro n hn
    rw [List.mem_singleton.mp hn, name22]
    exact hpin
  refine ClaimW.callFrom_of_specG (c := RR.claim) (tree := fun vs => do match ← nsGet mainNs RR.name with
      | some f => do ret (← PySem.call f vs)
      | none => unsupported "claim.caller:no-such-global") hz hgens fun args hpre hlay ord hord => ?_
  obtain ⟨xs, rfl, hint⟩ := law_args (pre_splitW hpre).1
  have hlen := pre_len hpre
  obtain ⟨⟨vs, s₁⟩, hlaid⟩ := Option.isSome_iff_exists.mp (layAllW_isSome (P := w.params) (ord := ord) (R := RR.claim.records) (cl := classAt s.heap) (fun c hc => (nomatch hc)) [.list xs] RR.args s (pre_splitW hpre).1)
  have keeps := layAllW_keeps _ _ _ hlaid
  have hal := layAllW_rest _ _ _ hlaid
  obtain ⟨as, hrd, hin, hold⟩ := reads_layAllW hord _ _ _ hlaid hlay s₁.heap (fun _ _ e => e)
  have L : Laid RR.claim.records w s s₁ [.list xs] vs as := ⟨⟨ord, hord, hlaid⟩, hrd, hin, hold, keeps, hal.1.trans hgens, hal.2.2.1⟩
  have G₁ := G.keeps keeps
  obtain ⟨fa, hfa, hat⟩ := G₁.fn 22 (by decide)
  refine ⟨vs, s₁, hlaid, ?_⟩
  have hv : ∃ lp its ns, vs = [.ref lp] ∧ s₁.heap.IsList lp its ∧ IntsAre its.toList ns ∧ ns.length ≤ 63 := by
    clear hlaid L
    cases hrd with
    | cons h1 h2 =>
      cases h2
      cases h1 with
      | list ho hc hd hr =>
        obtain ⟨ns, h3, h4⟩ := ints_of hr hint
        exact ⟨_, _, ns, rfl, ⟨_, ho, hc, _, hd⟩, h3, by rw [h4]; exact hlen⟩
  obtain ⟨lp, its, ns, rfl, hl, hi, hn⟩ := hv
  refine wpAny_bind (wpAny_nsGet G₁.g ?_)
  rw [name22, hfa]
  refine wpAny_bind (wpAny_mono (E := fun _ _ => False) (H (mg := mg) (mb := mb) (E := fun _ _ => False) (Q := fun v s₂ => v = .bool true ∧ ∃ h' tk, s₂ = { s₁ with heap := h', toks := tk } ∧ ∀ b o, s₁.heap.get? b = some o → h'.get? b = some o)
    ⟨rfl, by decide, by decide⟩ hat G₁ hl hi hn fun h' tk kk => ⟨rfl, h', tk, rfl, kk⟩) ?_ fun _ _ x => x.elim)
  rintro v s₂ ⟨rfl, h', tk, rfl, kk⟩
  refine wpAny_pure ⟨_, rfl, ?_⟩
  have gw : GoodW RR.claim (classAt s.heap) (ExcName.means s.heap) [.list xs] s₁ (.ok (.ret (.bool true))) { s₁ with heap := h', toks := tk } :=
    ⟨.inl ⟨_, .bool true, [], rfl, fun cls => rfl, .bool true, post_true, fun _ => ⟨.nil, by simp⟩⟩, kk, rfl, hal.1.trans hgens⟩
  have z := gw.toG.laid (c := RR.claim) rfl rfl (ident_freeW (r := RR) rfl rfl rfl) L
  exact ⟨z.1, z.2.1, z.2.2, fun q => by cases q⟩
end
section
open PySem.W PySem.SeqAt
section
variable {w : World} {A : Around} {E : Value → Shared → Prop} {s : Shared} {mg mb : Str → Option Value} {g : Heap} {L fa : Addr} {l : List (String × Value)} {env : Env}

/-- a slice of a list that we do not know whole -/
theorem sliceXI {value slice : Expr} {lp : Addr} {its : Array Value} {zs : List Value} {vl vu : Value} {lo hi : Option Int} {Q : Value → Shared → Prop} (F : Fx g L s.heap l) (hl : g.IsList lp its) (pl : IsPart vl lo) (pu : IsPart vu hi)
    (hz : kms_pick its.toList lo hi = zs) (hsz : its.size < 2 ^ 20)
    (h : ∀ g' h' D, Fx g' L h' l → g'.PlainList D zs.toArray → (∀ b o, g.get? b = some o → g'.get? b = some o) → g.get? D = none → Q (.ref D) { s with heap := h' })
    (hs : subscripted slice false (.ref lp) (.ref s.heap.objs.size) = operate [.ref s.heap.objs.size, .ref lp] (getItem (.ref lp) (.ref s.heap.objs.size)) := by with_unfolding_all rfl)
    (ht : ∀ r, letTemporaryGo value (.ref lp) r = pure () := by intro _; with_unfolding_all rfl) :
    wpAny (MM w) A (subscriptTail value slice (.ref lp) (.ref s.heap.objs.size)) Q E { s with heap := s.heap.push { cls := .type "slice", data := .fields #[vl, vu, .none] } } := by
  refine slice_listK (hl.at fun o e => F.keep _ o e) pl pu ?_ hs ht (by rw [sizeLine_eq]; omega)
  obtain ⟨g1, F1, o1, k1, n1, _⟩ := F.push { cls := .type "slice", data := .fields #[vl, vu, .none] }
  obtain ⟨g2, F2, o2, k2, n2, _⟩ := F1.push { cls := .type "list", data := .seq (slicePick its lo hi none) }
  rw [Heap.size_push] at o2 n2
  rw [kms_pick_eq, hz] at *
  refine h g2 _ _ F2 ⟨_, o2⟩ (fun b o e => k2 _ _ (k1 _ _ e)) ?_
  cases e : g.get? (s.heap.objs.size + 1) with
  | none => rfl
  | some o => rw [k1 _ _ e] at n2; cases n2

theorem addX {a b : Addr} {vs ws : List Value} {Q : Value → Shared → Prop} (F : Fx g L s.heap l) (ha : g.PlainList a vs.toArray) (hb : g.PlainList b ws.toArray) (hsz : vs.length + ws.length ≤ 2 ^ 20)
    (h : ∀ g' h' D, Fx g' L h' l → g'.PlainList D (vs ++ ws).toArray → (∀ b o, g.get? b = some o → g'.get? b = some o) → g.get? D = none → Q (.ref D) { s with heap := h' }) :
    wpAny (MM w) A (binaryOp .Add (.ref a) (.ref b)) Q E s := by
  refine addL (F.list ha).isList (F.list hb).isList ?_ hsz
  obtain ⟨g1, F1, o1, k1, n1, _⟩ := F.push (lstObj (vs ++ ws))
  exact h g1 _ _ F1 (plain_obj o1) k1 n1

noncomputable def NameAtA (D : Addr) (g : Heap) (tp : Addr) (sp : List Nat) : Prop := Nm sp ∧ D < tp ∧ ∃ t hp vs, D < hp ∧ g.get? tp = some (tupObj [sv sp t, .ref hp]) ∧ g.PlainList hp vs.toArray ∧ SL vs (headsOf sp)
theorem NameAtA.mono {D : Addr} {g g' : Heap} {tp : Addr} {sp : List Nat} (x : NameAtA D g tp sp) (k : ∀ b o, D < b → g.get? b = some o → g'.get? b = some o) : NameAtA D g' tp sp := by
  obtain ⟨hn, h1, t, hp, vs, h2, h3, ⟨n, h4⟩, h5⟩ := x
  exact ⟨hn, h1, t, hp, vs, h2, k _ _ h1 h3, ⟨n, k _ _ h2 h4⟩, h5⟩
theorem NameAtA.at {D : Addr} {g : Heap} {tp : Addr} {sp : List Nat} (x : NameAtA D g tp sp) : NameAt g tp sp := by
  obtain ⟨hn, h1, t, hp, vs, h2, h3, h4, h5⟩ := x
  exact ⟨hn, t, hp, vs, h3, h4, h5⟩
theorem allInt {zs ys : List Value} {ms : List Int} {bp : Addr} (hms : IntsAre zs ms) (hy : ∀ v ∈ ys, ∃ x t, v = .int x t) (hl : g.PlainList bp (zs ++ ys).toArray) :
    ∃ bs : List Value, g.PlainList bp bs.toArray ∧ (∀ v ∈ bs, ∃ x t, v = .int x t) ∧ bs.length = zs.length + ys.length := by
  refine ⟨zs ++ ys, hl, fun v hv => ?_, by simp⟩
  rcases List.mem_append.mp hv with hv | hv
  · obtain ⟨i, hi, rfl⟩ := List.getElem_of_mem hv
    obtain ⟨t, e⟩ := hms.int_at i zs[i] (List.getElem?_eq_getElem hi)
    exact ⟨_, t, e⟩
  · exact hy v hv
/-- the names made so far -/
noncomputable def DrawnJ (D : Addr) (i : Nat) (ws : List Value) (g : Heap) : Prop :=
  ∃ (tps : List Addr) (sps : List (List Nat)), ws = tps.map Value.ref ∧ tps.length = i ∧ sps.length = i ∧ ∀ (j : Nat) tp sp, tps[j]? = some tp → sps[j]? = some sp → NameAtA D g tp sp

set_option maxHeartbeats 1000000 in
theorem law_s0 {scp c : Addr} {its : Array Value} {ns : List Int} {pm doc : Value} {Q : Flow → Shared → Prop} (R : Rm A 4) (G : Gd w mg mb g) (F : Fx g L s.heap l) (hlk : l.lookup "script" = some (.ref scp)) (hl : g.IsList scp its) (hi : IntsAre its.toList ns) (hlen : ns.length ≤ 63)
    (hQ : ∀ g' h' tk dp sps, Fx g' L h' (put l "drawn" (.ref dp)) → NamesAt g' dp sps → (∀ sp ∈ sps, Nm sp) → 4 ≤ sps.length → sps.length ≤ 10 → (∀ b o, g.get? b = some o → g'.get? b = some o) → Q .next { s with heap := h', toks := tk }) :
    wpAny (MM w) A (exec (stN 22 0) (callEnv (fdOf 22 .none pm (.ref c) doc) L fa)) Q E s := by
  have hil : its.size = ns.length := by have := hi.length; simpa using this
  obtain ⟨zs, hzs⟩ : ∃ zs, kms_pick its.toList (some 1) (some 7) = zs := ⟨_, rfl⟩
  have hz : (∃ ms, IntsAre zs ms) ∧ zs.length ≤ 6 := by
    rw [← hzs]
    unfold kms_pick
    refine ⟨⟨_, (hi.drop _).take _⟩, ?_⟩
    rw [List.length_take]
    unfold kms_lo kms_hi
    simp only [show ¬ ((1 : Int) < 0) by decide, show ¬ ((7 : Int) < 0) by decide, if_false, show (1 : Int).toNat = 1 from rfl, show (7 : Int).toNat = 7 from rfl]
    refine Nat.le_trans (Nat.min_le_left _ _) ?_
    omega
  obtain ⟨⟨ms, hms⟩, hz6⟩ := hz
  refine compA (L := L) (x := "drawn") (cl := []) (closureFor_none (by decide +kernel)) ?_
  refine wpAny_BinOp ?_
  refine Subscript_ ?_
  refine ldL F hlk ?_
  refine sliceE ?_
  refine evalPart_some_step (wpAny_Constant_int ?_)
  refine evalPart_some_step (wpAny_Constant_int ?_)
  refine sliceXI F hl (.int _ _) (.int _ _) hzs (by omega) fun g1 h1 zp F1 hl1 k1 n1 => ?_
  refine listF (L := L) ?_
  refine evs_cons (wpAny_Constant_int ?_)
  refine evs_cons (wpAny_Constant_int ?_)
  refine evs_cons (wpAny_Constant_int ?_)
  refine evs_cons (wpAny_Constant_int ?_)
  refine evs_nil ⟨Nat.le_of_ble_eq_true rfl, _, _, F1, fun g2 h2 yp F2 e2 k2 n2 l2 => ?_⟩
  clear l2
  refine addX F2 (hl1.at fun o e => k2 _ o e) (plain_obj e2) (by simp; omega) fun g3 h3 bp F3 hl3 k3 n3 => ?_
  have hk3 : ∀ b o, g.get? b = some o → g3.get? b = some o := fun b o e => k3 _ _ (k2 _ _ (k1 _ _ e))
  obtain ⟨bs, hl3, hall, hbl⟩ := allInt hms (fun v hv => by
    simp only [List.mem_cons, List.not_mem_nil, or_false] at hv
    rcases hv with rfl | rfl | rfl | rfl <;> exact ⟨_, _, rfl⟩) hl3
  have hbl : bs.length = zs.length + 4 := hbl
  have G3 := G.keeps hk3
  refine lstIterX F3 hl3 R.h fun I h4 F4 W st self hfp hwr => ?_
  refine ⟨g3, l, F4, self, iterCore (s₂ := { s with heap := h4, toks := _ }) (W _) F4 st hfp hwr (by simp; omega) DrawnJ ?_ ?_ ?_ ?_ ?_⟩
  · exact fun D g => ⟨[], [], rfl, rfl, rfl, fun j tp sp e => by simp at e⟩
  · rintro D i vs g ⟨tps, sps, rfl, h1, _, _⟩
    simp [h1]
  · rintro D i vs g g' ⟨tps, sps, rfl, h1, h2, h3⟩ k
    exact ⟨tps, sps, rfl, h1, h2, fun j tp sp e1 e2 => (h3 j tp sp e1 e2).mono k⟩
  · intro E₁ D C i g' h tk ws v hi' Fg hid hp hD hj hk Kx kx
    obtain ⟨x, tx, rfl⟩ := hall v (List.mem_of_getElem? (by simpa using hp))
    have Gg := G3.keeps hk
    walk_at "S"
    rename_i h5 F5
    refine callFn 18 F5 Gg fun b fb => ?_
    refine evs_cons ?_
    refine wpAny_BinOp ?_
    refine callTy F5 Gg (by (simp only [blts, List.lookup, String.reduceBEq] <;> rfl)) ?_
    walk_at "ev"
    refine evs_nil ?_
    refine call_int_int ?_
    refine wpAny_Constant_int ?_
    refine mod_int (by decide) ?_
    have hx0 : 0 ≤ x.fmod 32768 := Int.fmod_nonneg_of_pos _ (by decide)
    have hx1 : x.fmod 32768 < 32768 := Int.fmod_lt_of_pos _ (by decide)
    rw [show x.fmod 32768 = (((x.fmod 32768).toNat : Nat) : Int) by omega]
    refine evs_nil ⟨fun c o e _ => F5.keep c o e, ?_⟩
    refine spec_name (R.le (by omega)) (fb.keeps F5.keep) (Gg.keeps F5.keep) (by omega) fun h7 tk7 sp t7 tp hpp vs7 k7 hnm ho7 hl7 hs7 fr7 => ?_
    have F7 := F5.re (h' := h7) fun o e => k7 _ _ e
    have kh : ∀ b o, b ≠ C → h7.get? b = some o → (h7.hide C).get? b = some o := fun b o hb e => (Heap.hide_ne _ hb).trans e
    have kg7 : ∀ b o, g'.get? b = some o → (h7.hide C).get? b = some o := fun b o e => kh b o (Fg.ne e) (k7 _ _ (F5.keep _ _ e))
    obtain ⟨oC, hoC⟩ : ∃ o, h5.get? C = some o := by obtain ⟨m, ⟨o, _, _, ho, _⟩, _⟩ := F5.ns; exact ⟨o, ho⟩
    obtain ⟨oD, hoD⟩ := hD
    have frC := fr7 C oC hoC
    have frD := fr7 D oD (F5.keep _ _ hoD)
    obtain ⟨tps, sps, rfl, e1, e2, e3⟩ := hj
    refine kx _ (h7.hide C) h7 tk7 _ F7 kg7 ⟨tps ++ [tp], sps ++ [sp], by simp, by simp [e1], by simp [e2], fun j tp' sp' a1 a2 => ?_⟩
    rcases Nat.lt_or_ge j i with hji | hji
    · rw [List.getElem?_append_left (by omega)] at a1 a2
      exact (e3 j tp' sp' a1 a2).mono fun b o _ e => kg7 b o e
    · rw [List.getElem?_append_right (by omega)] at a1 a2
      have : j = i := by
        have := lt_of_get a1
        simp at this; omega
      subst this
      rw [e1, Nat.sub_self] at a1
      rw [e2, Nat.sub_self] at a2
      cases a1; cases a2
      exact ⟨hnm, frD.1, t7, hpp, vs7, frD.2, kh _ _ (Nat.ne_of_gt frC.1) ho7, hl7.at fun o e => kh _ o (Nat.ne_of_gt frC.2) e, hs7⟩
  · intro D g' h' tk' ws hlD hj hk hLD hDg g'' h'' tk'' F'' k''
    obtain ⟨tps, sps, rfl, e1, e2, e3⟩ := hj
    have en : bs.toArray.size = bs.length := by simp
    have upD : ∀ b o, D < b → g'.get? b = some o → g''.get? b = some o := fun b o hb e => k'' b o (Nat.ne_of_gt (Nat.lt_trans hLD hb)) e
    refine hQ g'' h'' tk'' D sps F'' ⟨tps, hlD.at fun o e => k'' _ o (Nat.ne_of_gt hLD) e, by omega, fun j tp sp a1 a2 => ((e3 j tp sp a1 a2).mono upD).at⟩ (fun sp hsp => ?_) (by omega) (by omega) fun b o e => k'' b o (F.ne e) (hk b o (hk3 b o e))
    obtain ⟨j, hj, rfl⟩ := List.getElem_of_mem hsp
    exact (e3 j _ _ (List.getElem?_eq_getElem (by omega)) (List.getElem?_eq_getElem hj)).1
end
end
section
open PySem.W PySem.SeqAt
section
variable {w : World} {A : Around} {E : Value → Shared → Prop} {s : Shared} {mg mb : Str → Option Value} {g : Heap} {L fa : Addr} {l : List (String × Value)} {env : Env}

theorem law_s1 {scp dp c : Addr} {its ds : Array Value} {ns : List Int} {n : Nat} {pm doc : Value} {Q : Flow → Shared → Prop} (R : Rm A 4) (G : Gd w mg mb g) (F : Fx g L s.heap l) (hlk : l.lookup "script" = some (.ref scp)) (hlkd : l.lookup "drawn" = some (.ref dp))
    (hl : g.IsList scp its) (hi : IntsAre its.toList ns) (hlen : ns.length ≤ 63) (hd : g.PlainList dp ds) (hdn : ds.size = n) (hn4 : 4 ≤ n) (hn10 : n ≤ 10)
    (hQ : ∀ h' tk wn t, Fx g L h' (put l "wanted" (.int (wn : Nat) t)) → 1 ≤ wn → wn ≤ n → Q .next { s with heap := h', toks := tk }) :
    wpAny (MM w) A (exec (stN 22 1) (callEnv (fdOf 22 .none pm (.ref c) doc) L fa)) Q E s := by
  have hil : its.size = ns.length := by have := hi.length; simpa using this
  have hls : s.heap.IsList scp its := hl.at fun o e => F.keep _ o e
  refine wpAny_Assign_Name ?_
  refine wpAny_IfExp ?_
  refine wpAny_isTrue_value ?_
  refine ldL F hlk ?_
  refine wpAny_truthy_list hls (by omega) ?_
  cases hemp : its.isEmpty with
  | true =>
    simp only [Bool.not_true, Bool.false_eq_true, if_false]
    refine wpAny_Constant_int ?_
    refine stL (s := { s with toks := _ }) F fun h' F' => ?_
    exact hQ h' _ 2 _ F' (by omega) (by omega)
  | false =>
    simp only [Bool.not_false, if_true]
    have h0 : 0 < its.size := by
      rcases Nat.eq_zero_or_pos its.size with h | h
      · have : its.isEmpty = true := by simpa using h
        rw [hemp] at this; cases this
      · exact h
    obtain ⟨t0, ht0⟩ := hi.int_at 0 its[0] (by simp [h0])
    refine wpAny_BinOp ?_
    refine wpAny_Constant_int ?_
    refine wpAny_BinOp ?_
    have F1 : Fx g L ({ s with toks := s.toks + 1 } : Shared).heap l := F
    refine callTy F1 G (by (simp only [blts, List.lookup, String.reduceBEq] <;> rfl)) ?_
    refine evs_cons ?_
    refine Subscript_ ?_
    refine ldL F1 hlk ?_
    refine wpAny_Constant_int ?_
    refine item_list (x := its[0]) hls (by decide) (by decide) (by simp [h0]) ?_
    rw [ht0]
    refine evs_nil ?_
    refine call_int_int ?_
    have F2 : Fx g L ({ s with toks := s.toks + 1 + 1 } : Shared).heap l := F
    refine callBl F2 G (by (simp only [blts, List.lookup, String.reduceBEq] <;> rfl)) ?_
    refine evs_cons (ldL F2 hlkd ?_)
    refine evs_nil ?_
    refine len_list (F2.list hd).isList (by omega) ?_
    rw [hdn]
    refine mod_int (by omega) ?_
    generalize ns.getD 0 0 = x
    have hx0 : 0 ≤ x.fmod (n : Int) := Int.fmod_nonneg_of_pos _ (by omega)
    have hx1 : x.fmod (n : Int) < n := Int.fmod_lt_of_pos _ (by omega)
    refine P.add_int ?_
    rw [show (1 : Int) + x.fmod (n : Int) = ((1 + (x.fmod (n : Int)).toNat : Nat) : Int) by omega]
    refine stL (s := { s with toks := _ }) F fun h' F' => ?_
    exact hQ h' _ _ _ F' (by omega) (by omega)

theorem Put3.snoc' {D : Addr} {g g' : Heap} {vs : List Value} {ds : List T3} {p : Addr} {d : T3} {t1 t2 t3 : Tok} (x : Put3 D [] g vs ds) (k : ∀ b o, g.get? b = some o → g'.get? b = some o) (hp : D < p) (e : g'.get? p = some (tupObj [sv d.1 t1, .int d.2.1 t2, .int d.2.2 t3])) :
    Put3 D [] g' (vs ++ [.ref p]) (ds ++ [d]) := (x.mono fun b o _ _ e => k b o e).snoc ⟨p, t1, t2, t3, hp, by simp, rfl, e⟩

noncomputable def initOf (n i : Nat) : List T3 := (List.range i).map fun j => ([], 0, n - 1 - j)
theorem initOf_succ (n i : Nat) : initOf n (i + 1) = initOf n i ++ [([], 0, n - 1 - i)] := by simp [initOf, List.range_succ]

set_option maxHeartbeats 1000000 in
theorem law_s2 {dp c : Addr} {ds : Array Value} {n : Nat} {pm doc : Value} {Q : Flow → Shared → Prop} (R : Rm A 4) (G : Gd w mg mb g) (F : Fx g L s.heap l) (hlkd : l.lookup "drawn" = some (.ref dp))
    (hd : g.PlainList dp ds) (hdn : ds.size = n) (hn4 : 4 ≤ n) (hn10 : n ≤ 10)
    (hQ : ∀ g' h' tk hp (xs : List V3), Fx g' L h' (put l "heap" (.ref hp)) → (K3 w).Is g' hp xs → xs.map Prod.snd = initOf n n → (∀ b o, g.get? b = some o → g'.get? b = some o) → g.get? hp = none → Q .next { s with heap := h', toks := tk }) :
    wpAny (MM w) A (exec (stN 22 2) (callEnv (fdOf 22 .none pm (.ref c) doc) L fa)) Q E s := by
  refine compA (L := L) (x := "heap") (cl := []) (closureFor_none (by decide +kernel)) ?_
  refine callTy F G (by (simp only [blts, List.lookup, String.reduceBEq] <;> rfl)) ?_
  refine evs_cons ?_
  refine callTy F G (by (simp only [blts, List.lookup, String.reduceBEq] <;> rfl)) ?_
  refine evs_cons ?_
  refine callBl F G (by (simp only [blts, List.lookup, String.reduceBEq] <;> rfl)) ?_
  refine evs_cons (ldL F hlkd ?_)
  refine evs_nil ?_
  refine len_list (F.list hd).isList (by omega) ?_
  rw [hdn]
  refine evs_nil ?_
  refine rangeX (s := { s with toks := _ }) F fun g2 h2 a2 t1 t2 tk2 F2 o2 k2 n2 => ?_
  refine evs_nil ?_
  refine revRangeX (s := { s with heap := h2, toks := tk2 }) F2 o2 (by omega) fun g3 h3 it F3 o3 k3 n3 => ?_
  have hit : IsRangeIter h3 it ((n : Int) - 1) n (-1) := F3.keep _ _ o3
  refine wpAny_pyIter_rangeiter hit ?_
  -- a ghost without the iterator
  have hL3 : ∀ b o, (g3.hide it).get? b = some o → h3.get? b = some o := fun b o e => F3.keep _ _ (Heap.of_hide e)
  have F4 : Fx (g3.hide it) L h3 l := F3.ghost hL3 (by
    cases e : (g3.hide it).get? L with
    | none => rfl
    | some o => have := Heap.of_hide e; rw [F3.noL] at this; cases this)
  have up : ∀ b o, g.get? b = some o → (g3.hide it).get? b = some o := fun b o e => (Heap.hide_ne _ (by rintro rfl; rw [k2 _ _ e] at n3; cases n3)).trans (k3 _ _ (k2 _ _ e))
  have hitL : it ≠ L := F3.ne o3
  have W := Walks.range (prog := P0) (w := w) (A := A) R.h it ((n : Int) - 1) (-1) n
  have st : IsRangeIter h3 it ((n : Int) - 1 + ((0 : Nat) : Int) * (-1)) ((n : Int) - ((0 : Nat) : Int)) (-1) := by
    rw [show (n : Int) - 1 + ((0 : Nat) : Int) * (-1) = (n : Int) - 1 by omega, show (n : Int) - ((0 : Nat) : Int) = n by omega]; exact hit
  have kt : ∀ x p, KTurns P0 w A (.Name x p) it [it] [it] n (fun i v _ => ∃ t, v = .int ((n : Int) - 1 + i * (-1)) t) (fun i v h => (∃ t, v = .int ((n : Int) - 1 + i * (-1)) t) ∧ IsRangeIter h it ((n : Int) - 1 + ((i + 1 : Nat) : Int) * (-1)) ((n : Int) - ((i + 1 : Nat) : Int)) (-1)) (fun i h => IsRangeIter h it ((n : Int) - 1 + (i : Nat) * (-1)) ((n : Int) - (i : Nat)) (-1)) := fun x p =>
    turnsName (target := .Name x p) W (by intro v; rfl)
  refine ⟨g3.hide it, l, F4, fun E₁ Q' h5 tk5 k5 hq => wpAny_pyIter_rangeiter (k5 _ _ hit) hq, iterCore (s₂ := { s with heap := h3, toks := tk2 }) (kt _ _) F4 st (all1 (Heap.lt_size hit)) (fun b hb => by rw [List.mem_singleton.mp hb]; exact ⟨Heap.hide_self _ _, hitL⟩) (by omega) (fun D i ws g' => Put3 D [] g' ws (initOf n i)) ?_ ?_ ?_ ?_ ?_⟩
  · exact fun D g => ⟨rfl, fun i d e => by simp [initOf] at e⟩
  · intro D i vs g hj; rw [hj.1]; simp [initOf]
  · exact fun D i vs g g' hj k => hj.mono fun b o hb _ e => k b o hb e
  · intro E₁ D C i g' h tk ws v hi' Fg hid hp hD hj hk Kx kx
    obtain ⟨tx, rfl⟩ := hp
    rw [show (n : Int) - 1 + (i : Int) * (-1) = ((n - 1 - i : Nat) : Int) by omega]
    walk_at "S"
    rename_i h5 F5
    refine tupF (L := C) ?_
    walk_at "ev"; walk_at "ev"; walk_at "ev"
    refine evs_nil ⟨Nat.le_of_ble_eq_true rfl, _, _, F5, fun ga ha p Fa ea ka na la => ?_⟩
    obtain ⟨oD, hoD⟩ := hD
    refine kx _ ga ha _ _ Fa ka ?_
    rw [initOf_succ]
    exact hj.snoc' (d := ([], 0, n - 1 - i)) ka (la _ _ (F5.keep _ _ hoD)) ea
  · intro D g' h' tk' ws hlD hj hk hLD hDg g'' h'' tk'' F'' k''
    have hj' : Put3 D [] g'' ws (initOf n n) := hj.mono fun b o hb _ e => k'' b o (Nat.ne_of_gt (Nat.lt_trans hLD hb)) e
    have hlD' : g''.PlainList D ws.toArray := hlD.at fun o e => k'' _ o (Nat.ne_of_gt hLD) e
    refine hQ g'' h'' tk'' D (ws.zip (initOf n n)) F'' (hj'.is hlD') (List.map_snd_zip (by rw [hj'.1]; exact Nat.le_refl _)) (fun b o e => k'' b o (F.ne e) (hk b o (up b o e))) ?_
    cases e : g.get? D with
    | none => rfl
    | some o => rw [up _ _ e] at hDg; cases hDg

theorem law_s3 {hp c : Addr} {xs : List V3} {pm doc : Value} {Q : Flow → Shared → Prop} (R : Rm A 5) (G : Gd w mg mb g) (F : Fx g L s.heap l) (hlk : l.lookup "heap" = some (.ref hp)) (hx : (K3 w).Is g hp xs) (hsz : xs.length < 1000)
    (hQ : ∀ g' h' tk, Fx g' L h' l → (K3 w).Is g' hp (hfy (fun a b : V3 => lt3 a.2 b.2) (xs.length / 2) xs) → (∀ b o, b ≠ hp → g.get? b = some o → g'.get? b = some o) → Q .next { s with heap := h', toks := tk }) :
    wpAny (MM w) A (exec (stN 22 3) (callEnv (fdOf 22 .none pm (.ref c) doc) L fa)) Q E s := by
  refine wpAny_Expr_any ?_
  refine callFn 3 F G fun b fb => ?_
  refine evs_cons (ldL F hlk ?_)
  refine evs_nil ⟨fun c o e _ => F.keep c o e, ?_⟩
  refine spec_heapify (K := K3 w) (R.le (by omega)) (fb.keeps F.keep) (G.keeps F.keep) (hx.keeps F.keep) (Nat.lt_trans hsz (by decide)) fun h' tk' k' i' => ?_
  obtain ⟨F2, k2, k3⟩ := F.change (h' := h') (list_ne hx.1 F.noL) k'
  refine hQ _ h' tk' F2 ⟨i'.1.at fun o e => k3 _ o (list_ne hx.1 F.noL) e, fun x hm => ?_⟩ k2
  have hm' : x ∈ xs := (hfy_perm _ _ _).mem_iff.mp hm
  exact (K3 w).ext (hx.2 x hm') (plain_nt hx.1) k2

theorem law_s4 {c : Addr} {pm doc : Value} {Q : Flow → Shared → Prop} (R : Rm A 2) (F : Fx g L s.heap l)
    (hQ : ∀ g' h' tk tp op, Fx g' L h' (put (put l "told" (.ref op)) "tops" (.ref tp)) → g'.PlainList tp ([] : List Value).toArray → g'.PlainList op ([] : List Value).toArray → (∀ b o, g.get? b = some o → g'.get? b = some o) → g.get? tp = none → g.get? op = none → tp ≠ op → Q .next { s with heap := h', toks := tk }) :
    wpAny (MM w) A (exec (stN 22 4) (callEnv (fdOf 22 .none pm (.ref c) doc) L fa)) Q E s := by
  refine Assign_Tuple_swapped (names := [Str.ofString "tops", Str.ofString "told"]) ?_ (by kernel_rfl) (by kernel_rfl)
  refine tupF (L := L) ?_
  refine evs_cons ?_
  refine listF (L := L) ?_
  refine evs_nil ⟨Nat.le_of_ble_eq_true rfl, _, _, F, fun g2 h2 tp F2 e2 k2 n2 l2 => ?_⟩
  refine evs_cons ?_
  refine listF (L := L) ?_
  refine evs_nil ⟨Nat.le_of_ble_eq_true rfl, _, _, F2, fun g3 h3 op F3 e3 k3 n3 l3 => ?_⟩
  refine evs_nil ⟨Nat.le_of_ble_eq_true rfl, _, _, F3, fun g4 h4 up F4 e4 k4 n4 l4 => ?_⟩
  clear l2 l3 l4
  refine unpackItemsX F4 R.h (isTup_obj e4) rfl fun h5 F5 => ?_
  show wpAny _ _ (assignInOrder [bindName _ (Str.ofString "told"), bindName _ (Str.ofString "tops")] [_, _]) _ _ _
  refine assignInOrder_cons ?_
  refine bindName_ ?_
  refine stL (s := { s with heap := h5, toks := _ }) F5 fun h6 F6 => ?_
  refine assignInOrder_cons ?_
  refine bindName_ ?_
  refine stL (s := { s with heap := h6, toks := _ }) F6 fun h7 F7 => ?_
  refine assignInOrder_nil ?_
  refine hQ g4 h7 _ tp op F7 (plain_obj (k4 _ _ (k3 _ _ e2))) (plain_obj (k4 _ _ e3)) (fun b o e => k4 _ _ (k3 _ _ (k2 _ _ e))) n2 ?_ ?_
  · cases e : g.get? op with
    | none => rfl
    | some o => rw [k2 _ _ e] at n3; cases n3
  · rintro rfl; rw [e2] at n3; cases n3
end
end
section
open List
noncomputable def lenOf (sps : List (List Nat)) (i : Nat) : Nat := (sps.getD i []).length
noncomputable def entry (sps : List (List Nat)) (i k : Nat) : T3 := (letL ((sps.getD i []).take k), k, i)
/-- the heads of its name that are not gone yet -/
noncomputable def rem1 (sps : List (List Nat)) (d : T3) : List T3 := (entriesOf d.2.2 (sps.getD d.2.2 [])).drop d.2.1
noncomputable def rem (sps : List (List Nat)) (H : List T3) : List T3 := H.flatMap (rem1 sps)

theorem lt_append {a b : List Nat} (h : b ≠ []) : a < a ++ b := by
  induction a with
  | nil =>
    cases b with
    | nil => exact absurd rfl h
    | cons x r => exact List.nil_lt_cons x r
  | cons x r ih => exact List.cons_lt_cons_iff.mpr (.inr ⟨rfl, ih⟩)
theorem lt_entry {sps : List (List Nat)} {i k : Nat} (hk : k < lenOf sps i) : lt3 (entry sps i k) (entry sps i (k + 1)) = true := by
  unfold lenOf at hk
  obtain ⟨c, hc⟩ : ∃ c, (sps.getD i [])[k]? = some c := ⟨_, List.getElem?_eq_getElem hk⟩
  have e : letL ((sps.getD i []).take (k + 1)) = letL ((sps.getD i []).take k) ++ (lettersOf c).cps.toList := by
    rw [List.take_add_one, hc, ← letL_snoc]; rfl
  unfold lt3 entry
  dsimp only
  rw [e]
  by_cases h : (lettersOf c).cps.toList = []
  · rw [h, List.append_nil, if_pos rfl, if_neg (by omega)]
    simp
  · rw [if_neg (fun q => h (by simpa using q.symm))]
    simpa using lt_append h
theorem lt_entry_le {sps : List (List Nat)} {i k m : Nat} (hm : k + m ≤ lenOf sps i) (h0 : 0 < m) : lt3 (entry sps i k) (entry sps i (k + m)) = true := by
  induction m with
  | zero => omega
  | succ m ih =>
    rcases Nat.eq_zero_or_pos m with rfl | hp
    · exact lt_entry (by omega)
    · exact tot3.tr _ _ _ (ih (by omega) hp) (lt_entry (k := k + m) (by omega))
theorem entriesOf_eq (sps : List (List Nat)) (i : Nat) : entriesOf i (sps.getD i []) = (List.range (lenOf sps i + 1)).map (entry sps i) := by
  refine List.ext_getElem? fun k => ?_
  rcases Nat.lt_or_ge k (lenOf sps i + 1) with h | h
  · rw [entriesOf_get (by unfold lenOf at h; omega)]
    simp [h, entry]
  · rw [List.getElem?_eq_none (by rw [entriesOf_len]; exact h), List.getElem?_eq_none (by simpa using h)]
theorem rem1_entry {sps : List (List Nat)} {i k : Nat} (h : k ≤ lenOf sps i) : rem1 sps (entry sps i k) = entry sps i k :: (if k < lenOf sps i then rem1 sps (entry sps i (k + 1)) else []) := by
  unfold rem1
  show (entriesOf i (sps.getD i [])).drop k = _ :: (if k < lenOf sps i then (entriesOf i (sps.getD i [])).drop (k + 1) else [])
  rw [entriesOf_eq]
  have hl : k < ((List.range (lenOf sps i + 1)).map (entry sps i)).length := by simp; omega
  rw [List.drop_eq_getElem_cons hl]
  congr 1
  · simp
  · split
    · rfl
    · rw [List.drop_of_length_le (by simp; omega)]
theorem rem1_mem {sps : List (List Nat)} {i k : Nat} {r : T3} (h : r ∈ rem1 sps (entry sps i k)) : ∃ m, k + m ≤ lenOf sps i ∧ r = entry sps i (k + m) := by
  unfold rem1 at h
  change r ∈ (entriesOf i (sps.getD i [])).drop k at h
  rw [entriesOf_eq] at h
  obtain ⟨j, hj, rfl⟩ := List.getElem_of_mem h
  simp only [List.length_drop, List.length_map, List.length_range] at hj
  refine ⟨j, by omega, ?_⟩
  rw [List.getElem_drop]
  simp

structure Mg (sps : List (List Nat)) (wn : Nat) (H tops : List T3) (told : List Nat) : Prop where
  hent : ∀ d ∈ H, ∃ i k, i < sps.length ∧ k ≤ lenOf sps i ∧ d = entry sps i k
  part : (H.map (·.2.2) ++ told).Perm (List.range sps.length)
  all : (tops ++ rem sps H).Perm (rowOf sps)
  srt : tops.Pairwise fun a b => lt3 a b = true
  below : ∀ a ∈ tops, ∀ d ∈ H, lt3 a d = true
  tld : told = (tops.filter (isWhole sps)).map (·.2.2)
  le : told.length ≤ wn
  fin : told.length = wn → ∃ ts d, tops = ts ++ [d] ∧ isWhole sps d = true

variable {sps : List (List Nat)} {wn : Nat} {H H' tops : List T3} {told : List Nat}
theorem Mg.nd (M : Mg sps wn H tops told) : (H.map (·.2.2)).Nodup := (List.nodup_append.mp (M.part.nodup_iff.mpr List.nodup_range)).1
theorem whole_entry (i k : Nat) : isWhole sps (entry sps i k) = decide (k = lenOf sps i) := rfl
theorem Mg.above {d : T3} {rest : List T3} (M : Mg sps wn H tops told) (hH : H.Perm (d :: rest)) (hmin : ∀ e ∈ H, lt3 e d = false) : ∀ e ∈ rest, lt3 d e = true := fun e he => by
  have h1 := hmin e (hH.mem_iff.mpr (List.mem_cons_of_mem _ he))
  rcases tot3.tri d e with h | h | h
  · exact h
  · exfalso
    have := (hH.map (·.2.2)).nodup_iff.mp M.nd
    rw [List.map_cons] at this
    exact (List.nodup_cons.mp this).1 (by rw [h]; exact List.mem_map.mpr ⟨e, he, rfl⟩)
  · rw [h1] at h; cases h
theorem rem_perm {A B : List T3} (h : A.Perm B) : (rem sps A).Perm (rem sps B) := h.flatMap_right _
/-- one head more is read -/
theorem Mg.next {i k : Nat} {rest : List T3} (M : Mg sps wn H tops told) (hH : H.Perm (entry sps i k :: rest)) (hmin : ∀ e ∈ H, lt3 e (entry sps i k) = false) (hi : i < sps.length) (hk : k < lenOf sps i) (hlt : told.length < wn) (hH' : H'.Perm (entry sps i (k + 1) :: rest)) :
    Mg sps wn H' (tops ++ [entry sps i k]) told where
  hent := fun d hd => by
    rcases List.mem_cons.mp (hH'.mem_iff.mp hd) with rfl | hd
    · exact ⟨i, k + 1, hi, hk, rfl⟩
    · exact M.hent d (hH.mem_iff.mpr (List.mem_cons_of_mem _ hd))
  part := by
    refine .trans (.append_right _ ?_) M.part
    exact (hH'.map (·.2.2)).trans (hH.map (·.2.2)).symm
  all := by
    refine .trans ?_ M.all
    rw [List.append_assoc]
    refine .append_left _ ?_
    have e : rem sps (entry sps i k :: rest) = entry sps i k :: (rem1 sps (entry sps i (k + 1)) ++ rem sps rest) := by
      unfold rem
      rw [List.flatMap_cons, rem1_entry (Nat.le_of_lt hk), if_pos hk]; rfl
    refine .trans ?_ (rem_perm hH).symm
    rw [e]
    exact .cons _ (rem_perm hH')
  srt := by
    rw [List.pairwise_append]
    refine ⟨M.srt, by simp, fun a ha b hb => ?_⟩
    rw [List.mem_singleton.mp hb]
    exact M.below a ha _ (hH.mem_iff.mpr List.mem_cons_self)
  below := fun a ha d hd => by
    have hd' : d = entry sps i (k + 1) ∨ d ∈ rest := List.mem_cons.mp (hH'.mem_iff.mp hd)
    rcases List.mem_append.mp ha with ha | ha
    · have h1 := M.below a ha _ (hH.mem_iff.mpr List.mem_cons_self)
      rcases hd' with rfl | hd
      · exact tot3.tr _ _ _ h1 (lt_entry hk)
      · exact M.below a ha d (hH.mem_iff.mpr (List.mem_cons_of_mem _ hd))
    · rw [List.mem_singleton.mp ha]
      rcases hd' with rfl | hd
      · exact lt_entry hk
      · exact M.above hH hmin d hd
  tld := by
    rw [List.filter_append, M.tld]
    have : isWhole sps (entry sps i k) = false := by rw [whole_entry]; simp; omega
    simp [this]
  le := M.le
  fin := fun h => by omega
/-- a whole name is told -/
theorem Mg.pop {i : Nat} {rest : List T3} (M : Mg sps wn H tops told) (hH : H.Perm (entry sps i (lenOf sps i) :: rest)) (hmin : ∀ e ∈ H, lt3 e (entry sps i (lenOf sps i)) = false) (hlt : told.length < wn) (hH' : H'.Perm rest) :
    Mg sps wn H' (tops ++ [entry sps i (lenOf sps i)]) (told ++ [i]) where
  hent := fun d hd => M.hent d (hH.mem_iff.mpr (List.mem_cons_of_mem _ (hH'.mem_iff.mp hd)))
  part := by
    refine .trans ?_ M.part
    rw [← List.append_assoc]
    refine .trans List.perm_append_comm ?_
    rw [← List.append_assoc]
    refine .append_right _ ?_
    have h2 := (hH.map fun d : T3 => d.2.2).symm
    exact (List.Perm.cons i (hH'.map fun d : T3 => d.2.2)).trans h2
  all := by
    refine .trans ?_ M.all
    rw [List.append_assoc]
    refine .append_left _ ?_
    have e : rem sps (entry sps i (lenOf sps i) :: rest) = entry sps i (lenOf sps i) :: rem sps rest := by
      unfold rem
      rw [List.flatMap_cons, rem1_entry (Nat.le_refl _), if_neg (Nat.lt_irrefl _)]; rfl
    refine .trans ?_ (rem_perm hH).symm
    rw [e]
    exact .cons _ (rem_perm hH')
  srt := by
    rw [List.pairwise_append]
    refine ⟨M.srt, by simp, fun a ha b hb => ?_⟩
    rw [List.mem_singleton.mp hb]
    exact M.below a ha _ (hH.mem_iff.mpr List.mem_cons_self)
  below := fun a ha d hd => by
    have hd' := hH'.mem_iff.mp hd
    rcases List.mem_append.mp ha with ha | ha
    · exact M.below a ha d (hH.mem_iff.mpr (List.mem_cons_of_mem _ hd'))
    · rw [List.mem_singleton.mp ha]
      exact M.above hH hmin d hd'
  tld := by
    rw [List.filter_append, List.map_append, M.tld]
    have h1 : isWhole sps (entry sps i (lenOf sps i)) = true := by rw [whole_entry]; simp
    have h2 : [entry sps i (lenOf sps i)].filter (isWhole sps) = [entry sps i (lenOf sps i)] := by rw [List.filter_cons, if_pos h1]; rfl
    rw [h2]; rfl
  le := by rw [List.length_append, List.length_singleton]; exact hlt
  fin := fun _ => ⟨tops, _, rfl, by rw [whole_entry]; simp⟩
theorem range_rev (n : Nat) : ((List.range n).map fun j => n - 1 - j).Perm (List.range n) := by
  have : ((List.range n).map fun j => n - 1 - j) = (List.range n).reverse := by
    refine List.ext_getElem (by simp) fun i h1 h2 => ?_
    simp
  rw [this]; exact List.reverse_perm _
theorem zip_flat (sps : List (List Nat)) : rowOf sps = (List.range sps.length).flatMap fun i => entriesOf i (sps.getD i []) := by
  unfold rowOf
  have : sps.zipIdx = (List.range sps.length).map fun i => (sps.getD i [], i) := by
    refine List.ext_getElem (by simp) fun i h1 h2 => ?_
    have : i < sps.length := by simpa using h1
    simp [List.getD, this]
  rw [this, List.flatMap_map]
theorem Mg.init (hn : 1 ≤ wn) (hH : H.Perm (initOf sps.length sps.length)) : Mg sps wn H [] [] where
  hent := fun d hd => by
    obtain ⟨j, hj, rfl⟩ := List.mem_map.mp (hH.mem_iff.mp hd)
    have := List.mem_range.mp hj
    exact ⟨sps.length - 1 - j, 0, by omega, Nat.zero_le _, rfl⟩
  part := by
    rw [List.append_nil]
    refine (hH.map (·.2.2)).trans ?_
    unfold initOf
    rw [List.map_map]
    exact range_rev _
  all := by
    rw [List.nil_append, zip_flat]
    refine (rem_perm hH).trans ?_
    have e : rem sps (initOf sps.length sps.length) = ((List.range sps.length).map fun j => sps.length - 1 - j).flatMap fun i => entriesOf i (sps.getD i []) := by
      unfold rem initOf
      rw [List.flatMap_map, List.flatMap_map]; rfl
    rw [e]
    exact (range_rev _).flatMap_right _
  srt := .nil
  below := fun a ha => by simp at ha
  tld := rfl
  le := Nat.zero_le _
  fin := fun h => by simp at h; omega

/-- two sorted lists of the same elements are one list -/
theorem sorted_eq {α : Type} {lt : α → α → Bool} (T : Tot lt) : ∀ {A B : List α}, A.Perm B → A.Pairwise (fun a b => lt b a = false) → B.Pairwise (fun a b => lt b a = false) → A = B
  | [], B, h, _, _ => (List.nil_perm.mp h).symm
  | a :: A, [], h, _, _ => by have := h.length_eq; simp at this
  | a :: A, b :: B, h, h1, h2 => by
    obtain ⟨ha, h1'⟩ := List.pairwise_cons.mp h1
    obtain ⟨hb, h2'⟩ := List.pairwise_cons.mp h2
    have e : a = b := by
      rcases T.tri a b with q | q | q
      · have hm : a ∈ b :: B := h.mem_iff.mp List.mem_cons_self
        rcases List.mem_cons.mp hm with e | hm
        · exact e
        · have := hb a hm; rw [q] at this; cases this
      · exact q
      · have hm : b ∈ a :: A := h.mem_iff.mpr List.mem_cons_self
        rcases List.mem_cons.mp hm with e | hm
        · exact e.symm
        · have := ha b hm; rw [q] at this; cases this
    subst e
    rw [sorted_eq T (h.cons_inv) h1' h2']

theorem exists_sorted {α : Type} {lt : α → α → Bool} (T : Tot lt) (A : List α) : ∃ B : List α, B.Perm A ∧ B.Pairwise fun a b => lt b a = false := by
  induction A with
  | nil => exact ⟨[], .refl _, .nil⟩
  | cons a A ih =>
    obtain ⟨B, hp, hs⟩ := ih
    refine ⟨B.filter (fun x => lt x a) ++ a :: B.filter (fun x => !lt x a), ?_, ?_⟩
    · refine .trans List.perm_middle ?_
      refine .cons _ (.trans ?_ hp)
      exact List.filter_append_perm (fun x => lt x a) B
    · rw [List.pairwise_append, List.pairwise_cons]
      refine ⟨hs.filter _, ⟨fun x hx => ?_, hs.filter _⟩, fun x hx y hy => ?_⟩
      · have := (List.mem_filter.mp hx).2; simpa using this
      · have h1 : lt x a = true := by have := (List.mem_filter.mp hx).2; simpa using this
        rcases List.mem_cons.mp hy with rfl | hy
        · exact T.asym h1
        · have h2 : lt y a = false := by have := (List.mem_filter.mp hy).2; simpa using this
          cases e : lt y x with
          | false => rfl
          | true => have := T.tr _ _ _ e h1; rw [h2] at this; cases this

/-- what was told is the beginning of the row -/
theorem Mg.row {ys : List T3} (M : Mg sps wn H tops told) (hp : ys.Perm (rowOf sps)) (hs : ys.Pairwise fun a b => lt3 b a = false) : ∃ zs, zs.Perm (rem sps H) ∧ zs.Pairwise (fun a b => lt3 b a = false) ∧ ys = tops ++ zs := by
  obtain ⟨zs, hz, hzs⟩ := exists_sorted tot3 (rem sps H)
  refine ⟨zs, hz, hzs, sorted_eq tot3 ?_ hs ?_⟩
  · exact hp.trans (M.all.symm.trans (List.Perm.append_left _ hz.symm))
  · rw [List.pairwise_append]
    refine ⟨M.srt.imp fun h => tot3.asym h, hzs, fun a ha r hr => ?_⟩
    obtain ⟨d, hd, hr⟩ := List.mem_flatMap.mp (hz.mem_iff.mp hr)
    obtain ⟨i, k, hi, hk, rfl⟩ := M.hent d hd
    obtain ⟨m, hm, rfl⟩ := rem1_mem hr
    have h1 := M.below a ha _ hd
    rcases Nat.eq_zero_or_pos m with rfl | h0
    · exact tot3.asym h1
    · exact tot3.asym (tot3.tr _ _ _ h1 (lt_entry_le hm h0))
end
section
open List
variable {sps : List (List Nat)} {wn : Nat} {H H' tops : List T3} {told : List Nat}

theorem row_mem {d : T3} (h : d ∈ rowOf sps) : ∃ i k, i < sps.length ∧ k ≤ lenOf sps i ∧ d = entry sps i k := by
  rw [zip_flat] at h
  obtain ⟨i, hi, hd⟩ := List.mem_flatMap.mp h
  rw [entriesOf_eq] at hd
  obtain ⟨k, hk, rfl⟩ := List.mem_map.mp hd
  exact ⟨i, k, List.mem_range.mp hi, Nat.lt_succ_iff.mp (List.mem_range.mp hk), rfl⟩
theorem LI_entry (i j : Nat) : lt3 (entry sps i (lenOf sps i)) (entry sps j (lenOf sps j)) = LI sps i j := by
  have e : ∀ i, entry sps i (lenOf sps i) = ((kOf sps i).1, (kOf sps i).2, i) := fun i => by
    unfold entry kOf lenOf
    rw [List.take_of_length_le (Nat.le_refl _)]
  rw [e, e]
  unfold lt3 LI lt2
  by_cases h1 : (kOf sps i).1 = (kOf sps j).1 <;> by_cases h2 : (kOf sps i).2 = (kOf sps j).2 <;> simp [h1, h2, Prod.ext_iff]

theorem Mg.topmem (M : Mg sps wn H tops told) {a : T3} (h : a ∈ tops) : ∃ i k, i < sps.length ∧ k ≤ lenOf sps i ∧ a = entry sps i k :=
  row_mem (M.all.mem_iff.mp (List.mem_append_left _ h))
theorem Mg.toldmem (M : Mg sps wn H tops told) {i : Nat} (h : i ∈ told) : entry sps i (lenOf sps i) ∈ tops := by
  rw [M.tld] at h
  obtain ⟨a, ha, rfl⟩ := List.mem_map.mp h
  obtain ⟨h1, h2⟩ := List.mem_filter.mp ha
  obtain ⟨i, k, hi, hk, rfl⟩ := M.topmem h1
  rw [whole_entry] at h2
  have : k = lenOf sps i := by simpa using h2
  subst this
  exact h1
theorem Mg.small (M : Mg sps wn H tops told) (he : told.length = wn) : Small sps wn told where
  len := he
  lt := fun i hi => List.mem_range.mp (M.part.mem_iff.mp (List.mem_append_right _ hi))
  pw := by
    rw [M.tld, List.pairwise_map]
    refine (M.srt.filter _).imp_of_mem ?_
    intro a b ha hb h
    obtain ⟨a1, a2⟩ := List.mem_filter.mp ha
    obtain ⟨b1, b2⟩ := List.mem_filter.mp hb
    obtain ⟨i, k, hi, hk, rfl⟩ := M.topmem a1
    obtain ⟨j, m, hj, hm, rfl⟩ := M.topmem b1
    rw [whole_entry] at a2 b2
    obtain rfl : k = lenOf sps i := by simpa using a2
    obtain rfl : m = lenOf sps j := by simpa using b2
    rw [LI_entry] at h
    exact h
  best := fun i hi j hj hn => by
    have h1 := M.toldmem hi
    have h2 : j ∈ H.map (·.2.2) := by
      rcases List.mem_append.mp (M.part.mem_iff.mpr (List.mem_range.mpr hj)) with h | h
      · exact h
      · exact absurd h hn
    obtain ⟨d, hd, rfl⟩ := List.mem_map.mp h2
    obtain ⟨j, k, hj', hk, rfl⟩ := M.hent d hd
    have h3 := M.below _ h1 _ hd
    show LI sps i j = true
    rw [← LI_entry]
    rcases Nat.eq_zero_or_pos (lenOf sps j - k) with h0 | h0
    · have : k = lenOf sps j := by omega
      rw [this] at h3; exact h3
    · have := lt_entry_le (sps := sps) (i := j) (k := k) (m := lenOf sps j - k) (by omega) h0
      rw [show k + (lenOf sps j - k) = lenOf sps j by omega] at this
      exact tot3.tr _ _ _ h3 this

theorem Small.nd {n : Nat} {q : List Nat} (S : Small sps n q) : q.Nodup := S.pw.imp fun h e => by subst e; rw [(totLI sps).irr] at h; cases h
theorem len_of_sub : ∀ {a b : List Nat}, a.Nodup → (∀ y ∈ a, y ∈ b) → a.length ≤ b.length
  | [], _, _, _ => Nat.zero_le _
  | x :: a, b, hn, h => by
    obtain ⟨h1, h2⟩ := List.nodup_cons.mp hn
    have hx := h x List.mem_cons_self
    have := len_of_sub (a := a) (b := b.erase x) h2 fun y hy => (List.mem_erase_of_ne (by rintro rfl; exact h1 hy)).mpr (h y (List.mem_cons_of_mem _ hy))
    rw [List.length_erase_of_mem hx] at this
    have : 0 < b.length := List.length_pos_of_mem hx
    rw [List.length_cons]; omega
theorem exists_notin : ∀ {a b : List Nat}, a.Nodup → b.length ≤ a.length → (∃ x ∈ b, x ∉ a) → b.Nodup → ∃ y ∈ a, y ∉ b := by
  intro a b ha hl ⟨x, hx, hxa⟩ hb
  false_or_by_contra
  rename_i hc
  have hsub : ∀ y ∈ a, y ∈ b.erase x := fun y hy => by
    have hyb : y ∈ b := by
      false_or_by_contra
      rename_i h
      exact hc ⟨y, hy, h⟩
    exact (List.mem_erase_of_ne (by rintro rfl; exact hxa hy)).mpr hyb
  have hle : a.length ≤ (b.erase x).length := len_of_sub ha hsub
  rw [List.length_erase_of_mem hx] at hle
  have : 0 < b.length := List.length_pos_of_mem hx
  omega
theorem Small.uniq {n : Nat} {q r : List Nat} (S : Small sps n q) (T : Small sps n r) : q = r := by
  have key : ∀ {q r : List Nat}, Small sps n q → Small sps n r → ∀ x ∈ q, x ∈ r := by
    intro q r S T x hx
    false_or_by_contra
    rename_i hn
    obtain ⟨y, hy, hyq⟩ := exists_notin T.nd (by rw [S.len, T.len]; exact Nat.le_refl _) ⟨x, hx, hn⟩ S.nd
    have h1 := S.best x hx y (T.lt y hy) hyq
    have h2 := T.best y hy x (S.lt x hx) hn
    have := (totLI sps).asym h1
    rw [h2] at this; cases this
  refine sorted_eq (totLI sps) ((List.perm_ext_iff_of_nodup S.nd T.nd).mpr fun x => ⟨key S T x, key T S x⟩) (S.pw.imp fun h => (totLI sps).asym h) (T.pw.imp fun h => (totLI sps).asym h)

theorem filter_len {α : Type} (p : α → Bool) (d0 : α) (ts rest : List α) : ((List.range ts.length).filter fun k => p ((ts ++ rest).getD k d0)).length = (ts.filter p).length := by
  have e : ts = (List.range ts.length).map fun k => (ts ++ rest).getD k d0 := by
    refine List.ext_getElem (by simp) fun i h1 h2 => ?_
    rw [List.getElem_map, List.getElem_range, List.getD_eq_getElem?_getD, List.getElem?_append_left h1, List.getElem?_eq_getElem h1]; rfl
  have h : (ts.filter p).length = (((List.range ts.length).map fun k => (ts ++ rest).getD k d0).filter p).length := congrArg (fun l => (List.filter p l).length) e
  rw [h, List.filter_map, List.length_map]; rfl

/-- where the row is cut -/
theorem Mg.cut {zs ys : List T3} {k : Nat} (M : Mg sps wn H tops told) (he : told.length = wn) (hn : 1 ≤ wn) (hy : ys = tops ++ zs) (hk : (wholes sps ys ys.length)[wn - 1]? = some k) : k + 1 = tops.length := by
  obtain ⟨ts, d, e, hw⟩ := M.fin he
  have hc : (ts.filter (isWhole sps)).length = wn - 1 := by
    have h1 : (tops.filter (isWhole sps)).length = wn := by
      have := congrArg List.length M.tld
      rw [List.length_map] at this
      omega
    rw [e, List.filter_append, List.length_append] at h1
    have : ([d].filter (isWhole sps)).length = 1 := by rw [List.filter_cons, if_pos hw]; rfl
    omega
  have hlen : ys.length = ts.length + (1 + zs.length) := by rw [hy, e]; simp; omega
  have hys : ys = ts ++ ([d] ++ zs) := by rw [hy, e, List.append_assoc]
  have hw2 : wholes sps ys ys.length = ((List.range ts.length).filter fun k => isWhole sps (ys.getD k ([], 0, 0))) ++ ts.length :: (((List.range zs.length).map fun x => ts.length + 1 + x).filter fun k => isWhole sps (ys.getD k ([], 0, 0))) := by
    unfold wholes
    rw [hlen, List.range_add, List.filter_append, List.range_add, List.map_append, List.filter_append]
    congr 1
    have : ((List.range 1).map fun x => ts.length + x) = [ts.length] := by simp
    rw [this, List.filter_cons]
    have hg : ys.getD ts.length ([], 0, 0) = d := by rw [hys]; simp
    rw [hg, if_pos hw]
    simp only [List.filter_nil, List.cons_append, List.nil_append, List.cons.injEq, true_and]
    rw [List.map_map]
    congr 1
    refine List.map_congr_left fun x _ => ?_
    show ts.length + (1 + x) = _
    omega
  have hl1 : ((List.range ts.length).filter fun k => isWhole sps (ys.getD k ([], 0, 0))).length = wn - 1 := by
    rw [hys, filter_len, hc]
  rw [hw2, List.getElem?_append_right (by rw [hl1]; exact Nat.le_refl _), hl1, Nat.sub_self] at hk
  simp only [List.getElem?_cons_zero, Option.some.injEq] at hk
  rw [e, ← hk]; simp

/-- what is left on the heap -/
theorem Mg.left {zv : List V3} (M : Mg sps wn H tops told) (hp : (zv.map Prod.snd).Perm (rem sps H)) (hs : zv.Pairwise fun a b => lt3 b.2 a.2 = false) : ((foldD zv).map (fun p => p.2.2)).Perm H := by
  have hHnd : H.Nodup := by
    have := M.nd
    rw [List.Nodup, List.pairwise_map] at this
    exact this.imp fun h e => h (by rw [e])
  have hfirst := foldD_first zv hs
  have hplace : ∀ p ∈ foldD zv, (p.2.2.2.2 : Int) = p.1 := fun p h => (hfirst p h).2.1.symm
  have hFnd : ((foldD zv).map (fun p => p.2.2)).Nodup := by
    have h1 := foldD_nodup zv
    rw [List.Nodup, List.pairwise_map] at h1 ⊢
    refine h1.imp_of_mem ?_
    intro a b ha hb h e
    exact h (by rw [← hplace a ha, ← hplace b hb, e])
  -- a head of a name in the heap
  have inRem : ∀ d ∈ H, d ∈ zv.map Prod.snd := fun d hd => by
    refine hp.mem_iff.mpr (List.mem_flatMap.mpr ⟨d, hd, ?_⟩)
    obtain ⟨i, k, hi, hk, rfl⟩ := M.hent d hd
    rw [rem1_entry hk]; exact List.mem_cons_self
  -- the first of its place is the heap's
  have key : ∀ p ∈ foldD zv, p.2.2 ∈ H := fun p hpm => by
    obtain ⟨h1, h2, h3⟩ := hfirst p hpm
    have hr : p.2.2 ∈ rem sps H := hp.mem_iff.mp (List.mem_map.mpr ⟨p.2, h1, rfl⟩)
    obtain ⟨d, hd, hr⟩ := List.mem_flatMap.mp hr
    obtain ⟨i, k, hi, hk, rfl⟩ := M.hent d hd
    obtain ⟨m, hm, e⟩ := rem1_mem hr
    obtain ⟨z, hz, ez⟩ := List.mem_map.mp (inRem _ hd)
    have hpl : (z.2.2.2 : Int) = p.1 := by rw [h2, e, ez]; rfl
    have h4 := h3 z hz hpl
    rw [ez, e] at h4
    rcases Nat.eq_zero_or_pos m with rfl | h0
    · rw [e]; exact hd
    · rw [lt_entry_le hm h0] at h4; cases h4
  refine (List.perm_ext_iff_of_nodup hFnd hHnd).mpr fun d => ⟨fun h => ?_, fun hd => ?_⟩
  · obtain ⟨p, hpm, rfl⟩ := List.mem_map.mp h
    exact key p hpm
  · obtain ⟨z, hz, ez⟩ := List.mem_map.mp (inRem d hd)
    obtain ⟨p, hpm, e⟩ := foldD_all zv z hz
    have h1 := key p hpm
    have h2 : p.2.2.2.2 = d.2.2 := by
      have := (hplace p hpm).trans e
      rw [ez] at this
      omega
    have : p.2.2 = d := by
      have hnd := M.nd
      obtain ⟨x, hx, ex⟩ := List.getElem_of_mem h1
      obtain ⟨y, hy, ey⟩ := List.getElem_of_mem hd
      have h3 : (H.map (·.2.2))[x]? = (H.map (·.2.2))[y]? := by
        rw [List.getElem?_map, List.getElem?_map, List.getElem?_eq_getElem hx, List.getElem?_eq_getElem hy, ex, ey]
        simp [h2]
      have := (List.getElem?_inj (by simpa using hx) hnd).mp h3
      subst this
      rw [← ex, ← ey]
    exact List.mem_map.mpr ⟨p, hpm, this⟩
end
section
open PySem.W PySem.SeqAt
section
variable {w : World} {A : Around} {E : Value → Shared → Prop} {s : Shared} {mg mb : Str → Option Value} {g : Heap} {L fa : Addr} {l : List (String × Value)} {env : Env}

theorem wo3 : WO (fun a b : V3 => lt3 a.2 b.2) := tot3.wo fun a : V3 => a.2
theorem irr3 : ∀ a : V3, (fun a b : V3 => lt3 a.2 b.2) a a = false := fun a => tot3.irr a.2

noncomputable def rep (xs : List V3) (it : V3) : List V3 := siftup (fun a b : V3 => lt3 a.2 b.2) (xs.set 0 it) 0
/-- the words and their letters -/
theorem letters_next {sp : List Nat} {k c : Nat} (hc : sp[k]? = some c) : (⟨(letL (sp.take k)).toArray⟩ : Str) ++ lettersOf c = ⟨(letL (sp.take (k + 1))).toArray⟩ := by
  have e : sp.take (k + 1) = sp.take k ++ [c] := by rw [List.take_add_one, hc]; rfl
  rw [e, letL_snoc, ← str_app]

theorem heap_top {xs : List V3} {y : V3} (hy : xs[0]? = some y) (hH : HF (fun a b : V3 => lt3 a.2 b.2) xs 0) : ∃ rest, xs = y :: rest ∧ ∀ e ∈ xs.map Prod.snd, lt3 e y.2 = false := by
  refine ⟨xs.tail, ?_, fun e he => ?_⟩
  · cases xs with
    | nil => simp at hy
    | cons a r => simp at hy; rw [hy]; rfl
  · obtain ⟨x, hx, rfl⟩ := List.mem_map.mp he
    exact hf_min_mem wo3 irr3 hH hy x hx

theorem heappop3 {pa hp : Addr} {xs rest : List V3} {y : V3} {Q : Value → Shared → Prop} (R : Rm A 4) (f : FnAt s.heap 1 pa) (G : Gd w mg mb s.heap) (hl : (K3 w).Is s.heap hp xs) (hrest : xs = y :: rest) (hH : HF (fun a b : V3 => lt3 a.2 b.2) xs 0) (hsz : xs.length < 2 ^ 19)
    (h : ∀ h' tk ws, (∀ b o, b ≠ hp → s.heap.get? b = some o → h'.get? b = some o) → (K3 w).Is h' hp ws → ws.Perm rest → HF (fun a b : V3 => lt3 a.2 b.2) ws 0 → Q y.1 { s with heap := h', toks := tk }) :
    wpAny (MM w) A (call (.ref pa) [.ref hp]) Q E s := by
  obtain ⟨zs, last, hzl⟩ : ∃ (zs : List V3) (last : V3), xs = zs ++ [last] := by
    rcases List.eq_nil_or_concat xs with h | ⟨zs, b, h⟩
    · rw [h] at hrest; cases hrest
    · exact ⟨zs, b, by simpa using h⟩
  have hl' : (K3 w).Is s.heap hp (zs ++ [last] : List V3) := hzl ▸ hl
  have hzs : zs.length < 2 ^ 19 := by rw [hzl, List.length_append] at hsz; omega
  have he : zs ++ [last] = y :: rest := hzl.symm.trans hrest
  have hH' : HF (fun a b : V3 => lt3 a.2 b.2) (zs ++ [last]) 0 := hzl ▸ hH
  refine spec_heappop (K := K3 w) (xs := zs) (last := last) R f G hl' hzs (fun h0 h' tk k i => ?_) fun top ht h' tk k i => ?_
  · have h0' : (zs : List V3) = [] := h0
    rw [h0'] at he
    injection he with e1 e2
    subst e1
    exact h h' tk [] k i (e2 ▸ List.Perm.refl _) (fun i j a b _ _ ea _ => by have ea' : (none : Option V3) = some a := ea; cases ea')
  · clear hl hl' hzl hH hrest hsz
    cases zs with
    | nil => cases ht
    | cons z zt =>
      injection he with e1 e2
      have et : z = top := Option.some.inj ht
      subst e1
      subst et
      refine h h' tk (siftup (fun a b : V3 => lt3 a.2 b.2) ((z :: zt).set 0 last) 0) k i ?_ (siftup_hf wo3 _ 0 (hf_set (hf_init hH') _))
      refine (siftup_perm (fun a b : V3 => lt3 a.2 b.2) _ 0).trans ?_
      rw [← e2]
      show (last :: zt).Perm (zt ++ [last])
      exact List.perm_append_comm (l₁ := [last]) (l₂ := zt)

set_option maxHeartbeats 4000000 in
theorem law_s5 {dp hp tp op c : Addr} {wn : Nat} {tw : Tok} {pm doc : Value} {sps : List (List Nat)} {gb : Heap} {xs0 : List V3} {Q : Flow → Shared → Prop} (R : Rm A 6) (G : Gd w mg mb gb)
    (F : Fx g L s.heap [("drawn", .ref dp), ("wanted", .int wn tw), ("heap", .ref hp), ("tops", .ref tp), ("told", .ref op)])
    (hgb : ∀ b o, gb.get? b = some o → g.get? b = some o) (hgh : gb.get? hp = none) (hgt : gb.get? tp = none) (hgo : gb.get? op = none) (hht : hp ≠ tp) (hho : hp ≠ op) (hto' : tp ≠ op)
    (hn : NamesAt gb dp sps) (hNm : ∀ sp ∈ sps, Nm sp) (hs10 : sps.length ≤ 10) (hwn : wn ≤ sps.length)
    (hx0 : (K3 w).Is g hp xs0) (hH0 : HF (fun a b : V3 => lt3 a.2 b.2) xs0 0) (hM0 : Mg sps wn (xs0.map Prod.snd) [] []) (ht0 : g.PlainList tp ([] : List Value).toArray) (ho0 : g.PlainList op ([] : List Value).toArray)
    (hQ : ∀ g' h' tk (xs ts : List V3) os told, Fx g' L h' [("drawn", .ref dp), ("wanted", .int wn tw), ("heap", .ref hp), ("tops", .ref tp), ("told", .ref op)] → (K3 w).Is g' hp xs → (K3 w).Is g' tp ts → g'.PlainList op os.toArray →
      SL os (told.map fun i => sps.getD i []) → Mg sps wn (xs.map Prod.snd) (ts.map Prod.snd) told → told.length = wn → (∀ b o, gb.get? b = some o → g'.get? b = some o) → Q .next { s with heap := h', toks := tk }) :
    wpAny (MM w) A (exec (stN 22 5) (callEnv (fdOf 22 .none pm (.ref c) doc) L fa)) Q E s := by
  obtain ⟨tps, hnl, htl, hat⟩ := id hn
  refine whileK (fun r s' => ∃ g' h' tk' , ∃ (xs ts : List V3), ∃ os told, r = (rem sps (xs.map Prod.snd)).length ∧ s' = { s with heap := h', toks := tk' } ∧ Fx g' L h' [("drawn", .ref dp), ("wanted", .int wn tw), ("heap", .ref hp), ("tops", .ref tp), ("told", .ref op)] ∧ (K3 w).Is g' hp xs ∧ (K3 w).Is g' tp ts ∧ g'.PlainList op os.toArray ∧
      SL os (told.map fun i => sps.getD i []) ∧ HF (fun a b : V3 => lt3 a.2 b.2) xs 0 ∧ Mg sps wn (xs.map Prod.snd) (ts.map Prod.snd) told ∧ (∀ b o, gb.get? b = some o → g'.get? b = some o)) _
    (in7 g _ _ xs0 [] [] [] ⟨rfl, rfl, F, hx0, ⟨ht0, fun x hx => by cases hx⟩, ho0, ⟨rfl, fun i x e => by simp at e⟩, hH0, hM0, hgb⟩) (fun E₁ r s' Kn kn kc kbr hI => ?_)
  refine ex7 hI fun g' h' tk' xs ts os told hJ => ?_
  clear hI
  obtain ⟨rfl, rfl, F', hx, ht, ho, hS, hH, hM, kb⟩ := hJ
  have hol : os.length = told.length := by have := hS.1; simpa using this
  have htl10 : told.length ≤ 10 := by have := hM.le; omega
  have G' := G.keeps kb
  walk_at "S"
  walk_at "bl"
  walk_at "ev"
  refine evs_nil ?_
  refine len_list (Heap.PlainList.isList (F'.list ho)) (by simp; omega) ?_
  rw [show (os.toArray.size : Int) = (told.length : Int) by simp [hol]]
  walk_at "S"
  by_cases hlt : (told.length : Int) < wn
  · simp only [hlt, decide_true, if_true]
    have hlt' : told.length < wn := by omega
    have hxl : xs.length + told.length = sps.length := by
      have := hM.part.length_eq
      simpa using this
    have hx10 : xs.length < 2 ^ 19 := by omega
    have hx20 : xs.length < 2 ^ 20 := by omega
    obtain ⟨y, hy⟩ : ∃ y, xs[0]? = some y := ⟨xs[0]'(by omega), List.getElem?_eq_getElem _⟩
    obtain ⟨rest, hrest, hmin⟩ := heap_top hy hH
    obtain ⟨yv, yd⟩ := y
    obtain ⟨i, k, hi, hk, ey⟩ := hM.hent yd (by rw [hrest]; simp)
    obtain rfl : yd = entry sps i k := ey
    obtain ⟨yp, t1, t2, t3, ep, hyo⟩ := hx.2 _ (List.mem_of_getElem? hy)
    obtain rfl : yv = .ref yp := ep
    have hyo : g'.get? yp = some (tupObj [sv (letL ((sps.getD i []).take k)) t1, .int k t2, .int i t3]) := hyo
    have hsp : sps.getD i [] = sps[i] := by simp [List.getD, hi]
    have hlo : lenOf sps i = sps[i].length := by unfold lenOf; rw [hsp]
    rw [hsp] at hyo
    have hspn := hNm sps[i] (List.getElem_mem hi)
    have hll := letL_len (sp := sps[i].take k) fun c hc => hspn.sh c (List.mem_of_mem_take hc)
    have hk5 : (sps[i].take k).length ≤ 5 := by rw [List.length_take]; have := hspn.len; omega
    have hHp : (xs.map Prod.snd).Perm (entry sps i k :: rest.map Prod.snd) := by rw [hrest]; exact .refl _
    -- known, count, at
    walk_at "S"
    refine Assign_Tuple ?_
    walk_at "S"
    refine getK (K := K3 w) 0 (by assumption) hx hy rfl hx20 ?_
    refine unpackX (vs := [_, _, _]) (by assumption) R.h (isTup_obj hyo) fun h9 F9 => ?_
    show wpAny _ _ (assignInOrder [assign _ _, assign _ _, assign _ _] [_, _, _]) _ _ _
    walk_at "S"
    -- word
    obtain ⟨_, tn, hpp, hv, hto, _, _⟩ := (hat i _ _ (List.getElem?_eq_getElem (by omega)) (List.getElem?_eq_getElem hi)).keeps kb
    refine lstItem (i := i) (v := .ref (tps[i]'(by omega))) (Fx.list (by assumption) (hnl.at fun o e => kb _ o e)) (by simp [htl, hi]) rfl (by simp; omega) ?_
    walk_at "S"
    refine tupItem (i := 0) (isTup_obj (Fx.keep (by assumption) _ _ hto)) rfl rfl (by show 2 < _; decide) ?_
    walk_at "S"
    walk_at "bl"
    walk_at "ev"
    refine evs_nil ?_
    refine P.len_str (x := ⟨sps[i].toArray⟩) (by have := hspn.len; show ¬ ((sps[i].toArray.size : Nat) : Int) ≥ _; simp only [List.size_toArray]; omega) ?_
    rw [show ((⟨sps[i].toArray⟩ : Str).length) = sps[i].length by show sps[i].toArray.size = _; simp]
    walk_at "S"
    by_cases hkl : (k : Int) < (sps[i].length : Int)
    · simp only [hkl, decide_true, if_true]
      have hkl' : k < sps[i].length := by omega
      walk_at "S"
      refine methList PySem.F.slot_list_append PySem.F.type_list_append ?_
      walk_at "S"
      refine ⟨tp, _, rfl, Fx.list (by assumption) ht.1, ?_⟩
      refine evs_cons ?_
      refine callFn 2 (by assumption) G' fun b fb => ?_
      walk_at "ev"
      refine evs_cons ?_
      refine tupF (L := L) ?_
      refine evs_cons ?_
      refine wpAny_BinOp ?_
      walk_at "S"
      refine callFn 19 (by assumption) G' fun b2 fb2 => ?_
      refine evs_cons ?_
      walk_at "S"
      refine strItem (i := k) (c := sps[i][k]) sps[i] rfl (List.getElem?_eq_getElem hkl') rfl (by have := hspn.len; omega) ?_
      have F6 := (by assumption : Fx g' L _ _)
      refine evs_nil ⟨fun c o e _ => F6.keep c o e, ?_⟩
      refine spec_letters (R.le (by omega)) (fb2.keeps F6.keep) (G'.keeps F6.keep) fun h7 tk7 t7 k7 => ?_
      have F7 := F6.up k7
      have hcs := hspn.sh sps[i][k] (List.getElem_mem hkl')
      refine add_str (x := ⟨(letL (sps[i].take k)).toArray⟩) (fun t5 tk5 => ?_) (by rw [sizeLine_eq]; show (letL (sps[i].take k)).toArray.size + (lettersOf sps[i][k]).cps.size ≤ _; simp only [List.size_toArray]; omega)
      rw [letters_next (List.getElem?_eq_getElem hkl')]
      walk_at "ev"
      walk_at "ev"
      have F8 := (by assumption : Fx g' L h7 _)
      refine evs_nil ⟨Nat.le_of_ble_eq_true rfl, _, _, F8, fun ga ha p Fa ea ka na la => ?_⟩
      clear la
      refine evs_nil ⟨fun c o e _ => Fa.keep _ _ (ka c o e), ?_⟩
      have Ga := G'.keeps ka
      have hxa := hx.keeps ka
      rw [show (k : Int) + 1 = ((k + 1 : Nat) : Int) by omega] at ea
      rw [← hsp] at ea
      have hpa : (K3 w).At ga (.ref p) (entry sps i (k + 1)) := ⟨p, _, _, _, rfl, ea⟩
      refine spec_heapreplace (K := K3 w) (it := ((Value.ref p, entry sps i (k + 1)) : V3)) (R.le (by omega)) ((fb.keeps ka).keeps Fa.keep) (Ga.keeps Fa.keep) (hxa.keeps Fa.keep) hy ((K3 w).keeps hpa Fa.keep) hx20 fun h8 tk8 k8 i8 => ?_
      obtain ⟨Fb, kk8, kl8⟩ := Fa.change (h' := h8) (list_ne hxa.1 Fa.noL) k8
      change (K3 w).Is h8 hp (rep xs (Value.ref p, entry sps i (k + 1))) at i8
      have hperm : (rep xs (Value.ref p, entry sps i (k + 1))).Perm (((Value.ref p, entry sps i (k + 1)) : V3) :: rest) := by
        have := siftup_perm (fun a b : V3 => lt3 a.2 b.2) (xs.set 0 ((Value.ref p, entry sps i (k + 1)) : V3)) 0
        unfold rep
        rw [hrest] at this ⊢; exact this
      have hH8 : HF (fun a b : V3 => lt3 a.2 b.2) (rep xs (Value.ref p, entry sps i (k + 1))) 0 := siftup_hf wo3 _ 0 (hf_set hH _)
      have hx8 : (K3 w).Is (h8.hide L) hp (rep xs (Value.ref p, entry sps i (k + 1))) := ⟨i8.1.at fun o e => kl8 _ o (list_ne hxa.1 Fa.noL) e, fun x hm => by
        rcases List.mem_cons.mp (hperm.mem_iff.mp hm) with rfl | hm
        · exact (K3 w).ext hpa (plain_nt hxa.1) kk8
        · exact (K3 w).ext (hxa.2 x (by rw [hrest]; exact List.mem_cons_of_mem _ hm)) (plain_nt hxa.1) kk8⟩
      have hM8 := hM.next hHp hmin hi (by rw [hlo]; exact hkl') hlt' (hperm.map Prod.snd)
      clear i8 hperm kl8
      generalize rep xs (Value.ref p, entry sps i (k + 1)) = xs' at hx8 hH8 hM8
      have kb8 : ∀ b o, gb.get? b = some o → (h8.hide L).get? b = some o := fun b o e => kk8 b o (by rintro rfl; rw [hgh] at e; cases e) (ka _ _ (kb b o e))
      have ht8 : (K3 w).Is (h8.hide L) tp ts := ⟨ht.1.at fun o e => kk8 _ o (Ne.symm hht) (ka _ _ e), fun x hm => (K3 w).ext ((K3 w).keeps (ht.2 x hm) ka) (plain_nt hxa.1) kk8⟩
      have ho8 : (h8.hide L).PlainList op os.toArray := ho.at fun o e => kk8 _ o (Ne.symm hho) (ka _ _ e)
      have hy8 : At3 (h8.hide L) (.ref yp) (entry sps i k) := (K3 w).ext ((K3 w).keeps (hx.2 _ (List.mem_of_getElem? hy)) ka) (plain_nt hxa.1) kk8
      generalize h8.hide L = g8 at Fb hx8 kb8 ht8 ho8 hy8
      have htsl : ts.length ≤ 60 := by
        have h1 := hM.all.length_eq
        have h2 := rowOf_len (sps := sps) fun x hx => (hNm x hx).len
        simp only [List.length_append, List.length_map] at h1
        omega
      refine evs_nil ?_
      refine appX (xs := ts.map Prod.fst) (y := .ref yp) Fb ht8.1 (by simp; omega) fun g10 h10 F10 hl10 k10 => ?_
      have ntp := plain_nt ht8.1
      walk_at "S"
      refine kn ((rem sps (xs'.map Prod.snd)).length) _ ?_ (in7 g10 _ _ xs' (ts ++ [(Value.ref yp, entry sps i k)]) os told ⟨rfl, rfl, by walk_at "sub", ?_, ?_, ho8.at fun o e => k10 _ o (Ne.symm hto') e, hS, hH8, ?_, fun b o e => k10 b o (by rintro rfl; rw [hgt] at e; cases e) (kb8 b o e)⟩)
      · have h1 := hM.all.length_eq
        have h2 := hM8.all.length_eq
        simp only [List.length_append, List.length_singleton] at h1 h2
        omega
      · exact ⟨hx8.1.at fun o e => k10 _ o hht e, fun x hm => (K3 w).ext (hx8.2 x hm) ntp k10⟩
      · have em : (ts ++ [((Value.ref yp, entry sps i k) : V3)]).map Prod.fst = ts.map Prod.fst ++ [.ref yp] := List.map_append
        refine ⟨by show g10.PlainList tp ((ts ++ [((Value.ref yp, entry sps i k) : V3)]).map Prod.fst).toArray; rw [em]; exact hl10, fun x hm => ?_⟩
        rcases List.mem_append.mp hm with hm | hm
        · exact (K3 w).ext (ht8.2 x hm) ntp k10
        · rw [List.mem_singleton.mp hm]; exact (K3 w).ext hy8 ntp k10
      · rw [List.map_append]; exact hM8
    · simp only [hkl, decide_false, Bool.false_eq_true, if_false]
      have hke : k = lenOf sps i := by omega
      walk_at "S"
      refine methList PySem.F.slot_list_append PySem.F.type_list_append ?_
      walk_at "S"
      refine ⟨tp, _, rfl, Fx.list (by assumption) ht.1, ?_⟩
      refine evs_cons ?_
      refine callFn 1 (by assumption) G' fun b fb => ?_
      walk_at "ev"
      have F6 := (by assumption : Fx g' L _ _)
      refine evs_nil ⟨fun c o e _ => F6.keep c o e, ?_⟩
      refine heappop3 (R.le (by omega)) (fb.keeps F6.keep) (G'.keeps F6.keep) (hx.keeps F6.keep) hrest hH hx10 fun h8 tk8 xs' k8 i8 hperm hH8 => ?_
      obtain ⟨Fb, kk8, kl8⟩ := F6.change (h' := h8) (list_ne hx.1 F6.noL) k8
      have hx8 : (K3 w).Is (h8.hide L) hp xs' := ⟨i8.1.at fun o e => kl8 _ o (list_ne hx.1 F6.noL) e, fun x hm => (K3 w).ext (hx.2 x (by rw [hrest]; exact List.mem_cons_of_mem _ (hperm.mem_iff.mp hm))) (plain_nt hx.1) kk8⟩
      have hM8 : Mg sps wn (xs'.map Prod.snd) (ts.map Prod.snd ++ [entry sps i k]) (told ++ [i]) := by
        rw [hke] at hHp hmin ⊢
        exact hM.pop hHp hmin hlt' (hperm.map Prod.snd)
      clear i8 hperm kl8
      have kb8 : ∀ b o, gb.get? b = some o → (h8.hide L).get? b = some o := fun b o e => kk8 b o (by rintro rfl; rw [hgh] at e; cases e) (kb b o e)
      have ht8 : (K3 w).Is (h8.hide L) tp ts := ⟨ht.1.at fun o e => kk8 _ o (Ne.symm hht) e, fun x hm => (K3 w).ext (ht.2 x hm) (plain_nt hx.1) kk8⟩
      have ho8 : (h8.hide L).PlainList op os.toArray := ho.at fun o e => kk8 _ o (Ne.symm hho) e
      have hy8 : At3 (h8.hide L) (.ref yp) (entry sps i k) := (K3 w).ext (hx.2 _ (List.mem_of_getElem? hy)) (plain_nt hx.1) kk8
      generalize h8.hide L = g8 at Fb hx8 kb8 ht8 ho8 hy8
      have htsl : ts.length ≤ 60 := by
        have h1 := hM.all.length_eq
        have h2 := rowOf_len (sps := sps) fun x hx => (hNm x hx).len
        simp only [List.length_append, List.length_map] at h1
        omega
      refine evs_nil ?_
      refine appX (xs := ts.map Prod.fst) (y := .ref yp) Fb ht8.1 (by simp; omega) fun g10 h10 F10 hl10 k10 => ?_
      have ntp := plain_nt ht8.1
      have ho10 : g10.PlainList op os.toArray := ho8.at fun o e => k10 _ o (Ne.symm hto') e
      walk_at "S"
      refine methList PySem.F.slot_list_append PySem.F.type_list_append ?_
      walk_at "S"
      refine ⟨op, _, rfl, Fx.list (by assumption) ho10, ?_⟩
      walk_at "ev"
      refine evs_nil ?_
      refine appX (y := sv sps[i] tn) (by assumption) ho10 (by omega) fun g11 h11 F11 hl11 k11 => ?_
      have nop := plain_nt ho10
      walk_at "S"
      refine kn ((rem sps (xs'.map Prod.snd)).length) _ ?_ (in7 g11 _ _ xs' (ts ++ [(Value.ref yp, entry sps i k)]) (os ++ [sv sps[i] tn]) (told ++ [i]) ⟨rfl, rfl, by walk_at "sub", ?_, ?_, hl11, ?_, hH8, ?_, fun b o e => k11 b o (by rintro rfl; rw [hgo] at e; cases e) (k10 b o (by rintro rfl; rw [hgt] at e; cases e) (kb8 b o e))⟩)
      · have h1 := hM.all.length_eq
        have h2 := hM8.all.length_eq
        simp only [List.length_append, List.length_singleton] at h1 h2
        omega
      · exact ⟨hx8.1.at fun o e => k11 _ o hho (k10 _ o hht e), fun x hm => (K3 w).ext ((K3 w).ext (hx8.2 x hm) ntp k10) nop k11⟩
      · have em : (ts ++ [((Value.ref yp, entry sps i k) : V3)]).map Prod.fst = ts.map Prod.fst ++ [.ref yp] := List.map_append
        refine ⟨by show g11.PlainList tp ((ts ++ [((Value.ref yp, entry sps i k) : V3)]).map Prod.fst).toArray; rw [em]; exact hl10.at fun o e => k11 _ o hto' e, fun x hm => ?_⟩
        rcases List.mem_append.mp hm with hm | hm
        · exact (K3 w).ext ((K3 w).ext (ht8.2 x hm) ntp k10) nop k11
        · rw [List.mem_singleton.mp hm]; exact (K3 w).ext ((K3 w).ext hy8 ntp k10) nop k11
      · rw [List.map_append]
        show SL _ ((told.map fun i => sps.getD i []) ++ [sps.getD i []])
        rw [hsp]; exact hS.snoc
      · rw [List.map_append]; exact hM8
  · have hge : told.length = wn := by have := hM.le; omega
    simp only [hlt, decide_false, Bool.false_eq_true, if_false]
    exact hQ g' _ _ xs ts os told (by walk_at "sub") hx ht ho hS hM hge kb
end
end
section
open PySem.W PySem.SeqAt
section
variable {w : World} {A : Around} {E : Value → Shared → Prop} {s : Shared} {mg mb : Str → Option Value} {g : Heap} {L fa : Addr} {l : List (String × Value)} {env : Env}

theorem all_true (n : Nat) : ((List.range n).all fun _ => true) = true := List.all_eq_true.mpr fun _ _ => rfl
theorem At3.eqAt {a b : Value} {x : T3} (hu : A.units < cLine) (ha : At3 s.heap a x) (hb : At3 s.heap b x) : EqAt A s a b true := by
  by_cases hab : a = b
  · subst hab; exact EqAt.same a
  obtain ⟨p, t1, t2, t3, rfl, ea⟩ := ha
  obtain ⟨q, u1, u2, u3, rfl, eb⟩ := hb
  refine EqAt.of_refs (fun e => hab (by rw [e])) ?_
  have := RcAt.tuples (A := A) (s := s) (e := fun _ => true) (isTup_obj ea) (isTup_obj eb) hu ?_
  · rw [all_true] at this; exact this
  · intro j h1 h2
    match j, h1, h2 with
    | 0, _, _ => have := EqAt.strs (A := A.in1) (s := s) x.1 x.1 t1 u1; simpa using this
    | 1, _, _ => have := EqAt.nats (A := A.in1) (s := s) x.2.1 x.2.1 t2 u2; simpa using this
    | 2, _, _ => have := EqAt.nats (A := A.in1) (s := s) x.2.2 x.2.2 t3 u3; simpa using this

theorem is3_eqAt {p q : Addr} {xs ys : List V3} (hu : A.units + 1 < cLine) (hx : s.heap.PlainList p (xs.map Prod.fst).toArray) (hxa : ∀ x ∈ xs, At3 s.heap x.1 x.2) (hy : s.heap.PlainList q (ys.map Prod.fst).toArray) (hya : ∀ x ∈ ys, At3 s.heap x.1 x.2)
    (e : xs.map Prod.snd = ys.map Prod.snd) : EqAt A s (.ref p) (.ref q) true := by
  by_cases hpq : p = q
  · subst hpq; exact EqAt.same _
  have hl : xs.length = ys.length := by simpa using congrArg List.length e
  refine EqAt.of_refs hpq ?_
  have := RcAt.lists (A := A) (s := s) (e := fun _ => true) hx.isList hy.isList (by simpa using hl) (by omega) (fun j h1 h2 => ?_)
  · rw [all_true] at this; exact this
  · have h1' : j < xs.length := by simpa using h1
    have h2' : j < ys.length := by simpa using h2
    have ed : xs[j].2 = ys[j].2 := by
      have : (xs.map Prod.snd)[j]? = (ys.map Prod.snd)[j]? := by rw [e]
      simpa [h1', h2'] using this
    have e1 : (xs.map Prod.fst).toArray[j] = xs[j].1 := by simp
    have e2 : (ys.map Prod.fst).toArray[j] = ys[j].1 := by simp
    rw [e1, e2]
    exact At3.eqAt (A := A.in1) (x := xs[j].2) hu (hxa _ (List.getElem_mem h1')) (ed ▸ hya _ (List.getElem_mem h2'))

theorem wholes_len (sps : List (List Nat)) (ds : List T3) : (wholes sps ds ds.length).length = (ds.filter (isWhole sps)).length := by
  have := filter_len (isWhole sps) ([], 0, 0) ds []
  rw [List.append_nil] at this
  exact this
theorem Mg.enough {sps : List (List Nat)} {wn : Nat} {H tops : List T3} {told : List Nat} (M : Mg sps wn H tops told) (he : told.length = wn) {ds : List T3} (hp : ds.Perm (rowOf sps)) : wn ≤ (wholes sps ds ds.length).length := by
  rw [wholes_len, (hp.filter (isWhole sps)).length_eq, ← (M.all.filter (isWhole sps)).length_eq, List.filter_append, List.length_append, ← he, M.tld, List.length_map]
  exact Nat.le_add_right _ _

theorem NamesAt.keeps {g g' : Heap} {np : Addr} {sps : List (List Nat)} (hn : NamesAt g np sps) (k : ∀ b o, g.get? b = some o → g'.get? b = some o) : NamesAt g' np sps := by
  obtain ⟨tps, a, b, c⟩ := hn
  exact ⟨tps, a.at fun o e => k _ o e, b, fun i tp sp e1 e2 => (c i tp sp e1 e2).keeps k⟩

/-- the row is what was merged -/
theorem row_same {sps : List (List Nat)} {wn cut : Nat} {xs ts zs ys xs2 : List V3} {told : List Nat} (hM : Mg sps wn (xs.map Prod.snd) (ts.map Prod.snd) told) (he : told.length = wn) (h1 : 1 ≤ wn) (sr : Srt (fun a b : V3 => lt3 a.2 b.2) xs zs)
    (pm : (ys.map Prod.snd).Perm (rowOf sps)) (pw : (ys.map Prod.snd).Pairwise (fun a b => lt3 b a = false)) (hk : ∃ k, (wholes sps (ys.map Prod.snd) ys.length)[wn - 1]? = some k ∧ cut = k + 1)
    (sr2 : Srt (fun a b : V3 => lt3 a.2 b.2) ((foldD (ys.drop cut)).map (·.2)) xs2) :
    ts.map Prod.snd = (ys.take cut).map Prod.snd ∧ zs.map Prod.snd = xs2.map Prod.snd ∧ ∀ x ∈ xs2, x ∈ ys := by
  obtain ⟨k, hk, rfl⟩ := hk
  obtain ⟨rs, hr, hrs, ey⟩ := hM.row pm pw
  have hc : k + 1 = (ts.map Prod.snd).length := hM.cut he h1 ey (by rw [List.length_map (as := ys)]; exact hk)
  have e1 : (ys.take (k + 1)).map Prod.snd = ts.map Prod.snd := by rw [List.map_take, ey, hc, List.take_left']; rfl
  have e2 : (ys.drop (k + 1)).map Prod.snd = rs := by rw [List.map_drop, ey, hc, List.drop_left']; rfl
  have pws : ys.Pairwise fun a b => lt3 b.2 a.2 = false := List.pairwise_map.mp pw
  have pwd : (ys.drop (k + 1)).Pairwise fun a b => lt3 b.2 a.2 = false := pws.sublist (List.drop_sublist _ _)
  have hleft := hM.left (zv := ys.drop (k + 1)) (by rw [e2]; exact hr) pwd
  refine ⟨e1.symm, ?_, fun x hx => ?_⟩
  · refine sorted_eq tot3 ?_ (srt3_pw sr.2) (srt3_pw sr2.2)
    refine (sr.1.map Prod.snd).trans (hleft.symm.trans ?_)
    refine .trans ?_ (sr2.1.map Prod.snd).symm
    rw [List.map_map]
    exact .refl _
  · obtain ⟨p, hp, rfl⟩ := List.mem_map.mp (sr2.1.mem_iff.mp hx)
    exact List.mem_of_mem_drop (foldD_first _ pwd p hp).1

set_option maxHeartbeats 4000000 in
theorem law_s6 {dp hp tp op c : Addr} {wn : Nat} {tw : Tok} {pm doc : Value} {sps : List (List Nat)} {xs ts : List V3} {told : List Nat} {Q : Flow → Shared → Prop} (R : Rm A 4) (G : Gd w mg mb g)
    (F : Fx g L s.heap [("drawn", .ref dp), ("wanted", .int wn tw), ("heap", .ref hp), ("tops", .ref tp), ("told", .ref op)])
    (hn : NamesAt g dp sps) (hNm : ∀ sp ∈ sps, Nm sp) (hs10 : sps.length ≤ 10) (h1wn : 1 ≤ wn)
    (hx : (K3 w).Is g hp xs) (ht : (K3 w).Is g tp ts) (hM : Mg sps wn (xs.map Prod.snd) (ts.map Prod.snd) told) (he : told.length = wn)
    (hQ : ∀ g' h' tk, Fx g' L h' [("drawn", .ref dp), ("wanted", .int wn tw), ("heap", .ref hp), ("tops", .ref tp), ("told", .ref op)] → (∀ b o, g.get? b = some o → g'.get? b = some o) → Q .next { s with heap := h', toks := tk }) :
    wpAny (MM w) A (exec (stN 22 6) (callEnv (fdOf 22 .none pm (.ref c) doc) L fa)) Q E s := by
  have hxl : xs.length < 64 := by
    have := hM.part.length_eq
    simp only [List.length_append, List.length_map, List.length_range] at this
    omega
  refine wpAny_If ?_
  refine wpAny_isTrue_Compare1 ?_
  refine tupF (L := L) ?_
  refine evs_cons ?_
  walk_at "S"
  refine evs_cons ?_
  walk_at "bl"
  walk_at "ev"
  refine evs_nil ?_
  refine sortedL (K := K3 w) sk3 (Value.none, ([], 0, 0)) rfl (by have := R.u; omega) F hx hxl fun g6 h6 tk6 D6 zs F6 i6 k6 n6 sr => ?_
  refine evs_nil ⟨Nat.le_of_ble_eq_true rfl, _, _, F6, fun ga ha p Fa ea ka na la => ?_⟩
  have kga : ∀ b o, g.get? b = some o → ga.get? b = some o := fun b o e => ka _ _ (k6 _ _ e)
  have Ga := G.keeps kga
  refine callFn 21 Fa Ga fun b fb => ?_
  walk_at "ev"
  walk_at "ev"
  refine evs_nil ⟨fun c o e _ => Fa.keep c o e, ?_⟩
  refine spec_row (R.le (by omega)) (fb.keeps Fa.keep) (Ga.keeps Fa.keep) (hn.keeps fun b o e => Fa.keep _ _ (kga _ _ e)) hs10 h1wn (fun ds hp => hM.enough he hp) (fun d hd => ?_) (fun sp hsp => (hNm sp hsp).len) fun h7 tk7 v k7 ro => ?_
  · obtain ⟨i, k, hi, _, rfl⟩ := row_mem hd
    exact hi
  obtain ⟨T, P1, P2, ys, xs2, cut, rfl, hT, hP1, hP2, hya, pm2, pw2, hk, sr2⟩ := ro
  obtain ⟨q1, q2, q3⟩ := row_same hM he h1wn sr pm2 pw2 hk sr2
  have kh7 : ∀ b o, ga.get? b = some o → h7.get? b = some o := fun b o e => k7 _ _ (Fa.keep _ _ e)
  have F7 := Fa.up k7
  refine RcNeAt.tuples (e := fun _ => true) (isTup_obj (kh7 _ _ ea)) (isTup_obj hT) (by have := R.u; show _ < 9900; omega) ?_ _ _ _ _ ?_
  · have hu : A.in1.units + 1 < cLine := by have := R.u; show A.units + 1 + 1 < 9900; omega
    intro j h1 h2
    match j, h1, h2 with
    | 0, _, _ => exact is3_eqAt (A := A.in1) (xs := ts) (ys := ys.take cut) hu (ht.1.at fun o e => kh7 _ _ (kga _ _ e)) (fun x hx => At3.keeps (ht.2 x hx) fun b o e => kh7 _ _ (kga _ _ e)) hP1 (fun x hx => hya x (List.mem_of_mem_take hx)) q1
    | 1, _, _ => exact is3_eqAt (A := A.in1) (xs := zs) (ys := xs2) hu (i6.1.at fun o e => kh7 _ _ (ka _ _ e)) (fun x hx => At3.keeps (i6.2 x hx) fun b o e => kh7 _ _ (ka _ _ e)) hP2 (fun x hx => hya x (q3 x hx)) q2
  show wpAny _ _ (truthy (Value.bool false)) _ _ _
  walk_at "S"
  rw [if_neg Bool.false_ne_true]
  walk_at "S"
  exact hQ ga h7 _ F7 kga
end
end
section
open PySem.W PySem.SeqAt
section
variable {w : World} {A : Around} {E : Value → Shared → Prop} {s : Shared} {mg mb : Str → Option Value} {g : Heap} {L fa : Addr} {l : List (String × Value)} {env : Env}

/-- f(e, k1=.., ..) of a def by its name -/
theorem callDefK {k : String} {p pos : Pos} {e : Expr} {rest : List Expr} {kws : List Keyword} {a : Addr} {o : Obj} {fd : FuncData} {Q : Value → Shared → Prop} (F : Fx g L s.heap l) (G : Gd w mg mb g) (hdat : o.data = .func fd) (ea : mg (Str.ofString k) = some (.ref a))
    (h : evs (MM w) A env E (e :: rest) (fun vs s₁ => wpAny (MM w) A (evalAll ((backToKw pos (keywordEach kws env)).map (·.2))) (fun kvs s₂ => s₂.heap.get? a = some o ∧ wpAny (MM w) A (call (.ref a) vs (((backToKw pos (keywordEach kws env)).filterMap (·.1)).zip kvs)) Q E s₂) E s₁) s)
    (hns : noStar (e :: rest) = true := by rfl)
    (he : backTo pos (starEach (e :: rest) env) = (false, eval e env) :: backTo pos (starEach rest env) := by rfl)
    (hall : (backToKw pos (keywordEach kws env)).all (·.1.isSome) = true := by rfl)
    (hgl : env.globals = mainGlobals := by rfl)
    (hk : env.scope.kind = .function := by kernel_rfl) (hl : env.kindOf (Str.ofString k) = some .globalImplicit := by kernel_rfl) (hd : (Str.ofString k == ("__debug__" : Str)) = false := by kernel_rfl) :
    wpAny (MM w) A (eval (.Call (.Name (Str.ofString k) p) (e :: rest) kws pos) env) Q E s := by
  show wpAny (MM w) A (do callWith pos (← eval (.Name (Str.ofString k) p) env) [] (backTo pos (starEach (e :: rest) env)) (backToKw pos (keywordEach kws env))) Q E s
  refine wpAny_bind (ldGv F G ea ?_ hgl hk hl hd)
  refine callWith_def_kw (o := o) hdat ?_
  rw [he]
  refine evalArgs_kwB hall ?_
  rw [← he]
  exact spliced_evs (e :: rest) hns h

theorem sl_eqAt {p q : Addr} {xs ys : List Value} {ds : List (List Nat)} {Q : Value → Shared → Prop} (hu : A.units < cLine) (hx : s.heap.PlainList p xs.toArray) (hy : s.heap.PlainList q ys.toArray) (sx : SL xs ds) (sy : SL ys ds) (h : Q (.bool true) s) :
    wpAny (MM w) A (compareOp .Eq (.ref p) (.ref q)) Q E s := by
  have hl : xs.length = ys.length := sx.1.trans sy.1.symm
  refine eq_listAt (e := fun _ => true) hx.isList hy.isList (by simpa using hl) hu (fun j h1 h2 => ?_) (by rw [all_true]; exact h)
  have h1' : j < xs.length := by simpa using h1
  have h2' : j < ys.length := by simpa using h2
  have h3 : j < ds.length := by rw [← sx.1]; exact h1'
  obtain ⟨t, et⟩ := sx.2 j _ (List.getElem?_eq_getElem h3)
  obtain ⟨u, eu⟩ := sy.2 j _ (List.getElem?_eq_getElem h3)
  have e1 : xs.toArray[j] = sv ds[j] t := by rw [List.getElem?_eq_getElem h1'] at et; simpa using et
  have e2 : ys.toArray[j] = sv ds[j] u := by rw [List.getElem?_eq_getElem h2'] at eu; simpa using eu
  rw [e1, e2]
  have := EqAt.strs (A := A.in1) (s := s) ds[j] ds[j] t u
  simpa using this

set_option maxHeartbeats 4000000 in
theorem law_s7 {dp hp tp op c : Addr} {wn : Nat} {tw : Tok} {pm doc : Value} {sps : List (List Nat)} {os : List Value} {told : List Nat} {Q : Flow → Shared → Prop} (R : Rm A 9) (G : Gd w mg mb g)
    (F : Fx g L s.heap [("drawn", .ref dp), ("wanted", .int wn tw), ("heap", .ref hp), ("tops", .ref tp), ("told", .ref op)])
    (hn : NamesAt g dp sps) (hNm : ∀ sp ∈ sps, Nm sp) (h2 : 2 ≤ sps.length) (hs10 : sps.length ≤ 10) (h1wn : 1 ≤ wn) (hwn : wn ≤ sps.length)
    (ho : g.PlainList op os.toArray) (hS : SL os (told.map fun i => sps.getD i [])) (hsm : Small sps wn told)
    (hQ : ∀ h' tk, (∀ b o, g.get? b = some o → h'.get? b = some o) → Q (.ret (.bool true)) { s with heap := h', toks := tk }) :
    wpAny (MM w) A (exec (stN 22 7) (callEnv (fdOf 22 .none pm (.ref c) doc) L fa)) Q E s := by
  obtain ⟨tps, hnl, htl, hat⟩ := hn
  obtain ⟨a, pmA, cA, docA, T, ea, hoA, _⟩ := G.ns
  refine wpAny_Return_some ?_
  refine wpAny_Compare1 ?_
  refine callDefK (o := { cls := .type "function", data := .func (fdOf 10 (.ref T) pmA (.ref cA) docA) }) F G rfl ((by kernel_rfl : nm 10 = Str.ofString "nsmallest") ▸ ea) ?_
  walk_at "ev"
  refine evs_cons ?_
  refine compE (L := L) (cl := []) (closureFor_none (by decide +kernel)) ?_
  walk_at "S"
  refine lstIterX F hnl R.h fun I h1 F1 W st self hfp hwr => ?_
  refine ⟨g, _, F1, self, iterCore (s₂ := { s with heap := h1 }) (W _) F1 st hfp hwr (by simp; omega) (fun D i ws _ => SL ws (sps.take i)) ?_ ?_ ?_ ?_ ?_⟩
  · intro D g; exact ⟨rfl, fun i x e => by simp at e⟩
  · intro D i ws g hj; rw [hj.1, List.length_take]; omega
  · exact fun _ _ _ _ _ h _ => h
  · intro E₁ D C i g' h tk ws v hi Fg hid hp hD hj hk Kx kx
    have hi' : i < tps.length := by simpa using hi
    obtain rfl : v = .ref tps[i] := by
      have : (tps.map Value.ref)[i]? = some v := by simpa using hp
      rw [List.getElem?_map, List.getElem?_eq_getElem hi'] at this
      exact (Option.some.inj this).symm
    have hsp : sps[i]? = some sps[i] := List.getElem?_eq_getElem (by omega)
    obtain ⟨_, tn, hpp, hv, hto, _, _⟩ := (hat i _ _ (List.getElem?_eq_getElem hi') hsp).keeps hk
    walk_at "S"
    rename_i h5 F5
    refine tupItem (i := 0) (isTup_obj (F5.keep _ _ hto)) rfl rfl (by show 2 < _; decide) ?_
    exact kx _ g' h5 _ _ F5 (fun _ _ e => e) (SL.take_succ hj hsp)
  · intro D g' h' tk' ws hlD hj hk hLD hDg g'' h'' F'' k''
    have e : sps.take ((tps.map Value.ref).toArray.size) = sps := List.take_of_length_le (by simp; omega)
    rw [e] at hj
    have kg : ∀ b o, g.get? b = some o → g''.get? b = some o := fun b o e => k'' b o (F.ne e) (hk b o e)
    have G2 := G.keeps kg
    refine evs_nil ?_
    refine kws_cons ?_
    refine ldFn 20 F'' G2 fun q fq => ?_
    refine kws_nil ⟨F''.keep _ _ (kg _ _ hoA), ?_⟩
    show wpAny _ _ (call (.ref a) [_, _] [(Str.ofString "key", .ref q)]) _ _ _
    refine spec_ns (R.le (by omega)) (G2.keeps F''.keep) ea (fq.keeps F''.keep) (F''.list (hlD.at fun o e => k'' _ o (Nat.ne_of_gt hLD) e)) hj hNm h1wn hwn h2 (by omega) fun h7 tk7 D7 ws7 qs k7 hD7 hsm7 hS7 => ?_
    have F7 := F''.up k7
    obtain rfl := hsm7.uniq hsm
    walk_at "S"
    refine sl_eqAt (by have := R.u; show _ < 9900; omega) hD7 (F7.list (ho.at fun o e => kg _ _ e)) hS7 hS ?_
    exact hQ h7 _ fun b o e => k7 _ _ (F''.keep _ _ (kg _ _ e))
end
end
section
open PySem.W PySem.SeqAt
set_option maxHeartbeats 4000000 in
theorem law_spec : LawSpec := by
  intro w A E s mg mb fa lp its ns Q R f G hl hi hlen hQ
  refine enter [("script", .ref lp)] ["script"] (i := 22) R f G.lim (fun L h₁ pm c doc E' tk A' F R1 => ?_)
  show wpAny (MM w) A' (execs [stN 22 0, stN 22 1, stN 22 2, stN 22 3, stN 22 4, stN 22 5, stN 22 6, stN 22 7] _) _ _ _
  refine wpAny_execs_cons ?_
  refine law_s0 (R1.le (by omega)) G F (by walk_at "lk") hl hi hlen fun g0 h0 tk0 dp sps F0 hn0 hNm hs4 hs10 k0 => ?_
  simp only [put, String.reduceEq, if_true, if_false] at F0
  have G0 := G.keeps k0
  obtain ⟨tps, hd, htl, hat⟩ := id hn0
  have hds : (tps.map Value.ref).toArray.size = sps.length := by simp [htl]
  refine wpAny_execs_cons ?_
  refine law_s1 (s := { s with heap := h0, toks := tk0 }) (R1.le (by omega)) G0 F0 (by walk_at "lk") (by walk_at "lk") (hl.at fun o e => k0 _ o e) hi hlen hd hds hs4 hs10 fun h1 tk1 wn tw F1 w1 w2 => ?_
  simp only [put, String.reduceEq, if_true, if_false] at F1
  refine wpAny_execs_cons ?_
  refine law_s2 (s := { s with heap := h1, toks := tk1 }) (R1.le (by omega)) G0 F1 (by walk_at "lk") hd hds hs4 hs10 fun g2 h2 tk2 hp xs F2 hx2 e2 k2 n2 => ?_
  simp only [put, String.reduceEq, if_true, if_false] at F2
  have hxl : xs.length = sps.length := by
    have := congrArg List.length e2
    simpa [initOf] using this
  refine wpAny_execs_cons ?_
  refine law_s3 (s := { s with heap := h2, toks := tk2 }) (R1.le (by omega)) (G0.keeps k2) F2 (by walk_at "lk") hx2 (by omega) fun g3 h3 tk3 F3 hx3 k3 => ?_
  have k03 : ∀ b o, g0.get? b = some o → g3.get? b = some o := fun b o e => k3 b o (by rintro rfl; rw [n2] at e; cases e) (k2 _ _ e)
  refine wpAny_execs_cons ?_
  refine law_s4 (s := { s with heap := h3, toks := tk3 }) (R1.le (by omega)) F3 fun g4 h4 tk4 tp op F4 ht4 ho4 k4 n4 m4 hto => ?_
  simp only [put, String.reduceEq, if_true, if_false] at F4
  have k04 : ∀ b o, g0.get? b = some o → g4.get? b = some o := fun b o e => k4 _ _ (k03 _ _ e)
  have nt : g0.get? tp = none := by
    cases e : g0.get? tp with
    | none => rfl
    | some o => rw [k03 _ _ e] at n4; cases n4
  have no : g0.get? op = none := by
    cases e : g0.get? op with
    | none => rfl
    | some o => rw [k03 _ _ e] at m4; cases m4
  obtain ⟨nh, hgh⟩ := hx3.1
  have hht : hp ≠ tp := by rintro rfl; rw [hgh] at n4; cases n4
  have hho : hp ≠ op := by rintro rfl; rw [hgh] at m4; cases m4
  have hper : ((hfy (fun a b : V3 => lt3 a.2 b.2) (xs.length / 2) xs).map Prod.snd).Perm (initOf sps.length sps.length) := by
    have := (hfy_perm (fun a b : V3 => lt3 a.2 b.2) (xs.length / 2) xs).map Prod.snd
    rw [e2] at this
    exact this
  refine wpAny_execs_cons ?_
  refine law_s5 (s := { s with heap := h4, toks := tk4 }) (gb := g0) (R1.le (by omega)) G0 (by walk_at "sub") k04 n2 nt no hht hho hto hn0 hNm hs10 w2 (hx3.keeps k4) (hfy_hf wo3 _ _ (hf_half xs)) (Mg.init w1 hper) ht4 ho4 fun g5 h5 tk5 xs5 ts5 os5 told F5 hx5 ht5 ho5 hS5 hM5 hl5 k5 => ?_
  refine wpAny_execs_cons ?_
  refine law_s6 (s := { s with heap := h5, toks := tk5 }) (R1.le (by omega)) (G0.keeps k5) F5 (hn0.keeps k5) hNm hs10 w1 hx5 ht5 hM5 hl5 fun g6 h6 tk6 F6 k6 => ?_
  have k06 : ∀ b o, g0.get? b = some o → g6.get? b = some o := fun b o e => k6 _ _ (k5 _ _ e)
  refine wpAny_execs_cons ?_
  refine law_s7 (s := { s with heap := h6, toks := tk6 }) (R1.le (by omega)) (G0.keeps k06) F6 (hn0.keeps k06) hNm (by omega) hs10 w1 w2 (ho5.at fun o e => k6 _ o e) hS5 (hM5.small hl5) fun h7 tk7 k7 => ?_
  exact hQ h7 tk7 fun b o e => k7 _ _ (k06 _ _ (k0 _ _ e))
end
end
end Mine
theorem PySem.Challenge.cw_mq0400_01_holds : PySem.Challenge.rw_mq0400_01.Holds := by
  exact PySem.W.holds_law Mine.said fun h => ⟨h, ⟨[.list []], by decide +kernel, by decide +kernel⟩, Mine.holds_by Mine.law_spec⟩
