import PyProof.Rows.All
import Wide.All
import OpenK.AllK
import Wide.FinOn
import PySem.Challenge.RW_dm0065_01

set_option Elab.async false
set_option maxRecDepth 100000

section
open PySem PySem.W PyProof.Rows
namespace Mine

/-! the texts' parts, taken out of the row's own term -/
def stmts : List Stmt := PySem.Challenge.pw_dm0065_01.main.body
def defBody : Stmt → List Stmt | .FunctionDef _ _ b _ _ _ _ _ _ _ => b | _ => []
def defScope : Stmt → Scope | .FunctionDef _ _ _ _ _ _ s _ _ _ => s | _ => default
def defArgs : Stmt → Arguments | .FunctionDef _ a _ _ _ _ _ _ _ _ => a | _ => default
def clsBody : Stmt → List Stmt | .ClassDef _ _ _ b _ _ _ _ _ _ _ => b | _ => []
def dText : Stmt := stmts.getD 9 (.Pass default)
def dSize : Stmt := stmts.getD 10 (.Pass default)
def dRows : Stmt := stmts.getD 11 (.Pass default)
def dPieces : Stmt := stmts.getD 12 (.Pass default)
def dLaw : Stmt := stmts.getD 13 (.Pass default)
def cls : List Stmt := clsBody (stmts.getD 7 (.Pass default))
def dInit : Stmt := cls.getD 5 (.Pass default)
def dSplit : Stmt := cls.getD 8 (.Pass default)
def dWrap : Stmt := cls.getD 9 (.Pass default)

/-! views of a heap, and what is owned -/
abbrev View := Addr → Option Obj
def Le (g g' : View) : Prop := ∀ a o, g a = some o → g' a = some o
theorem Le.refl (g : View) : Le g g := fun _ _ e => e
theorem Le.trans {g g' g'' : View} (x : Le g g') (y : Le g' g'') : Le g g'' := fun a o e => y a o (x a o e)
def Up (n : Nat) (g g' : View) : Prop := Le g g' ∧ ∀ a o, g' a = some o → g a = some o ∨ n ≤ a
theorem Up.refl (n : Nat) (g : View) : Up n g g := ⟨Le.refl g, fun _ _ e => .inl e⟩
theorem Up.trans {n : Nat} {g g' g'' : View} (x : Up n g g') (y : Up n g' g'') : Up n g g'' :=
  ⟨x.1.trans y.1, fun a o e => (y.2 a o e).elim (fun e' => x.2 a o e') .inr⟩
theorem Up.low {n m : Nat} {g g' : View} (h : n ≤ m) (x : Up m g g') : Up n g g' :=
  ⟨x.1, fun a o e => (x.2 a o e).imp id fun q => Nat.le_trans h q⟩
def put (g : View) (n : Addr) (o : Obj) : View := fun a => if a = n then some o else g a

inductive Thing where
  | vars (vs : List (Str × Value))
  | cell (v : Option Value)
  | list (its : List Value)
  | iter (l : Addr) (i : Nat)
  | raw (P : Obj → Prop)

def isNs (o : Obj) (m : Str → Option Value) : Prop := ∃ es ep, o.data = .dict es ep ∧ StrKeys es ∧ ∀ name, nsFind es name = m name
def Thing.is : Thing → Obj → Prop
  | .vars vs, o => ∃ m, isNs o m ∧ ∀ x v, vs.lookup x = some v → m x = some v
  | .cell v, o => o.data = .cell v
  | .list its, o => ∃ n, o = { cls := .type "list", data := .seq its.toArray n }
  | .iter l i, o => o.cls = .type "list_iterator" ∧ o.data = .fields #[.ref l, .int i 0]
  | .raw P, o => P o
def Own (h : Heap) (a : Addr) (t : Thing) : Prop := ∃ o, h.get? a = some o ∧ t.is o

structure Fx where
  n : Nat
  k : View
  os : OsState
  gens : Array GenState

structure St (F : Fx) (g : View) (ms : List (Addr × Thing)) (s : Shared) : Prop where
  os : s.os = F.os
  gens : s.gens = F.gens
  sz : F.n ≤ s.heap.objs.size
  kp : Le F.k s.heap.get?
  dat : Le g s.heap.get?
  now : ∀ p ∈ ms, Own s.heap p.1 p.2 ∧ g p.1 = none ∧ F.k p.1 = none
  nd : (ms.map (·.1)).Nodup

theorem Own.lt {h : Heap} {a : Addr} {t : Thing} (x : Own h a t) : a < h.objs.size := let ⟨_, e, _⟩ := x; Heap.lt_size e

section
variable {F : Fx} {g : View} {ms : List (Addr × Thing)} {s : Shared}

theorem St.toks (S : St F g ms s) (t : Nat) : St F g ms { s with toks := t } := ⟨S.os, S.gens, S.sz, S.kp, S.dat, S.now, S.nd⟩
theorem mem_of_idx {α : Type} {l : List α} {i : Nat} {x : α} (h : l[i]? = some x) : x ∈ l := List.mem_of_getElem? h
theorem St.own (S : St F g ms s) (i : Nat) {a : Addr} {t : Thing} (h : ms[i]? = some (a, t)) : Own s.heap a t := (S.now _ (mem_of_idx h)).1
theorem St.noNew (S : St F g ms s) : g s.heap.objs.size = none := by
  cases e : g s.heap.objs.size with
  | none => rfl
  | some o => exact absurd (Heap.lt_size (S.dat _ _ e)) (Nat.lt_irrefl _)
theorem St.noNewK (S : St F g ms s) : F.k s.heap.objs.size = none := by
  cases e : F.k s.heap.objs.size with
  | none => rfl
  | some o => exact absurd (Heap.lt_size (S.kp _ _ e)) (Nat.lt_irrefl _)
theorem Own.push {h : Heap} {a : Addr} {t : Thing} (x : Own h a t) (o : Obj) : Own (h.push o) a t := let ⟨o', e, p⟩ := x; ⟨o', Heap.get?_push_of_some o e, p⟩
theorem Le.push {g : View} {h : Heap} (x : Le g h.get?) (o : Obj) : Le g (h.push o).get? := fun a o' e => Heap.get?_push_of_some o (x a o' e)

theorem St.allocM (S : St F g ms s) {o : Obj} {t : Thing} (hf : o.isFreed = false) (ht : t.is o) :
    St F g (ms ++ [(s.heap.objs.size, t)]) { s with heap := s.heap.push o } := by
  refine ⟨S.os, S.gens, ?_, S.kp.push o, S.dat.push o, fun p hp => ?_, ?_⟩
  · show F.n ≤ (s.heap.push o).objs.size
    rw [Heap.size_push]; exact Nat.le_succ_of_le S.sz
  · rcases List.mem_append.mp hp with q | q
    · exact ⟨(S.now p q).1.push o, (S.now p q).2⟩
    · rw [List.mem_singleton.mp q]
      exact ⟨⟨o, Heap.get?_push_size _ hf, ht⟩, S.noNew, S.noNewK⟩
  · rw [List.map_append, List.nodup_append]
    refine ⟨S.nd, by simp, fun a ha b hb => ?_⟩
    obtain ⟨p, hp, rfl⟩ := List.mem_map.mp ha
    simp at hb; subst hb
    exact Nat.ne_of_lt (S.now p hp).1.lt

theorem put_self (g : View) (n : Addr) (o : Obj) : put g n o n = some o := by simp [put]
theorem put_le {g : View} {n : Addr} (h : g n = none) (o : Obj) : Le g (put g n o) := fun a o' e => by
  unfold put
  by_cases q : a = n
  · subst q; rw [h] at e; cases e
  · rw [if_neg q]; exact e
theorem St.allocI (S : St F g ms s) {o : Obj} (hf : o.isFreed = false) :
    Up F.n g (put g s.heap.objs.size o) ∧ St F (put g s.heap.objs.size o) ms { s with heap := s.heap.push o } := by
  refine ⟨⟨put_le S.noNew o, fun a o' e => ?_⟩, S.os, S.gens, ?_, S.kp.push o, fun a o' e => ?_, fun p hp => ⟨(S.now p hp).1.push o, ?_, (S.now p hp).2.2⟩, S.nd⟩
  · unfold put at e
    by_cases q : a = s.heap.objs.size
    · right; rw [q]; exact S.sz
    · left; rw [if_neg q] at e; exact e
  · show F.n ≤ (s.heap.push o).objs.size
    rw [Heap.size_push]; exact Nat.le_succ_of_le S.sz
  · unfold put at e
    by_cases q : a = s.heap.objs.size
    · rw [if_pos q] at e; cases e; rw [q]; exact Heap.get?_push_size _ hf
    · rw [if_neg q] at e; exact Heap.get?_push_of_some o (S.dat _ _ e)
  · have := (S.now p hp).1.lt
    unfold put
    rw [if_neg (Nat.ne_of_lt this)]; exact (S.now p hp).2.1

theorem set_map_fst {i : Nat} {a : Addr} {t t' : Thing} (hi : ms[i]? = some (a, t)) : (ms.set i (a, t')).map (·.1) = ms.map (·.1) := by
  rw [List.map_set]
  apply List.ext_getElem?
  intro j
  rw [List.getElem?_set]
  split
  · rename_i q; subst q
    rw [List.getElem?_map, hi]
    split
    · rfl
    · rename_i q; simp at q; rw [List.getElem?_eq_none_iff.mpr q] at hi; cases hi
  · rfl

theorem St.change (S : St F g ms s) (i : Nat) {a : Addr} {t t' : Thing} {h' : Heap} (hi : ms[i]? = some (a, t)) (hs : Heap.SameBut a s.heap h') (ho : Own h' a t') :
    St F g (ms.set i (a, t')) { s with heap := h' } := by
  have na := (S.now _ (mem_of_idx hi)).2
  refine ⟨S.os, S.gens, ?_, fun b o e => ?_, fun b o e => ?_, fun p hp => ?_, ?_⟩
  · show F.n ≤ h'.objs.size
    rw [hs.1]; exact S.sz
  · exact (hs.2 b (fun q => by rw [q, na.2] at e; cases e)).trans (S.kp b o e)
  · exact (hs.2 b (fun q => by rw [q, na.1] at e; cases e)).trans (S.dat b o e)
  · obtain ⟨j, hj⟩ := List.getElem?_of_mem hp
    rw [List.getElem?_set] at hj
    split at hj
    · split at hj
      · cases hj; exact ⟨ho, na⟩
      · cases hj
    · rename_i hij
      have pm := mem_of_idx hj
      refine ⟨?_, (S.now p pm).2⟩
      obtain ⟨o, e, ht⟩ := (S.now p pm).1
      refine ⟨o, (hs.2 p.1 fun q => ?_).trans e, ht⟩
      have h1 : (ms.map (·.1))[i]? = some a := by rw [List.getElem?_map, hi]; rfl
      have h2 : (ms.map (·.1))[j]? = some a := by rw [List.getElem?_map, hj, ← q]; rfl
      have hil : i < (ms.map (·.1)).length := (List.getElem?_eq_some_iff.mp h1).1
      exact hij (List.getElem?_inj hil S.nd |>.mp (h1.trans h2.symm))
  · rw [set_map_fst hi]; exact S.nd

theorem mem_erase {i : Nat} {p : Addr × Thing} (h : p ∈ ms.eraseIdx i) : p ∈ ms := List.mem_of_mem_eraseIdx h
theorem erase_ne {i : Nat} {a : Addr} {t : Thing} (hi : ms[i]? = some (a, t)) (nd : (ms.map (·.1)).Nodup) {p : Addr × Thing} (h : p ∈ ms.eraseIdx i) : p.1 ≠ a := by
  intro q
  obtain ⟨j, hj⟩ := List.getElem?_of_mem h
  rw [List.getElem?_eraseIdx] at hj
  have h1 : (ms.map (·.1))[i]? = some a := by rw [List.getElem?_map, hi]; rfl
  have hil : i < (ms.map (·.1)).length := (List.getElem?_eq_some_iff.mp h1).1
  split at hj
  · have h2 : (ms.map (·.1))[j]? = some a := by rw [List.getElem?_map, hj, ← q]; rfl
    have := List.getElem?_inj hil nd |>.mp (h1.trans h2.symm); lia
  · have h2 : (ms.map (·.1))[j + 1]? = some a := by rw [List.getElem?_map, hj, ← q]; rfl
    have := List.getElem?_inj hil nd |>.mp (h1.trans h2.symm); lia
theorem nodup_erase {i : Nat} (nd : (ms.map (·.1)).Nodup) : ((ms.eraseIdx i).map (·.1)).Nodup :=
  nd.sublist ((List.eraseIdx_sublist ms i).map _)
theorem St.drop (S : St F g ms s) (i : Nat) : St F g (ms.eraseIdx i) s :=
  ⟨S.os, S.gens, S.sz, S.kp, S.dat, fun p hp => S.now p (mem_erase hp), nodup_erase S.nd⟩
theorem St.dropBut (S : St F g ms s) (i : Nat) {a : Addr} {t : Thing} {h' : Heap} (hi : ms[i]? = some (a, t)) (hz : F.n ≤ h'.objs.size) (hs : Heap.ExtBut a s.heap h') :
    St F g (ms.eraseIdx i) { s with heap := h' } := by
  have na := (S.now _ (mem_of_idx hi)).2
  refine ⟨S.os, S.gens, hz, fun b o e => ?_, fun b o e => ?_, fun p hp => ?_, nodup_erase S.nd⟩
  · exact hs b o (fun q => by rw [q, na.2] at e; cases e) (S.kp b o e)
  · exact hs b o (fun q => by rw [q, na.1] at e; cases e) (S.dat b o e)
  · refine ⟨?_, (S.now p (mem_erase hp)).2⟩
    obtain ⟨o, e, ht⟩ := (S.now p (mem_erase hp)).1
    exact ⟨o, hs p.1 o (erase_ne hi S.nd hp) e, ht⟩
theorem St.ext (S : St F g ms s) {s' : Shared} (h1 : s'.os = s.os) (h2 : s'.gens = s.gens) (hz : s.heap.objs.size ≤ s'.heap.objs.size) (hs : Le s.heap.get? s'.heap.get?) : St F g ms s' :=
  ⟨h1.trans S.os, h2.trans S.gens, Nat.le_trans S.sz hz, S.kp.trans hs, S.dat.trans hs, fun p hp => ⟨let ⟨o, e, t⟩ := (S.now p hp).1; ⟨o, hs _ _ e, t⟩, (S.now p hp).2⟩, S.nd⟩
theorem St.freeze (S : St F g ms s) (i : Nat) {a : Addr} {t : Thing} (hi : ms[i]? = some (a, t)) (ha : F.n ≤ a) :
    ∃ o, t.is o ∧ Up F.n g (put g a o) ∧ St F (put g a o) (ms.eraseIdx i) s := by
  obtain ⟨⟨o, e, ht⟩, ng, nk⟩ := S.now _ (mem_of_idx hi)
  refine ⟨o, ht, ⟨put_le ng o, fun b o' e' => ?_⟩, S.os, S.gens, S.sz, S.kp, fun b o' e' => ?_, fun p hp => ⟨(S.now p (mem_erase hp)).1, ?_, (S.now p (mem_erase hp)).2.2⟩, nodup_erase S.nd⟩
  · unfold put at e'
    by_cases q : b = a
    · right; rw [q]; exact ha
    · left; rw [if_neg q] at e'; exact e'
  · unfold put at e'
    by_cases q : b = a
    · rw [if_pos q] at e'; cases e'; rw [q]; exact e
    · rw [if_neg q] at e'; exact S.dat _ _ e'
  · unfold put
    rw [if_neg (erase_ne hi S.nd hp)]; exact (S.now p (mem_erase hp)).2.1
end
end Mine
end

section
open PySem PySem.W PyProof.Rows
namespace Mine

structure Ad where
  text : Addr
  size : Addr
  rows : Addr
  pieces : Addr
  html : Addr

def mkFd (nm qual : Str) (d : Stmt) (dflt doc pm cd ct : Value) (an : Option Addr) : FuncData :=
  { name := nm, qualname := qual, params := defArgs d, body := .stmts (defBody d), scope := defScope d, globals := mainGlobals, closure := [], defaults := dflt, kwdefaults := .none,
    doc := doc, pyModule := pm, annotations := an, code := cd, closureTuple := ct, builtins := builtinsNs }
def FnAt (h : Heap) (f : Addr) (nm qual : Str) (d : Stmt) (dflt : Value) : Prop :=
  ∃ o doc pm cd ct an, h.get? f = some o ∧ o.data = .func (mkFd nm qual d dflt doc pm cd ct an) ∧ h.CodeRec cd qual
def GName (h : Heap) (x : Str) (v : Value) : Prop :=
  ∃ mg mb, h.Ns mainGlobals mg ∧ h.Ns builtinsNs mb ∧ (mg x = some v ∨ (mg x = none ∧ mb x = some v))

theorem FnAt.mono {h h' : Heap} {f nm qual d dflt} (x : FnAt h f nm qual d dflt) (k : Le h.get? h'.get?) : FnAt h' f nm qual d dflt :=
  let ⟨o, doc, pm, cd, ct, an, e, p, c⟩ := x; ⟨o, doc, pm, cd, ct, an, k _ _ e, p, c.keeps k⟩
theorem GName.mono {h h' : Heap} {x v} (q : GName h x v) (k : Le h.get? h'.get?) : GName h' x v :=
  let ⟨mg, mb, e, p, c⟩ := q; ⟨mg, mb, e.keeps k, p.keeps k, c⟩

structure Txt (D : Ad) (h : Heap) : Prop where
  lim : h.NoLimit
  fText : FnAt h D.text "_law_text" "_law_text" dText .none
  fSize : FnAt h D.size "_law_size" "_law_size" dSize .none
  fRows : FnAt h D.rows "_law_rows" "_law_rows" dRows .none
  fPieces : FnAt h D.pieces "_law_pieces" "_law_pieces" dPieces .none
  nText : GName h "_law_text" (.ref D.text)
  nSize : GName h "_law_size" (.ref D.size)
  nRows : GName h "_law_rows" (.ref D.rows)
  nPieces : GName h "_law_pieces" (.ref D.pieces)
  nHtml : GName h "HtmlDiff" (.ref D.html)
  nLen : GName h "len" (.builtin "len")
  nSum : GName h "sum" (.builtin "sum")
  nMax : GName h "max" (.builtin "max")
  nIter : GName h "iter" (.builtin "iter")
  nNext : GName h "next" (.builtin "next")
  nRange : GName h "range" (.type "range")

theorem Txt.mono {D : Ad} {h h' : Heap} (T : Txt D h) (k : Le h.get? h'.get?) : Txt D h' where
  lim := T.lim.keeps k
  fText := T.fText.mono k
  fSize := T.fSize.mono k
  fRows := T.fRows.mono k
  fPieces := T.fPieces.mono k
  nText := T.nText.mono k
  nSize := T.nSize.mono k
  nRows := T.nRows.mono k
  nPieces := T.nPieces.mono k
  nHtml := T.nHtml.mono k
  nLen := T.nLen.mono k
  nSum := T.nSum.mono k
  nMax := T.nMax.mono k
  nIter := T.nIter.mono k
  nNext := T.nNext.mono k
  nRange := T.nRange.mono k

/-! data, over views -/
def TupAt (g : View) (v : Value) (its : List Value) : Prop := ∃ a, v = .ref a ∧ g a = some { cls := .type "tuple", data := .seq its.toArray }
def LstAt (g : View) (v : Value) (its : List Value) : Prop := ∃ a n, v = .ref a ∧ g a = some { cls := .type "list", data := .seq its.toArray n }
theorem TupAt.mono {g g' : View} {v its} (x : TupAt g v its) (k : Le g g') : TupAt g' v its := let ⟨a, e, p⟩ := x; ⟨a, e, k _ _ p⟩
theorem LstAt.mono {g g' : View} {v its} (x : LstAt g v its) (k : Le g g') : LstAt g' v its := let ⟨a, n, e, p⟩ := x; ⟨a, n, e, k _ _ p⟩

inductive All2 {α β : Type} (R : α → β → Prop) : List α → List β → Prop
  | nil : All2 R [] []
  | cons {a b l m} : R a b → All2 R l m → All2 R (a :: l) (b :: m)
theorem All2.imp {α β : Type} {R R' : α → β → Prop} (h : ∀ a b, R a b → R' a b) : ∀ {l m}, All2 R l m → All2 R' l m
  | _, _, .nil => .nil
  | _, _, .cons x y => .cons (h _ _ x) (y.imp h)
theorem All2.length {α β : Type} {R : α → β → Prop} : ∀ {l m}, All2 R l m → l.length = m.length
  | _, _, .nil => rfl
  | _, _, .cons _ y => by simp [y.length]
theorem All2.append {α β : Type} {R : α → β → Prop} : ∀ {l m l' m'}, All2 R l m → All2 R l' m' → All2 R (l ++ l') (m ++ m')
  | _, _, _, _, .nil, y => y
  | _, _, _, _, .cons x y, z => .cons x (y.append z)
theorem All2.get {α β : Type} {R : α → β → Prop} : ∀ {l m} {i : Nat} {a : α}, All2 R l m → l[i]? = some a → ∃ b, m[i]? = some b ∧ R a b
  | _, _, 0, _, .cons x _, h => by simp at h; subst h; exact ⟨_, by simp, x⟩
  | _, _, i + 1, _, .cons _ y, h => by simp at h ⊢; exact y.get h
theorem All2.get' {α β : Type} {R : α → β → Prop} : ∀ {l m} {i : Nat} {b : β}, All2 R l m → m[i]? = some b → ∃ a, l[i]? = some a ∧ R a b
  | _, _, 0, _, .cons x _, h => by simp at h; subst h; exact ⟨_, by simp, x⟩
  | _, _, i + 1, _, .cons _ y, h => by simp at h ⊢; exact y.get' h

/-! the rules -/
section
variable {prog : Program} {w : World} {A : Around} {E : Value → Shared → Prop} {env : Env} {F : Fx} {g : View} {ms : List (Addr × Thing)} {s : Shared} {vs : List (Str × Value)}

theorem own_ns {h : Heap} {L : Addr} (x : Own h L (.vars vs)) : ∃ m, h.Ns L m ∧ ∀ x v, vs.lookup x = some v → m x = some v :=
  let ⟨o, e, m, ⟨es, ep, a, b, c⟩, q⟩ := x; ⟨m, ⟨o, es, ep, e, a, b, c⟩, q⟩
theorem ns_own {h : Heap} {L : Addr} {m : Str → Option Value} (x : h.Ns L m) (q : ∀ x v, vs.lookup x = some v → m x = some v) : Own h L (.vars vs) :=
  let ⟨o, es, ep, e, a, b, c⟩ := x; ⟨o, e, m, ⟨es, ep, a, b, c⟩, q⟩

theorem St.head (S : St F g ((env.locals, .vars vs) :: ms) s) : Own s.heap env.locals (.vars vs) := S.own 0 rfl

theorem r_load {x : Str} {v : Value} {Q : Value → Shared → Prop} (S : St F g ((env.locals, .vars vs) :: ms) s) (hv : vs.lookup x = some v) (h : Q v s)
    (hk : env.scope.kind = .function := by rfl) (hl : env.kindOf x = some .local := by rfl) :
    wpAny (model prog w) A (loadName env x) Q E s :=
  let ⟨_, N, q⟩ := own_ns S.head; wpAny_loadName_local hk hl N (q _ _ hv) h
theorem r_ld {x : Str} {pos : Pos} {v : Value} {Q : Value → Shared → Prop} (S : St F g ((env.locals, .vars vs) :: ms) s) (hv : vs.lookup x = some v) (h : Q v s)
    (hk : env.scope.kind = .function := by rfl) (hl : env.kindOf x = some .local := by rfl) (hd : (x == ("__debug__" : Str)) = false := by decide) :
    wpAny (model prog w) A (eval (.Name x pos) env) Q E s := wpAny_Name (r_load S hv h hk hl) hd

theorem r_store {x : Str} {v : Value} {Q : Unit → Shared → Prop} (S : St F g ((env.locals, .vars vs) :: ms) s)
    (h : ∀ s', St F g ((env.locals, .vars ((x, v) :: vs)) :: ms) s' → Q () s')
    (hk : env.scope.kind = .function := by rfl) (hl : env.kindOf x = some .local := by rfl) :
    wpAny (model prog w) A (storeName env x v) Q E s := by
  obtain ⟨m, N, q⟩ := own_ns S.head
  refine wpAny_storeName_local hl N (fun h' hn hs => h _ ?_) (by rw [hk]; rfl)
  refine (S.change 0 (t' := .vars ((x, v) :: vs)) rfl hs (ns_own hn fun y u e => ?_)).toks _
  rw [List.lookup_cons] at e
  by_cases hy : y = x
  · subst hy; simpa using e
  · have : (y == x) = false := by simpa using hy
    rw [this] at e
    simp only [hy, if_false]; exact q _ _ e

theorem r_glob {x : Str} {pos : Pos} {v : Value} {Q : Value → Shared → Prop} (G : GName s.heap x v) (h : Q v s)
    (hg : env.globals = mainGlobals := by rfl) (hb : env.builtins = builtinsNs := by rfl)
    (hk : env.scope.kind = .function := by rfl) (hx : env.kindOf x = some .globalImplicit := by rfl) (hd : (x == ("__debug__" : Str)) = false := by decide) :
    wpAny (model prog w) A (eval (.Name x pos) env) Q E s := by
  obtain ⟨mg, mb, N1, N2, q⟩ := G
  refine Calls.Name_function_global hk hx ?_ (hd := hd)
  rcases q with q | ⟨q1, q2⟩
  · exact Calls.loadGlobal_global (hg ▸ N1) q h
  · exact Calls.loadGlobal_builtin (hg ▸ N1) q1 (hb ▸ N2) q2 h

theorem r_int {i : Int} {k : Nat} {pos : Pos} {Q : Value → Shared → Prop} (S : St F g ms s) (h : ∀ t s', St F g ms s' → Q (.int i t) s') : wpAny (model prog w) A (eval (.Constant (.int i) k pos) env) Q E s :=
  wpAny_Constant_int (h _ _ (S.toks _))
theorem r_str {x : Str} {k : Nat} {pos : Pos} {Q : Value → Shared → Prop} (S : St F g ms s) (h : ∀ t s', St F g ms s' → Q (.str x t) s') : wpAny (model prog w) A (eval (.Constant (.str x) k pos) env) Q E s :=
  Calls.Constant_str (h _ _ (S.toks _))

theorem r_seq {st : Stmt} {rest : List Stmt} {Q : Flow → Shared → Prop} {P : Shared → Prop} (h1 : wpAny (model prog w) A (exec st env) (fun f s' => f = .next ∧ P s') E s)
    (h2 : ∀ s', P s' → wpAny (model prog w) A (execs rest env) Q E s') : wpAny (model prog w) A (execs (st :: rest) env) Q E s := by
  refine wpAny_execs_cons (wpAny_mono h1 (fun f s' h => ?_) fun _ _ e => e)
  obtain ⟨rfl, h⟩ := h
  exact h2 s' h

/-- entering a plain def -/
theorem r_call {f : Addr} {nm qual : Str} {d : Stmt} {dflt : Value} {args : Args} {binds : List (Str × Value)} {R : Result → Shared → Prop} {g : View}
    (X : FnAt s.heap f nm qual d dflt) (hlim : s.heap.NoLimit) (hroom : A.depth < recursionLimit) (hg : Le g s.heap.get?)
    (hbind : ∀ doc pm cd ct an, BindsTo s (mkFd nm qual d dflt doc pm cd ct an) args binds)
    (h : ∀ F doc pm cd ct an A' s₁, F.n = s.heap.objs.size → F.k = s.heap.get? → F.os = s.os → F.gens = s.gens → A'.handled = A.handled → A'.depth = A.depth + 1 → A'.units = A.units + 3 → St F g [(F.n, .vars binds.reverse)] s₁ →
      wpAny (model prog w) A' (execs (defBody d) (callEnv (mkFd nm qual d dflt doc pm cd ct an) F.n f)) (fun fl s' => R (.ok (.ret (match fl with | .ret v => v | _ => .none))) s') (fun _ _ => False) s₁)
    (hcell : ((defScope d).names.all fun x => x.2 != .cell) = true := by rfl) (hloc : (binds.map (·.1)).all (fun x => (defScope d).names.lookup x == some .local) = true := by rfl)
    (hco : (defScope d).isCoroutine = false := by rfl) (hgen : (defScope d).isGenerator = false := by rfl) (hk : (defScope d).kind = .function := by rfl) :
    codeAny (model prog w) A (.call (.ref f) args) R s := by
  obtain ⟨o, doc, pm, cd, ct, an, e, p, c⟩ := X
  have hcell' : ∀ x ∈ (defScope d).names, x.2 ≠ .cell := fun x hx q => by
    have := List.all_eq_true.mp hcell x hx; rw [q] at this; cases this
  have hloc' : ∀ x ∈ binds, (defScope d).names.lookup x.1 = some .local := fun x hx => by
    have := List.all_eq_true.mp hloc x.1 (List.mem_map_of_mem hx); simpa using this
  refine codeAny_call_def hroom e p hlim c rfl (hbind doc pm cd ct an) hcell' hloc' (fun h₀ hn hk₀ => ?_) hco hgen hk
  refine wpAny_mono (h ⟨s.heap.objs.size, s.heap.get?, s.os, s.gens⟩ doc pm cd ct an _ _ rfl rfl rfl rfl ?_ ?_ ?_ ?_) (fun _ _ q => q) fun _ _ q => q.elim
  · rfl
  · rfl
  · rfl
  refine ⟨rfl, rfl, ?_, hk₀, hg.trans hk₀, fun q hq => ?_, by simp⟩
  · exact Nat.le_of_lt hn.lt
  · rw [List.mem_singleton.mp hq]
    refine ⟨ns_own hn fun _ _ e => e, ?_, ?_⟩
    · cases q : g s.heap.objs.size with
      | none => rfl
      | some o => exact absurd (Heap.lt_size (hg _ _ q)) (Nat.lt_irrefl _)
    · show s.heap.get? s.heap.objs.size = none
      cases q : s.heap.get? s.heap.objs.size with
      | none => rfl
      | some o => exact absurd (Heap.lt_size q) (Nat.lt_irrefl _)

theorem St.at0 {L : Addr} {t₀ : Thing} (S : St F g ((L, t₀) :: ms) s) (j : Nat) {a : Addr} {t : Thing} (hj : ((L, t₀) :: ms)[j + 1]? = some (a, t)) : L ≠ a := by
  intro q
  have h1 : (((L, t₀) :: ms).map (·.1))[0]? = some a := by rw [← q]; rfl
  have h2 : (((L, t₀) :: ms).map (·.1))[j + 1]? = some a := by rw [List.getElem?_map, hj]; rfl
  have := List.getElem?_inj (by simp) S.nd |>.mp (h1.trans h2.symm); lia
theorem St.dropIter {L : Addr} {t₀ : Thing} (S : St F g ((L, t₀) :: ms) s) (hL : F.n ≤ L) (j : Nat) {a : Addr} {t : Thing} {h' : Heap} (hj : ((L, t₀) :: ms)[j + 1]? = some (a, t)) (hs : Heap.ExtBut a s.heap h') :
    St F g (((L, t₀) :: ms).eraseIdx (j + 1)) { s with heap := h' } := by
  refine S.dropBut (j + 1) hj ?_ hs
  obtain ⟨o, e, _⟩ := S.own 0 (a := L) (t := t₀) rfl
  exact Nat.le_trans hL (Nat.le_of_lt (Heap.lt_size (hs L o (S.at0 j hj) e)))

theorem r_for_list {target iter : Expr} {body : List Stmt} {pos : Pos} {Q : Flow → Shared → Prop} {its : List Value} (I : Addr → Addr → Nat → Shared → Prop)
    (hh : A.handled = none) (hL : F.n ≤ env.locals)
    (h0 : wpAny (model prog w) A (eval iter env) (fun x s₁ => ∃ l, x = .ref l ∧ s₁.heap.IsList l its.toArray ∧
      I l s₁.heap.objs.size 0 { s₁ with heap := s₁.heap.push { cls := .type "list_iterator", data := .fields #[.ref l, .int 0 0] } }) (fun _ _ => False) s)
    (turn : ∀ l it i x s, its[i]? = some x → I l it i s → ∃ g t₀ ms j, St F g ((env.locals, t₀) :: ms) s ∧ ((env.locals, t₀) :: ms)[j + 1]? = some (it, .iter l i) ∧ s.heap.IsList l its.toArray ∧ l ≠ it ∧
      ∀ s', St F g (((env.locals, t₀) :: ms).set (j + 1) (it, .iter l (i + 1))) s' → wpAny (model prog w) A (assign target env x) (fun _ s₂ => wpAny (model prog w) A (execs body env) (fun f s₃ => match f with
        | .next | .cont => I l it (i + 1) s₃ | .brk => Q .next s₃ | .ret v => Q (.ret v) s₃) (fun _ _ => False) s₂) (fun _ _ => False) s')
    (fin : ∀ l it s, I l it its.length s → ∃ g t₀ ms j, St F g ((env.locals, t₀) :: ms) s ∧ ((env.locals, t₀) :: ms)[j + 1]? = some (it, .iter l its.length) ∧ s.heap.IsList l its.toArray ∧
      ∀ s', St F g (((env.locals, t₀) :: ms).eraseIdx (j + 1)) s' → Q .next s')
    (hown : (∀ it v, letOwnedTupleGo target it v = pure ()) ∨ ((∃ elts x1 pos, target = .Tuple elts x1 pos) ∧ ∀ x ∈ its, ∃ T, x = .ref T))
    (hs : ∀ x, foldedSetIterable iter env x = pure x := by intro _; rfl) :
    wpAny (model prog w) A (exec (.For target iter body [] pos) env) Q (fun _ _ => False) s := by
  refine wpAny_For (wpAny_mono h0 (fun x s₁ h₁ => ?_) fun _ _ e => e) hs
  obtain ⟨l, rfl, hl, hI⟩ := h₁
  refine wpAny_pyIter_list hl ?_
  refine codeAny_forLoop_any (fun n s' => ∃ i, n = its.length + 1 - i ∧ i ≤ its.length ∧ I l s₁.heap.objs.size i s') ?_ (its.length + 1) ⟨0, by simp, Nat.zero_le _, hI⟩
  rintro n s' ⟨i, rfl, hi, hI⟩
  by_cases hlt : i < its.length
  · have hx : its[i]? = some its[i] := List.getElem?_eq_getElem hlt
    obtain ⟨g, t₀, ms, j, S, hj, hl', hne, k⟩ := turn l _ i _ s' hx hI
    obtain ⟨o, e, hc, hd⟩ := S.own (j + 1) hj
    refine wpAny_pyNext_list_item ⟨o, e, hc, hd⟩ hl' (x := its[i]) (by rw [List.getElem?_toArray]; exact hx) fun h' hit hsb => ?_
    have S' := S.change (j + 1) (t' := .iter l (i + 1)) hj hsb (let ⟨o, e, hc, hd⟩ := hit; ⟨o, e, hc, hd⟩)
    have kk := k _ S'
    have own : wpAny (model prog w) A (letOwnedTupleGo target (.ref s₁.heap.objs.size) its[i]) (fun _ s'' => s'' = { s' with heap := h' }) (fun _ _ => False) { s' with heap := h' } := by
      rcases hown with q | ⟨⟨elts, x1, pp, rfl⟩, q⟩
      · exact wpAny_of_eq (q _ _) rfl
      · obtain ⟨T, e⟩ := q _ (List.getElem_mem hlt)
        rw [e]; exact wpAny_letOwnedTupleGo_listiter hit rfl
    refine wpAny_mono own (fun _ s'' e => ?_) fun _ _ e => e.elim
    subst e
    refine wpAny_mono kk (fun _ s₂ h₂ => wpAny_mono h₂ (fun f s₃ h₃ => ?_) fun _ _ e => e.elim) fun _ _ e => e.elim
    cases f with
    | next => exact ⟨its.length + 1 - (i + 1), by lia, i + 1, rfl, hlt, h₃⟩
    | cont => exact ⟨its.length + 1 - (i + 1), by lia, i + 1, rfl, hlt, h₃⟩
    | brk => exact h₃
    | ret v => exact h₃
  · have hi' : i = its.length := by lia
    subst hi'
    obtain ⟨g, t₀, ms, j, S, hj, hl', k⟩ := fin l _ s' hI
    obtain ⟨o, e, hc, hd⟩ := S.own (j + 1) hj
    refine wpAny_pyNext_list_end hh ⟨o, e, hc, hd⟩ hl' (by rw [List.getElem?_toArray]; exact List.getElem?_eq_none (Nat.le_refl _)) fun h' hsb => ?_
    exact wpAny_execs_nil (k _ (S.dropIter hL j hj hsb))

/-- unpacking a tuple into names -/
theorem r_untup {elts : List Expr} {x1 : Nat} {pos : Pos} {v : Value} {its : List Value} {Q : Unit → Shared → Prop} {L : Addr} {t₀ : Thing} (S : St F g ((L, t₀) :: ms) s) (hL : F.n ≤ L) (hh : A.handled = none) (X : TupAt s.heap.get? v its)
    (hn : (assignEach elts env).length = its.length) (hstar : (assignEach elts env).findIdx? (·.1) = none)
    (h : ∀ s', St F g ((L, t₀) :: ms) s' → Le s.heap.get? s'.heap.get? → wpAny (model prog w) A (assignInOrder ((assignEach elts env).map (·.2)) its) Q E s') :
    wpAny (model prog w) A (assign (.Tuple elts x1 pos) env v) Q E s := by
  obtain ⟨a, rfl, e⟩ := X
  refine wpAny_assign_Tuple (items := its.toArray) hh ⟨_, e, rfl, _, rfl⟩ (by simpa using hn) hstar fun h' hs => ?_
  have hlt : ∀ b o, s.heap.get? b = some o → b ≠ s.heap.objs.size := fun b o e => Nat.ne_of_lt (Heap.lt_size e)
  have le : Le s.heap.get? h'.get? := fun b o e => hs b o (hlt b o e) e
  have S' : St F g ((L, t₀) :: ms) { s with heap := h' } := by
    refine ⟨S.os, S.gens, ?_, S.kp.trans le, S.dat.trans le, fun p hp => ⟨let ⟨o, e, t⟩ := (S.now p hp).1; ⟨o, le _ _ e, t⟩, (S.now p hp).2⟩, S.nd⟩
    obtain ⟨o, e, _⟩ := S.own 0 (a := L) (t := t₀) rfl
    exact Nat.le_trans hL (Nat.le_of_lt (Heap.lt_size (le L o e)))
  have := h _ S' le
  simpa using this
end
end Mine
end

section
open PySem PySem.W PyProof.Rows
namespace Mine
section
variable {prog : Program} {w : World} {A : Around} {E : Value → Shared → Prop} {env : Env} {s : Shared}
theorem r_seqA {st : Stmt} {rest : List Stmt} {Q : Flow → Shared → Prop} (φ : (Shared → Prop) → Prop)
    (h1 : ∀ K, φ K → wpAny (model prog w) A (exec st env) (fun f s' => f = .next ∧ K s') E s)
    (h2 : φ fun s' => wpAny (model prog w) A (execs rest env) Q E s') : wpAny (model prog w) A (execs (st :: rest) env) Q E s := by
  refine wpAny_execs_cons (wpAny_mono (h1 _ h2) (fun f s' h => ?_) fun _ _ e => e)
  obtain ⟨rfl, h⟩ := h
  exact h
end
end Mine
end

section
open PySem PySem.W PyProof.Rows
namespace Mine

abbrev Stretch := List Nat × List Nat
def S (l : List Nat) : Str := ⟨l.toArray⟩
theorem S_append (a b : List Nat) : S a ++ S b = S (a ++ b) := by
  show Str.append (S a) (S b) = S (a ++ b)
  simp [S, Str.append]
theorem S_len (a : List Nat) : (S a).length = a.length := by simp [S, Str.length]
theorem S_beq (a b : List Nat) : (S a == S b) = (a == b) := by
  rw [Bool.eq_iff_iff]; simp [S]
theorem S_empty : Str.ofString "" = S [] := by decide +kernel
theorem S_0 : Str.ofString "\x00" = S [0] := by decide +kernel
theorem S_1 : Str.ofString "\x01" = S [1] := by decide +kernel
theorem S_gt : Str.ofString ">" = S [62] := by decide +kernel
theorem S_blank : Str.ofString " " = S [32] := by decide +kernel

def textOf : List Stretch → List Nat
  | [] => []
  | (m, sg) :: r => (if m = [] then sg else 0 :: m ++ sg ++ [1]) ++ textOf r
theorem textOf_append (a b : List Stretch) : textOf (a ++ b) = textOf a ++ textOf b := by
  induction a with
  | nil => rfl
  | cons x r ih => obtain ⟨m, sg⟩ := x; simp [textOf, ih]
def StrchAt (g : View) (v : Value) (x : Stretch) : Prop := ∃ t u, TupAt g v [.str (S x.1) t, .str (S x.2) u]
def StrchsAt (g : View) (v : Value) (l : List Stretch) : Prop := ∃ its, LstAt g v its ∧ All2 (StrchAt g) its l
theorem StrchAt.mono {g g' : View} {v x} (q : StrchAt g v x) (k : Le g g') : StrchAt g' v x := let ⟨t, u, p⟩ := q; ⟨t, u, p.mono k⟩
theorem StrchsAt.mono {g g' : View} {v x} (q : StrchsAt g v x) (k : Le g g') : StrchsAt g' v x := let ⟨t, u, p⟩ := q; ⟨t, u.mono k, p.imp fun _ _ z => z.mono k⟩

def sub : List (Str × Value) → List (Str × Value) → Prop
  | [], _ => True
  | (x, v) :: r, vs => vs.lookup x = some v ∧ sub r vs
theorem sub_lookup {vs : List (Str × Value)} : ∀ {vs' : List (Str × Value)}, sub vs' vs → ∀ x v, vs'.lookup x = some v → vs.lookup x = some v
  | [], _, _, _, e => by cases e
  | (y, u) :: r, ⟨h1, h2⟩, x, v, e => by
    rw [List.lookup_cons] at e
    by_cases q : x = y
    · subst q
      have : (x == x) = true := by simp
      rw [this] at e; cases e; exact h1
    · have : (x == y) = false := by simpa using q
      rw [this] at e; exact sub_lookup h2 x v e

section
variable {prog : Program} {w : World} {A : Around} {E : Value → Shared → Prop} {env : Env} {F : Fx} {g : View} {ms : List (Addr × Thing)} {s : Shared} {vs : List (Str × Value)}
theorem St.weak {L : Addr} {vs' : List (Str × Value)} (Z : St F g ((L, .vars vs) :: ms) s) (h : sub vs' vs) : St F g ((L, .vars vs') :: ms) s := by
  refine ⟨Z.os, Z.gens, Z.sz, Z.kp, Z.dat, fun p hp => ?_, Z.nd⟩
  rcases List.mem_cons.mp hp with rfl | q
  · have z := Z.now (L, .vars vs) (.head _)
    refine ⟨?_, z.2⟩
    obtain ⟨o, e, m, hm, k⟩ := z.1
    exact ⟨o, e, m, hm, fun x v q => k x v (sub_lookup h x v q)⟩
  · exact Z.now p (.tail _ q)
theorem r_assign {x : Str} {pos : Pos} {v : Value} {Q : Unit → Shared → Prop} (Z : St F g ((env.locals, .vars vs) :: ms) s)
    (h : ∀ s', St F g ((env.locals, .vars ((x, v) :: vs)) :: ms) s' → Q () s')
    (hk : env.scope.kind = .function := by rfl) (hl : env.kindOf x = some .local := by rfl) :
    wpAny (model prog w) A (assign (.Name x pos) env v) Q E s := wpAny_assign_Name (r_store Z h hk hl)

theorem text_spec {D : Ad} {R : Result → Shared → Prop} {v : Value} {l : List Stretch} (T : Txt D s.heap) (hroom : A.depth < recursionLimit) (hh : A.handled = none) (X : StrchsAt s.heap.get? v l)
    (hb : (textOf l).length ≤ 2 ^ 20)
    (h : ∀ s' t, s'.os = s.os → s'.gens = s.gens → s.heap.objs.size ≤ s'.heap.objs.size → Le s.heap.get? s'.heap.get? → R (.ok (.ret (.str (S (textOf l)) t))) s') :
    codeAny (model prog w) A (.call (.ref D.text) ⟨[v], []⟩) R s := by
  refine r_call (g := s.heap.get?) (binds := [("stretches", v)]) T.fText T.lim hroom (Le.refl _) (fun doc pm cd ct an => BindsTo.of_eq rfl) (fun F doc pm cd ct an A' s₁ f1 f2 f3 f4 a1 a2 a3 Z => ?_)
  replace hh : A'.handled = none := a1.trans hh
  refine r_seq (P := fun s' => ∃ t, St F s.heap.get? [(F.n, .vars [("text", .str (S []) t), ("stretches", v)])] s') ?_ ?_
  · refine wpAny_Assign_Name (r_str Z fun t s₂ Z => ?_)
    refine r_store Z fun s₃ Z => ⟨rfl, t, ?_⟩
    rw [S_empty] at Z
    exact Z
  rintro s₂ ⟨t, Z⟩
  obtain ⟨its, ⟨la, nn, rfl, hla⟩, hits⟩ := X
  have hkey : ∀ i, (textOf (l.take i)).length ≤ 2 ^ 20 := fun i => by
    have : textOf l = textOf (l.take i) ++ textOf (l.drop i) := by rw [← textOf_append, List.take_append_drop]
    rw [this, List.length_append] at hb; lia
  refine r_seq (P := fun s' => ∃ t, St F s.heap.get? [(F.n, .vars [("text", .str (S (textOf l)) t), ("stretches", .ref la)])] s') ?_ ?_
  · refine r_for_list (F := F) (its := its) (fun l' it i s' => l' = la ∧ ∃ t, St F s.heap.get? [(F.n, .vars [("text", .str (S (textOf (l.take i))) t), ("stretches", .ref la)]), (it, .iter la i)] s') hh (Nat.le_refl _) ?_ ?_ ?_ ?_
    · refine r_ld Z rfl ⟨la, rfl, ⟨_, Z.dat _ _ hla, rfl, _, rfl⟩, rfl, t, ?_⟩
      exact Z.allocM rfl ⟨rfl, rfl⟩
    · rintro l' it i x s₃ hx ⟨rfl, t, Z⟩
      obtain ⟨⟨mk, sg⟩, hm, t1, t2, X⟩ := hits.get hx
      refine ⟨_, _, _, 0, Z, rfl, ⟨_, Z.dat _ _ hla, rfl, _, rfl⟩, ?_, fun s₄ Z => ?_⟩
      · rintro rfl
        have := (Z.now (l', .iter l' i) (.tail _ (.head _))).2.1
        rw [hla] at this; cases this
      refine r_untup Z (Nat.le_refl _) hh (X.mono Z.dat) rfl rfl fun s₅ Z _ => ?_
      refine wpAny_assignInOrder_more (r_assign Z fun s₆ Z => ?_)
      refine wpAny_assignInOrder_more (r_assign Z fun s₇ Z => wpAny_assignInOrder_none ?_)
      have hb' := hkey (i + 1)
      have htk : l.take (i + 1) = l.take i ++ [(mk, sg)] := by
        rw [List.take_add_one, hm]; rfl
      rw [htk, textOf_append] at hb'
      simp only [List.length_append] at hb'
      refine wpAny_execs_cons (wpAny_AugAssign_Name (r_load Z rfl (wpAny_IfExp (wpAny_isTrue_Compare1 (r_ld Z rfl (r_str Z fun t3 s₈ Z => eq_str (wpAny_truthy_bool ?_)))))))
      rw [S_empty, S_beq]
      refine split_bool (fun q => ?_) fun q => ?_
      · have hmk : mk = [] := by simpa using q
        subst hmk
        refine r_ld Z rfl (iadd_str (fun t4 tk => ?_) ?_)
        · refine r_store (Z.toks tk) fun s₉ Z => wpAny_execs_nil ⟨rfl, t4, ?_⟩
          rw [htk, textOf_append]
          rw [S_append] at Z
          have e : textOf [(([] : List Nat), sg)] = sg := by simp [textOf]
          rw [e]
          exact Z.weak ⟨rfl, rfl, trivial⟩
        · rw [S_len, S_len, sizeLine_eq]
          simp [textOf] at hb' ⊢
          lia
      · have hmk : mk ≠ [] := by simpa using q
        have e : textOf [(mk, sg)] = 0 :: mk ++ sg ++ [1] := by simp [textOf, hmk]
        rw [e] at hb'
        simp at hb'
        refine wpAny_BinOp (wpAny_BinOp (wpAny_BinOp (r_str Z fun t4 s₉ Z => r_ld Z rfl (add_str (fun t5 tk => ?_) ?_))))
        · replace Z := Z.toks tk
          refine r_ld Z rfl (add_str (fun t6 tk => ?_) ?_)
          · replace Z := Z.toks tk
            refine r_str Z fun t7 s₁₀ Z => add_str (fun t8 tk => ?_) ?_
            · replace Z := Z.toks tk
              refine iadd_str (fun t9 tk => ?_) ?_
              · refine r_store (Z.toks tk) fun s₉ Z => wpAny_execs_nil ⟨rfl, t9, ?_⟩
                rw [htk, textOf_append, e]
                rw [S_0, S_1] at Z
                simp only [S_append] at Z
                simp only [List.singleton_append, List.cons_append] at Z ⊢
                exact Z.weak ⟨rfl, rfl, trivial⟩
              · rw [S_0, S_1]
                simp only [S_append, S_len, sizeLine_eq]
                simp
                lia
            · rw [S_0, S_1]
              simp only [S_append, S_len, sizeLine_eq]
              simp
              lia
          · rw [S_0]
            simp only [S_append, S_len, sizeLine_eq]
            simp
            lia
        · rw [S_0]
          simp only [S_append, S_len, sizeLine_eq]
          simp
          lia
    · rintro l' it s₃ ⟨rfl, t, Z⟩
      refine ⟨_, _, _, 0, Z, rfl, ⟨_, Z.dat _ _ hla, rfl, _, rfl⟩, fun s₄ Z => ⟨rfl, t, ?_⟩⟩
      have : l.take its.length = l := by rw [hits.length, List.take_length]
      rw [this] at Z
      exact Z
    · refine .inr ⟨⟨_, _, _, rfl⟩, fun x hx => ?_⟩
      obtain ⟨i, hi⟩ := List.getElem?_of_mem hx
      obtain ⟨_, _, _, _, a, e, _⟩ := hits.get hi
      exact ⟨a, e⟩
  rintro s₃ ⟨t, Z⟩
  refine wpAny_execs_cons (wpAny_Return_some (r_ld Z rfl ?_))
  refine h _ _ (Z.os.trans f3) (Z.gens.trans f4) (f1 ▸ Z.sz) (f2 ▸ Z.kp)
end
end Mine
end

section
open PySem PySem.W PyProof.Rows
namespace Mine

/-- an iterator: what it is at each place, what it hands out -/
structure ItK (prog : Program) (w : World) (A : Around) (it : Addr) (n : Nat) (th : Nat → Thing) (P : Nat → Value → Prop) (side : Heap → Prop) : Prop where
  item : ∀ i s (Q : Option Value → Shared → Prop) E, i < n → side s.heap → Own s.heap it (th i) →
    (∀ x h' tk, P i x → Heap.SameBut it s.heap h' → Own h' it (th (i + 1)) → Q (some x) { s with heap := h', toks := tk }) → wpAny (model prog w) A (pyNext (.ref it)) Q E s
  done : ∀ s (Q : Option Value → Shared → Prop) E, side s.heap → Own s.heap it (th n) → (∀ h' tk, Heap.ExtBut it s.heap h' → Q none { s with heap := h', toks := tk }) → wpAny (model prog w) A (pyNext (.ref it)) Q E s
  self : ∀ i s (Q : Value → Shared → Prop) E, Own s.heap it (th i) → Q (.ref it) s → wpAny (model prog w) A (pyIter (.ref it)) Q E s
  plain : ∀ i o, (th i).is o → ∃ c, o.cls = .type c ∧ ["enumerate", "zip", "dict_itemiterator", "dict_reverseitemiterator", "odict_iterator", "itertools.zip_longest", "itertools.pairwise"].contains c = false

section
variable {prog : Program} {w : World} {A : Around} {E : Value → Shared → Prop} {env : Env} {F : Fx} {g : View} {ms : List (Addr × Thing)} {s : Shared} {vs : List (Str × Value)}

theorem ItK.go {it : Addr} {n : Nat} {th : Nat → Thing} {P : Nat → Value → Prop} {side : Heap → Prop} (K : ItK prog w A it n th P side) {target : Expr} {i : Nat} {v : Value} {Q : Unit → Shared → Prop} (ho : Own s.heap it (th i)) (h : Q () s) :
    wpAny (model prog w) A (letOwnedTupleGo target (.ref it) v) Q E s := by
  obtain ⟨o, e, ht⟩ := ho
  obtain ⟨c, hc, hn⟩ := K.plain i o ht
  have key : ∀ a, wpAny (model prog w) A (do
      let o ← load it
      match o.cls, o.data with
      | .type n, .fields vs =>
        if ["enumerate", "zip", "dict_itemiterator", "dict_reverseitemiterator", "odict_iterator", "itertools.zip_longest", "itertools.pairwise"].contains n && vs[0]? == some (rawInt a) then do
          rule "for.unpacks-the-owned-tuple"
          updateField it 0 .none
        else pure ()
      | _, _ => pure ()) Q E s := by
    intro a
    refine wpAny_bind (wpAny_load e ?_)
    rw [hc]
    cases o.data <;> try exact wpAny_pure h
    simp only [hn, Bool.false_and, Bool.false_eq_true, if_false]
    exact wpAny_pure h
  unfold letOwnedTupleGo
  split
  · cases v with
    | ref a => exact key a
    | _ => exact wpAny_pure h
  · cases v with
    | ref a => exact key a
    | _ => exact wpAny_pure h
  · exact wpAny_pure h

theorem itk_list {it l : Addr} {its : List Value} (hh : A.handled = none) : ItK prog w A it its.length (fun i => .iter l i) (fun i x => its[i]? = some x) (fun h => h.IsList l its.toArray) where
  item := fun i s Q E hi hs ho k => by
    obtain ⟨o, e, hc, hd⟩ := ho
    refine wpAny_pyNext_list_item ⟨o, e, hc, hd⟩ hs (x := its[i]) (by rw [List.getElem?_toArray]; exact List.getElem?_eq_getElem hi) fun h' hit hsb => ?_
    exact k _ h' s.toks (List.getElem?_eq_getElem hi) hsb (let ⟨o, e, hc, hd⟩ := hit; ⟨o, e, hc, hd⟩)
  done := fun s Q E hs ho k => by
    obtain ⟨o, e, hc, hd⟩ := ho
    refine wpAny_pyNext_list_end hh ⟨o, e, hc, hd⟩ hs (by rw [List.getElem?_toArray]; exact List.getElem?_eq_none (Nat.le_refl _)) fun h' hsb => ?_
    exact k h' s.toks hsb
  self := fun i s Q E ho h => by
    obtain ⟨o, e, hc, hd⟩ := ho
    exact wpAny_pyIter_listiter ⟨o, e, hc, hd⟩ h
  plain := fun i o h => ⟨_, h.1, by decide⟩

def rangeTh (N : Nat) (i : Nat) : Thing := .raw fun o => o = { cls := .type "range_iterator", data := .fields #[rawInt i, rawInt ((N : Int) - i), rawInt 1] }
theorem itk_range {it : Addr} {N : Nat} (hh : A.handled = none) : ItK prog w A it N (rangeTh N) (fun i x => ∃ t, x = .int (i : Int) t) (fun _ => True) where
  item := fun i s Q E hi hs ho k => by
    obtain ⟨o, e, rfl⟩ := ho
    refine wpAny_pyNext_range_item (x := (i : Int)) (left := (N : Int) - i) (step := 1) e (by lia) fun h' hit hsb => ?_
    refine k _ h' _ ⟨_, rfl⟩ hsb ⟨_, hit, ?_⟩
    show _ = _
    have e1 : ((N : Int) - i - 1) = (N : Int) - ((i + 1 : Nat) : Int) := by lia
    have e2 : ((i : Int) + 1) = ((i + 1 : Nat) : Int) := by lia
    rw [e1, e2]
  done := fun s Q E hs ho k => by
    obtain ⟨o, e, rfl⟩ := ho
    refine wpAny_pyNext_range_end (x := (N : Int)) (left := (N : Int) - N) (step := 1) hh e (by lia) fun h' hsb => k h' s.toks hsb
  self := fun i s Q E ho h => by
    obtain ⟨o, e, rfl⟩ := ho
    exact wpAny_pyIter_rangeiter (x := (i : Int)) (left := (N : Int) - i) (step := 1) e h
  plain := fun i o h => by
    have h' : o = _ := h
    subst h'
    exact ⟨_, rfl, by decide⟩

def strTh (x : Str) (t : Tok) (i : Nat) : Thing := .raw fun o => o.cls = .type "str_ascii_iterator" ∧ o.data = .fields #[.str x t, .int i 0]
theorem itk_str {it : Addr} {x : List Nat} {t : Tok} (hh : A.handled = none) : ItK prog w A it x.length (strTh (S x) t) (fun i v => ∃ t c, x[i]? = some c ∧ v = .str (S [c]) t) (fun _ => True) where
  item := fun i s Q E hi hs ho k => by
    obtain ⟨o, e, hc, hd⟩ := ho
    refine wpAny_pyNext_ascii_item (c := x[i]) ⟨o, e, hc, hd⟩ (by simp [S, hi]) fun h' hit hsb => ?_
    exact k _ h' _ ⟨_, _, List.getElem?_eq_getElem hi, rfl⟩ hsb (let ⟨o, e, hc, hd⟩ := hit; ⟨o, e, hc, hd⟩)
  done := fun s Q E hs ho k => by
    obtain ⟨o, e, hc, hd⟩ := ho
    refine wpAny_pyNext_ascii_end hh ⟨o, e, hc, hd⟩ (by simp [S]) fun h' hsb => k h' s.toks hsb
  self := fun i s Q E ho h => by
    obtain ⟨o, e, hc, hd⟩ := ho
    exact wpAny_pyIter_striter_ascii ⟨o, e, hc, hd⟩ h
  plain := fun i o h => ⟨_, h.1, by decide⟩

theorem r_for {target iter : Expr} {body : List Stmt} {pos : Pos} {Q : Flow → Shared → Prop} {n : Nat} {th : Nat → Thing} {P : Nat → Value → Prop} {side : Heap → Prop} (I : Addr → Nat → Shared → Prop)
    (hL : F.n ≤ env.locals)
    (h0 : wpAny (model prog w) A (eval iter env) (fun x s₁ => wpAny (model prog w) A (pyIter x) (fun itv s₂ => ∃ it, itv = .ref it ∧ ItK prog w A it n th P side ∧ I it 0 s₂) (fun _ _ => False) s₁) (fun _ _ => False) s)
    (turn : ∀ it i s, i < n → I it i s → ∃ g t₀ ms j, St F g ((env.locals, t₀) :: ms) s ∧ ((env.locals, t₀) :: ms)[j + 1]? = some (it, th i) ∧ side s.heap ∧
      ∀ x s', P i x → St F g (((env.locals, t₀) :: ms).set (j + 1) (it, th (i + 1))) s' → wpAny (model prog w) A (assign target env x) (fun _ s₂ => wpAny (model prog w) A (execs body env) (fun f s₃ => match f with
        | .next | .cont => I it (i + 1) s₃ | .brk => Q .next s₃ | .ret v => Q (.ret v) s₃) (fun _ _ => False) s₂) (fun _ _ => False) s')
    (fin : ∀ it s, I it n s → ∃ g t₀ ms j, St F g ((env.locals, t₀) :: ms) s ∧ ((env.locals, t₀) :: ms)[j + 1]? = some (it, th n) ∧ side s.heap ∧
      ∀ s', St F g (((env.locals, t₀) :: ms).eraseIdx (j + 1)) s' → Q .next s')
    (hs : ∀ x, foldedSetIterable iter env x = pure x := by intro _; rfl) :
    wpAny (model prog w) A (exec (.For target iter body [] pos) env) Q (fun _ _ => False) s := by
  refine wpAny_For (wpAny_mono h0 (fun x s₁ h₁ => wpAny_mono h₁ (fun itv s₂ h₂ => ?_) fun _ _ e => e) fun _ _ e => e) hs
  obtain ⟨it, rfl, K, hI⟩ := h₂
  refine codeAny_forLoop_any (fun k s' => ∃ i, k = n + 1 - i ∧ i ≤ n ∧ I it i s') ?_ (n + 1) ⟨0, by simp, Nat.zero_le _, hI⟩
  rintro k s' ⟨i, rfl, hi, hI⟩
  by_cases hlt : i < n
  · obtain ⟨g, t₀, ms, j, S, hj, hl', k⟩ := turn it i s' hlt hI
    refine K.item i s' _ _ hlt hl' (S.own (j + 1) hj) fun x h' tk hP hsb ho => ?_
    have S' := (S.change (j + 1) (t' := th (i + 1)) hj hsb ho).toks tk
    refine K.go (i := i + 1) ho ?_
    refine wpAny_mono (k _ _ hP S') (fun _ s₂ h₂ => wpAny_mono h₂ (fun f s₃ h₃ => ?_) fun _ _ e => e.elim) fun _ _ e => e.elim
    cases f with
    | next => exact ⟨n + 1 - (i + 1), by lia, i + 1, rfl, hlt, h₃⟩
    | cont => exact ⟨n + 1 - (i + 1), by lia, i + 1, rfl, hlt, h₃⟩
    | brk => exact h₃
    | ret v => exact h₃
  · have hi' : i = n := by lia
    subst hi'
    obtain ⟨g, t₀, ms, j, S, hj, hl', k⟩ := fin it s' hI
    refine K.done s' _ _ hl' (S.own (j + 1) hj) fun h' tk hsb => ?_
    exact wpAny_execs_nil (k _ ((S.dropIter hL j hj hsb).toks tk))

theorem St.perm {ms' : List (Addr × Thing)} (Z : St F g ms s) (h : ms.Perm ms') : St F g ms' s :=
  ⟨Z.os, Z.gens, Z.sz, Z.kp, Z.dat, fun p hp => Z.now p (h.mem_iff.mpr hp), (h.map _).nodup_iff.mp Z.nd⟩

theorem compTurn_list0 (elt target iter : Expr) (scope : Scope) (pos : Pos) (it acc : Value) (env : Env) :
    compTurn (.ListComp elt [⟨target, iter, [], 0⟩] scope pos) 0 it acc env = (standAt iter.pos >>= fun _ => pyNext it >>= fun r => match r with
      | none => pure (.done .next)
      | some v => letOwnedTupleGo target it v >>= fun _ => assign target env v >>= fun _ =>
        (eval elt env >>= fun x => call (.builtin "list.append") [acc, x] >>= fun _ => pure ()) >>= fun _ =>
          again (.compLoop (.ListComp elt [⟨target, iter, [], 0⟩] scope pos) 0 it acc env)) := by rfl

theorem own_plain {h : Heap} {a : Addr} {its : List Value} (x : Own h a (.list its)) : h.PlainList a its.toArray := let ⟨_, e, n, q⟩ := x; ⟨n, q ▸ e⟩
theorem plain_own {h : Heap} {a : Addr} {its : List Value} (x : h.PlainList a its.toArray) : Own h a (.list its) := let ⟨n, e⟩ := x; ⟨_, e, n, rfl⟩

theorem r_append {i : Nat} {D : Addr} {ys : List Value} {y : Value} {Q : Value → Shared → Prop} (Z : St F g ms s) (hi : ms[i]? = some (D, .list ys)) (hsz : ys.length ≤ 2 ^ 20)
    (h : ∀ s', St F g (ms.set i (D, .list (ys ++ [y]))) s' → Q .none s') : wpAny (model prog w) A (call (.builtin "list.append") [.ref D, y]) Q E s := by
  refine wpAny_list_append_plain (own_plain (Z.own i hi)) (fun h' hl hs => h _ (Z.change i hi hs (plain_own (by simpa using hl)))) ?_
  rw [List.size_toArray, sizeLine_eq]; lia

theorem codeAny_comp {elt target iter : Expr} {scope : Scope} {pos : Pos} {it D : Addr} {cenv : Env} {n j : Nat} {th : Nat → Thing} {P : Nat → Value → Prop} {side : Heap → Prop} {R : Result → Shared → Prop}
    (Inv : Nat → View → List Value → Prop) (K : ItK prog w A it n th P side) (hC : F.n ≤ cenv.locals) (hj : ms[j]? = some (it, th 0)) (hn : n ≤ 2 ^ 20)
    (hside : ∀ g' s, Up F.n g g' → St F g' (ms.set j (it, .raw fun _ => True)) s → side s.heap)
    (Z : St F g ((cenv.locals, .vars []) :: (D, .list []) :: ms) s) (h0 : Inv 0 g [])
    (turn : ∀ i x g' ys vs s, i < n → P i x → Inv i g' ys → ys.length = i → Up F.n g g' → St F g' ((cenv.locals, .vars vs) :: (D, .list ys) :: ms.set j (it, th (i + 1))) s →
      wpAny (model prog w) A (assign target cenv x) (fun _ s₁ => wpAny (model prog w) A (eval elt cenv) (fun y s₂ => ∃ g'' vs', Up F.n g' g'' ∧ Inv (i + 1) g'' (ys ++ [y]) ∧
        St F g'' ((cenv.locals, .vars vs') :: (D, .list ys) :: ms.set j (it, th (i + 1))) s₂) (fun _ _ => False) s₁) (fun _ _ => False) s)
    (fin : ∀ g' ys vs s, Up F.n g g' → Inv n g' ys → ys.length = n → St F g' ((cenv.locals, .vars vs) :: (D, .list ys) :: ms.eraseIdx j) s → R (.ok .next) s) :
    codeAny (model prog w) A (.compStart (.ListComp elt [⟨target, iter, [], 0⟩] scope pos) 0 (.ref it) (.ref D) cenv) R s := by
  have hjl : j < ms.length := (List.getElem?_eq_some_iff.mp hj).1
  have loop : codeAny (model prog w) A (.compLoop (.ListComp elt [⟨target, iter, [], 0⟩] scope pos) 0 (.ref it) (.ref D) cenv) R s := by
    refine codeAny_loop rfl (fun k s' => ∃ i g' ys vs, k = n + 1 - i ∧ i ≤ n ∧ Up F.n g g' ∧ Inv i g' ys ∧ ys.length = i ∧ St F g' ((cenv.locals, .vars vs) :: (D, .list ys) :: ms.set j (it, th i)) s') ?_ (n + 1)
      ⟨0, g, [], [], by simp, Nat.zero_le _, Up.refl _ _, h0, rfl, by
        have : ms.set j (it, th 0) = ms := by
          apply List.ext_getElem?
          intro k
          rw [List.getElem?_set]
          split
          · rename_i q; subst q; rw [hj]
          · rfl
        rw [this]; exact Z⟩
    rintro k s' ⟨i, g', ys, vs, rfl, hi, U, hI, hlen, Z⟩
    have hjj : ((cenv.locals, Thing.vars vs) :: (D, Thing.list ys) :: ms.set j (it, th i))[j + 1 + 1]? = some (it, th i) := by
      simp only [List.getElem?_cons_succ]
      rw [List.getElem?_set_self hjl]
    have Zs : St F g' (ms.set j (it, .raw fun _ => True)) s' := by
      have Z1 := (Z.drop 0).drop 0
      simp only [List.eraseIdx_cons_zero] at Z1
      have hj2 : (ms.set j (it, th i))[j]? = some (it, th i) := List.getElem?_set_self hjl
      have ho : Own s'.heap it (.raw fun _ => True) := let ⟨o, e, _⟩ := Z1.own j hj2; ⟨o, e, trivial⟩
      have Z2 := Z1.change j (t' := .raw fun _ => True) (h' := s'.heap) hj2 (Heap.SameBut.refl _ _) ho
      rw [List.set_set] at Z2
      exact Z2
    have hs' := hside g' s' U Zs
    show wpAny _ A ((compTurn (.ListComp elt [⟨target, iter, [], 0⟩] scope pos) 0 (.ref it) (.ref D) cenv).onRaise (fun x => do noteFrame x cenv; theTreesLotGoes x)) _ _ s'
    refine wpAny_noted ?_
    rw [compTurn_list0]
    refine wpAny_bind (wpAny_standAt (wpAny_bind ?_))
    by_cases hlt : i < n
    · refine K.item i s' _ _ hlt hs' (Z.own _ hjj) fun x h' tk hP hsb ho => ?_
      have Z' := (Z.change (j + 1 + 1) (t' := th (i + 1)) hjj hsb ho).toks tk
      simp only [List.set_cons_succ, List.set_set] at Z'
      refine wpAny_bind (K.go (i := i + 1) ho ?_)
      refine wpAny_bind (wpAny_mono (turn i x g' ys vs _ hlt hP hI hlen U Z') (fun _ s₁ h₁ => ?_) fun _ _ e => e.elim)
      refine wpAny_bind (wpAny_bind (wpAny_mono h₁ (fun y s₂ h₂ => ?_) fun _ _ e => e.elim))
      obtain ⟨g'', vs', U', hI', Z⟩ := h₂
      refine wpAny_bind (r_append (i := 1) Z rfl (by lia) fun s₃ Z => ?_)
      refine wpAny_pure (wpAny_pure ⟨rfl, n + 1 - (i + 1), by lia, i + 1, g'', ys ++ [y], vs', rfl, hlt, U.trans U', hI', by simp [hlen], Z⟩)
    · have hi' : i = n := by lia
      subst hi'
      refine K.done s' _ _ hs' (Z.own _ hjj) fun h' tk hsb => wpAny_pure ?_
      have Z' := (Z.dropIter (L := cenv.locals) hC (j + 1) hjj hsb).toks tk
      simp only [List.eraseIdx_cons_succ] at Z'
      have : (ms.set j (it, th i)).eraseIdx j = ms.eraseIdx j := by
        rw [List.eraseIdx_set_eq]
      rw [this] at Z'
      exact fin g' ys vs _ U hI hlen Z'
  refine codeAny_compStart_list loop ?_
  exact K.self 0 s _ _ (Z.own (j + 1 + 1) (by simpa using hj)) loop

theorem St.changeDrop (Z : St F g ms s) (i : Nat) {a : Addr} {t : Thing} {h' : Heap} (hi : ms[i]? = some (a, t)) (hs : Heap.SameBut a s.heap h') : St F g (ms.eraseIdx i) { s with heap := h' } :=
  Z.dropBut i hi (by rw [hs.1]; exact Z.sz) hs.extBut

theorem comp_enter {scope : Scope} {cl : List (Str × Addr)} {Q : Value → Env → Shared → Prop} (Z : St F g ms s) (hcell : ∀ y ∈ scope.names, y.2 ≠ .cell) (hkind : scope.kind = .function)
    (h : ∀ D C s', F.n ≤ D → F.n ≤ C → g D = none → St F g ((C, .vars []) :: (D, .list []) :: ms) s' → Q (.ref D) (newEnv scope C env.globals cl env.qual none .none (some env) builtinsNs) s') :
    wpAny (model prog w) A (newList []) (fun acc s₃ => wpAny (model prog w) A (newFunctionEnv scope env.globals cl [] env.qual none .none (some env)) (fun cenv s₄ => Q acc cenv s₄) E s₃) E s := by
  refine wpAny_newObj_type (wpAny_newFunctionEnv hcell (by intro y hy; simp at hy) (fun h₁ hns₁ hsb₁ => ?_) hkind) (by show ([] : List Value).toArray.size ≤ sizeLine; simp)
  have Z1 := Z.allocM (o := { cls := .type "list", data := .seq ([] : List Value).toArray }) (t := .list []) rfl ⟨0, rfl⟩
  have Z2 := Z1.allocM (o := { cls := .type "dict", data := .dict #[] }) (t := .raw fun _ => True) rfl trivial
  have hl : (ms ++ [(s.heap.objs.size, Thing.list [])] ++ [((s.heap.push { cls := .type "list", data := .seq ([] : List Value).toArray }).objs.size, Thing.raw fun _ => True)])[(ms ++ [(s.heap.objs.size, Thing.list [])]).length]? =
      some ((s.heap.push { cls := .type "list", data := .seq ([] : List Value).toArray }).objs.size, Thing.raw fun _ => True) := by
    rw [List.getElem?_append_right (Nat.le_refl _)]; simp
  have Z3 := (Z2.change _ (t' := .vars []) hl hsb₁ (ns_own hns₁ fun x v e => by cases e)).toks (s.toks + ([] : List (Str × Value)).length)
  refine h s.heap.objs.size _ _ Z.sz ?_ Z.noNew (Z3.perm ?_)
  · rw [Heap.size_push]; exact Nat.le_succ_of_le Z.sz
  · rw [List.set_append_right _ _ (Nat.le_refl _)]
    simp only [Nat.sub_self, List.set_cons_zero]
    exact (List.perm_append_singleton _ _).trans (List.Perm.cons _ (List.perm_append_singleton _ _))

inductive CompSt (F : Fx) (Inv : View → List Value → Prop) (g' : View) (C : Addr) (ys : List Value) (tl : List (Addr × Thing)) (y : Value) (s₂ : Shared) : Prop
  | mk (g'' : View) (vs' : List (Str × Value)) (U : Up F.n g' g'') (hI : Inv g'' (ys ++ [y])) (Z : St F g'' ((C, .vars vs') :: tl) s₂) : CompSt F Inv g' C ys tl y s₂
inductive LcompP (prog : Program) (w : World) (A : Around) (env : Env) (elt target : Expr) (scope : Scope) (cl : List (Str × Addr)) (n j : Nat) (th : Nat → Thing) (P : Nat → Value → Prop) (side : Heap → Prop) (Inv : Nat → View → List Value → Prop) (F : Fx) (Q : Value → Shared → Prop) (itv : Value) (s₂ : Shared) : Prop
  | mk (it : Addr) (e : itv = .ref it) (K : ItK prog w A it n th P side) (g : View) (ms : List (Addr × Thing)) (Z : St F g ms s₂) (hj : ms[j]? = some (it, th 0))
      (hside : ∀ g' s, Up F.n g g' → St F g' (ms.set j (it, .raw fun _ => True)) s → side s.heap) (hI : Inv 0 g [])
      (turn : ∀ C D i x g' ys vs s, F.n ≤ C → F.n ≤ D → i < n → P i x → Inv i g' ys → ys.length = i → Up F.n g g' → St F g' ((C, .vars vs) :: (D, .list ys) :: ms.set j (it, th (i + 1))) s →
        wpAny (model prog w) A (assign target (compEnvC scope cl C env) x) (fun _ s₁ => wpAny (model prog w) A (eval elt (compEnvC scope cl C env)) (CompSt F (Inv (i + 1)) g' C ys ((D, .list ys) :: ms.set j (it, th (i + 1)))) (fun _ _ => False) s₁) (fun _ _ => False) s)
      (fin : ∀ D g' ys s, F.n ≤ D → Up F.n g g' → Inv n g' ys → ys.length = n → St F g' (ms.eraseIdx j ++ [(D, .list ys)]) s → Q (.ref D) s) : LcompP prog w A env elt target scope cl n j th P side Inv F Q itv s₂
inductive AcompP (prog : Program) (w : World) (A : Around) (env : Env) (elt target : Expr) (scope : Scope) (cl : List (Str × Addr)) (n j : Nat) (th : Nat → Thing) (P : Nat → Value → Prop) (side : Heap → Prop) (Inv : Nat → View → List Value → Prop) (F : Fx) (y : Str) (Q : Flow → Shared → Prop) (itv : Value) (s₂ : Shared) : Prop
  | mk (it : Addr) (e : itv = .ref it) (K : ItK prog w A it n th P side) (g : View) (ms : List (Addr × Thing)) (vs₀ : List (Str × Value)) (Z : St F g ((env.locals, .vars vs₀) :: ms) s₂) (hj : ms[j]? = some (it, th 0))
      (hside : ∀ g' s, Up F.n g g' → St F g' ((env.locals, .vars vs₀) :: ms.set j (it, .raw fun _ => True)) s → side s.heap) (hI : Inv 0 g [])
      (turn : ∀ C D i x g' ys vs s, F.n ≤ C → F.n ≤ D → i < n → P i x → Inv i g' ys → ys.length = i → Up F.n g g' → St F g' ((C, .vars vs) :: (D, .list ys) :: (env.locals, .vars vs₀) :: ms.set j (it, th (i + 1))) s →
        wpAny (model prog w) A (assign target (compEnvC scope cl C env) x) (fun _ s₁ => wpAny (model prog w) A (eval elt (compEnvC scope cl C env)) (CompSt F (Inv (i + 1)) g' C ys ((D, .list ys) :: (env.locals, .vars vs₀) :: ms.set j (it, th (i + 1)))) (fun _ _ => False) s₁) (fun _ _ => False) s)
      (fin : ∀ D g' ys s, F.n ≤ D → Up F.n g g' → Inv n g' ys → ys.length = n → St F g' ((env.locals, .vars ((y, .ref D) :: vs₀)) :: (ms.eraseIdx j ++ [(D, .list ys)])) s → Q .next s) : AcompP prog w A env elt target scope cl n j th P side Inv F y Q itv s₂

theorem r_listcomp {elt target iter : Expr} {scope : Scope} {pos : Pos} {n j : Nat} {th : Nat → Thing} {P : Nat → Value → Prop} {side : Heap → Prop} {Q : Value → Shared → Prop} {cl : List (Str × Addr)}
    (Inv : Nat → View → List Value → Prop) (hn : n ≤ 2 ^ 20) (hclos : closureFor scope env = pure cl) (hcell : ∀ y ∈ scope.names, y.2 ≠ .cell)
    (hnames : ∀ y ∈ scope.names, y.2 = .local → scope.names.lookup y.1 = some .local)
    (h0 : wpAny (model prog w) A (eval iter env) (fun x s₁ => wpAny (model prog w) A (pyIter x) (LcompP prog w A env elt target scope cl n j th P side Inv F Q) (fun _ _ => False) s₁) (fun _ _ => False) s)
    (hs : ∀ x, foldedSetIterable iter env x = pure x := by intro _; rfl) (hkind : scope.kind = .function := by rfl) :
    wpAny (model prog w) A (eval (.ListComp elt [⟨target, iter, [], 0⟩] scope pos) env) Q (fun _ _ => False) s := by
  rw [eval_ListComp]
  refine wpAny_comprehension_free (use := none) rfl hs hclos hkind hnames (wpAny_mono h0 (fun xv s₁ h₁ => wpAny_mono h₁ (fun itv s₂ h₂ => ?_) fun _ _ e => e) fun _ _ e => e)
  obtain ⟨it, rfl, K, g, ms, Z, hj, hside, hI, turn, fin⟩ := h₂
  refine comp_enter (Q := fun acc cenv s₄ => codeAny (model prog w) A (.compStart (.ListComp elt [⟨target, iter, [], 0⟩] scope pos) 0 (.ref it) acc { cenv with scope := relabel scope env }) (compPost (model prog w) A (fun _ _ => False) none Q acc cenv.locals) s₄) Z hcell hkind (fun D C s' hD hC _ Z => ?_)
  refine codeAny_comp (cenv := compEnvC scope cl C env) (R := compPost (model prog w) A (fun _ _ => False) none Q (.ref D) C) Inv K hC hj hn hside Z hI (fun i x g' ys vs s hi hP hI hl U Z => wpAny_mono (turn C D i x g' ys vs s hC hD hi hP hI hl U Z) (fun _ _ h => wpAny_mono h (fun _ _ ⟨a, b, c, d, e⟩ => ⟨a, b, c, d, e⟩) fun _ _ e => e) fun _ _ e => e) fun g' ys vs s U hI hl Z => ?_
  obtain ⟨m, hm, _⟩ := own_ns (Z.own 0 (a := C) (t := .vars vs) rfl)
  refine ⟨m, hm, fun h' hs => fin D g' ys _ hD U hI hl ?_⟩
  exact (Z.changeDrop 0 (a := C) (t := .vars vs) rfl hs).perm (List.perm_append_singleton _ _).symm

theorem r_assigncomp {elt target iter : Expr} {y : Str} {py spos : Pos} {scope : Scope} {pos : Pos} {n j : Nat} {th : Nat → Thing} {P : Nat → Value → Prop} {side : Heap → Prop} {Q : Flow → Shared → Prop} {cl : List (Str × Addr)}
    (Inv : Nat → View → List Value → Prop) (hn : n ≤ 2 ^ 20) (hclos : closureFor scope env = pure cl) (hcell : ∀ y ∈ scope.names, y.2 ≠ .cell)
    (hnames : ∀ y ∈ scope.names, y.2 = .local → scope.names.lookup y.1 = some .local)
    (hsw : swapsWith (.ListComp elt [⟨target, iter, [], 0⟩] scope pos) (some (.Name y py)) spos.line env = pure true)
    (h0 : wpAny (model prog w) A (eval iter env) (fun x s₁ => wpAny (model prog w) A (pyIter x) (AcompP prog w A env elt target scope cl n j th P side Inv F y Q) (fun _ _ => False) s₁) (fun _ _ => False) s)
    (hs : ∀ x, foldedSetIterable iter env x = pure x := by intro _; rfl) (hkind : scope.kind = .function := by rfl)
    (hk : env.scope.kind = .function := by rfl) (hl : env.kindOf y = some .local := by rfl) :
    wpAny (model prog w) A (exec (.Assign [.Name y py] (.ListComp elt [⟨target, iter, [], 0⟩] scope pos) spos) env) Q (fun _ _ => False) s := by
  rw [exec_Assign_Name_used _ _ _ _ hsw]
  refine wpAny_bind (wpAny_standAt (wpAny_bind ?_))
  show wpAny _ A (do let _ ← comprehension (.ListComp elt [⟨target, iter, [], 0⟩] scope pos) scope env _ (newList []) false (eval iter env) (some (assign (.Name y py) env))) _ _ s
  refine wpAny_bind (wpAny_mono (wpAny_comprehension_free (Q := fun _ s' => Q .next s') (use := some (assign (.Name y py) env)) rfl hs hclos hkind hnames (wpAny_mono h0 (fun xv s₁ h₁ => wpAny_mono h₁ (fun itv s₂ h₂ => ?_) fun _ _ e => e) fun _ _ e => e))
    (fun _ s' hq => wpAny_pure (wpAny_pure hq)) fun _ _ e => e)
  obtain ⟨it, rfl, K, g, ms, vs₀, Z, hj, hside, hI, turn, fin⟩ := h₂
  refine comp_enter (Q := fun acc cenv s₄ => codeAny (model prog w) A (.compStart (.ListComp elt [⟨target, iter, [], 0⟩] scope pos) 0 (.ref it) acc { cenv with scope := relabel scope env }) (compPost (model prog w) A (fun _ _ => False) (some (assign (.Name y py) env)) (fun _ s' => Q .next s') acc cenv.locals) s₄) Z hcell hkind (fun D C s' hD hC _ Z => ?_)
  refine codeAny_comp (j := j + 1) (cenv := compEnvC scope cl C env) (R := compPost (model prog w) A (fun _ _ => False) (some (assign (.Name y py) env)) (fun _ s' => Q .next s') (.ref D) C) Inv K hC (by simpa using hj) hn hside Z hI (fun i x g' ys vs s hi hP hI hl U Z => wpAny_mono (turn C D i x g' ys vs s hC hD hi hP hI hl U Z) (fun _ _ h => wpAny_mono h (fun _ _ ⟨a, b, c, d, e⟩ => ⟨a, b, c, d, e⟩) fun _ _ e => e) fun _ _ e => e) fun g' ys vs s U hI hl' Z => ?_
  simp only [List.eraseIdx_cons_succ] at Z
  have Z1 : St F g' ((env.locals, .vars vs₀) :: (C, .vars vs) :: (D, .list ys) :: ms.eraseIdx j) s := Z.perm (((List.Perm.swap _ _ _).cons _).trans (List.Perm.swap _ _ _))
  refine r_assign Z1 (fun s'' Z2 => ?_) hk hl
  obtain ⟨m, hm, _⟩ := own_ns (Z2.own 1 (a := C) (t := .vars vs) rfl)
  refine ⟨m, hm, fun h' hs => fin D g' ys _ hD U hI hl' ?_⟩
  exact (Z2.changeDrop 1 (a := C) (t := .vars vs) rfl hs).perm ((List.perm_append_singleton _ _).symm.cons _)
end
end Mine
end

section
open PySem PySem.W PyProof.Rows
namespace Mine
def lenOf : List Stretch → Nat
  | [] => 0
  | (_, sg) :: r => sg.length + lenOf r
theorem lenOf_append (a b : List Stretch) : lenOf (a ++ b) = lenOf a + lenOf b := by
  induction a with
  | nil => simp [lenOf]
  | cons x r ih => obtain ⟨m, sg⟩ := x; simp [lenOf, ih]; lia

theorem lenOf_mem {l : List Stretch} {x : Stretch} (h : x ∈ l) : x.2.length ≤ lenOf l := by
  induction l with
  | nil => cases h
  | cons y r ih =>
    obtain ⟨m, sg⟩ := y
    simp only [lenOf]
    rcases List.mem_cons.mp h with rfl | h
    · show sg.length ≤ _; lia
    · have := ih h; lia
theorem lenOf_sum (l : List Stretch) : (l.map fun x => (x.2.length : Int)).sum = (lenOf l : Int) := by
  induction l with
  | nil => rfl
  | cons y r ih =>
    obtain ⟨m, sg⟩ := y
    simp only [lenOf, List.map_cons, List.sum_cons, ih]; lia

section
variable {prog : Program} {w : World} {A : Around} {E : Value → Shared → Prop} {env : Env} {F : Fx} {g : View} {ms : List (Addr × Thing)} {s : Shared} {vs : List (Str × Value)}

theorem St.extL {L : Addr} {t₀ : Thing} (Z : St F g ((L, t₀) :: ms) s) (hL : F.n ≤ L) {h' : Heap} (tk : Nat) (hk : Le s.heap.get? h'.get?) : St F g ((L, t₀) :: ms) { s with heap := h', toks := tk } := by
  refine ⟨Z.os, Z.gens, ?_, Z.kp.trans hk, Z.dat.trans hk, fun p hp => ⟨let ⟨o, e, t⟩ := (Z.now p hp).1; ⟨o, hk _ _ e, t⟩, (Z.now p hp).2⟩, Z.nd⟩
  obtain ⟨o, e, _⟩ := Z.own 0 (a := L) (t := t₀) rfl
  exact Nat.le_trans hL (Nat.le_of_lt (Heap.lt_size (hk L o e)))

theorem r_b1 {x : Str} {b : String} {p pos : Pos} {e : Expr} {Q : Value → Shared → Prop} (G : GName s.heap x (.builtin b))
    (h : wpAny (model prog w) A (eval e env) (fun v s₁ => wpAny (model prog w) A (call (.builtin b) [v]) Q E s₁) E s)
    (htrees : backTo pos (starEach [e] env) = [(false, eval e env)] := by rfl)
    (hg : env.globals = mainGlobals := by rfl) (hb : env.builtins = builtinsNs := by rfl)
    (hk : env.scope.kind = .function := by rfl) (hx : env.kindOf x = some .globalImplicit := by rfl) (hd : (x == ("__debug__" : Str)) = false := by decide) :
    wpAny (model prog w) A (eval (.Call (.Name x p) [e] [] pos) env) Q E s := by
  refine wpAny_Call_NameR (r_glob G ?_ hg hb hk hx hd)
  rw [htrees]
  exact Calls.callWith_builtin rfl (Calls.evalArgs_plain (Calls.spliced_cons (wpAny_mono h (fun v s₁ h₁ => Calls.spliced_nil h₁) fun _ _ e => e)))
theorem r_b2 {x : Str} {b : String} {p pos : Pos} {e₁ e₂ : Expr} {Q : Value → Shared → Prop} (G : GName s.heap x (.builtin b))
    (h : wpAny (model prog w) A (eval e₁ env) (fun v s₁ => wpAny (model prog w) A (eval e₂ env) (fun u s₂ => wpAny (model prog w) A (call (.builtin b) [v, u]) Q E s₂) E s₁) E s)
    (htrees : backTo pos (starEach [e₁, e₂] env) = [(false, eval e₁ env), (false, eval e₂ env)] := by rfl)
    (hg : env.globals = mainGlobals := by rfl) (hb : env.builtins = builtinsNs := by rfl)
    (hk : env.scope.kind = .function := by rfl) (hx : env.kindOf x = some .globalImplicit := by rfl) (hd : (x == ("__debug__" : Str)) = false := by decide) :
    wpAny (model prog w) A (eval (.Call (.Name x p) [e₁, e₂] [] pos) env) Q E s := by
  refine wpAny_Call_NameR (r_glob G ?_ hg hb hk hx hd)
  rw [htrees]
  exact Calls.callWith_builtin rfl (Calls.evalArgs_plain (Calls.spliced_cons (wpAny_mono h (fun v s₁ h₁ => Calls.spliced_cons (wpAny_mono h₁ (fun u s₂ h₂ => Calls.spliced_nil h₂) fun _ _ e => e)) fun _ _ e => e)))

/-- calling one of the text's defs by its name, one argument -/
theorem r_f1 {x : Str} {f : Addr} {nm qual : Str} {d : Stmt} {dflt : Value} {p pos : Pos} {e : Expr} {Q : Value → Shared → Prop} (G : GName s.heap x (.ref f))
    (h : wpAny (model prog w) A (eval e env) (fun v s₁ => FnAt s₁.heap f nm qual d dflt ∧ codeAny (model prog w) A (.call (.ref f) ⟨[v], []⟩) (fun r s' => match r with | .ok (.ret v) => Q v s' | .ok _ => False | .error e => E e s') s₁) E s)
    (htrees : backTo pos (starEach [e] env) = [(false, eval e env)] := by rfl)
    (hg : env.globals = mainGlobals := by rfl) (hb : env.builtins = builtinsNs := by rfl)
    (hk : env.scope.kind = .function := by rfl) (hx : env.kindOf x = some .globalImplicit := by rfl) (hd : (x == ("__debug__" : Str)) = false := by decide) :
    wpAny (model prog w) A (eval (.Call (.Name x p) [e] [] pos) env) Q E s := by
  refine wpAny_Call_NameR (r_glob G ?_ hg hb hk hx hd)
  rw [htrees]
  unfold callWith
  refine wpAny_bind (wpAny_holding (Calls.evalArgs_plain (Calls.spliced_cons (wpAny_mono h (fun v s₁ h₁ => Calls.spliced_nil (wpAny_bind (wpAny_standAt ?_))) fun _ _ e => e))))
  obtain ⟨⟨o, doc, pm, cd, ct, an, e1, e2, _⟩, hc⟩ := h₁
  refine wpAny_bind (m := keeperOf (.ref f)) ?_
  unfold keeperOf
  refine wpAny_bind (wpAny_load e1 ?_)
  rw [e2]
  refine wpAny_pure ?_
  refine wpAny_bind (m := callMarked plainCall (.ref f) [v] []) ?_
  unfold callMarked
  refine Calls.wpAny_keep (wpAny_call (codeAny_mono hc fun r s' hr => ?_))
  cases r with
  | error e => exact hr
  | ok fl => cases fl <;> first | exact hr.elim | exact wpAny_bind (wpAny_holding (wpAny_point (wpAny_pure hr)))

theorem r_len_str {x : List Nat} {t : Tok} {Q : Value → Shared → Prop} (Z : St F g ms s) (hb : x.length ≤ 2 ^ 20) (h : ∀ t s', St F g ms s' → Q (.int x.length t) s') :
    wpAny (model prog w) A (call (.builtin "len") [.str (S x) t]) Q E s := by
  refine len_str (by rw [S_len]; lia) ?_
  rw [S_len]; exact h _ _ (Z.toks _)

theorem r_sum {l : Addr} {ns : List Int} {its : List Value} {L : Addr} {t₀ : Thing} {Q : Value → Shared → Prop} (Z : St F g ((L, t₀) :: ms) s) (hL : F.n ≤ L) (hh : A.handled = none) (hl : s.heap.IsList l its.toArray) (hi : All2 (fun v n => ∃ t, v = .int n t) its ns)
    (h : ∀ t s', St F g ((L, t₀) :: ms) s' → Q (.int ns.sum t) s') : wpAny (model prog w) A (call (.builtin "sum") [.ref l]) Q E s := by
  have key : ∀ {its : List Value} {ns : List Int}, All2 (fun v n => ∃ t, v = .int n t) its ns → ∃ xs : List (Int × Tok), its = xs.map (fun p => Value.int p.1 p.2) ∧ xs.map (·.1) = ns := by
    intro its ns hi
    induction hi with
    | nil => exact ⟨[], rfl, rfl⟩
    | cons h _ ih =>
      obtain ⟨t, rfl⟩ := h
      obtain ⟨xs, rfl, rfl⟩ := ih
      exact ⟨(_, t) :: xs, rfl, rfl⟩
  obtain ⟨xs, rfl, rfl⟩ := key hi
  refine sum_intListG (xs := xs.toArray) hh (by simpa [intItems] using hl) fun h' tk t' hk => ?_
  rw [preSum_eq, List.take_of_length_le (by simp)]
  exact h _ _ (Z.extL hL tk hk)

theorem size_spec {D : Ad} {R : Result → Shared → Prop} {v : Value} {l : List Stretch} (T : Txt D s.heap) (hroom : A.depth < recursionLimit) (hh : A.handled = none) (X : StrchsAt s.heap.get? v l)
    (hb : l.length ≤ 2 ^ 20) (hb2 : lenOf l ≤ 2 ^ 20)
    (h : ∀ s' t, s'.os = s.os → s'.gens = s.gens → s.heap.objs.size ≤ s'.heap.objs.size → Le s.heap.get? s'.heap.get? → R (.ok (.ret (.int (lenOf l) t))) s') :
    codeAny (model prog w) A (.call (.ref D.size) ⟨[v], []⟩) R s := by
  refine r_call (g := s.heap.get?) (binds := [("stretches", v)]) T.fSize T.lim hroom (Le.refl _) (fun doc pm cd ct an => BindsTo.of_eq rfl) (fun F doc pm cd ct an A' s₁ f1 f2 f3 f4 a1 a2 a3 Z => ?_)
  replace hh : A'.handled = none := a1.trans hh
  have TT : ∀ {g ms s'}, St F g ms s' → Txt D s'.heap := fun Z => T.mono (f2 ▸ Z.kp)
  obtain ⟨its, ⟨la, nn, rfl, hla⟩, hits⟩ := X
  refine wpAny_execs_cons (wpAny_Return_some (r_b1 (TT Z).nSum ?_))
  have hlen := hits.length
  refine r_listcomp (F := F) (n := its.length) (j := 1) (th := fun i => .iter la i) (P := fun i x => its[i]? = some x) (side := fun h => h.IsList la its.toArray)
    (fun i g' ys => All2 (fun v n => ∃ t, v = .int n t) ys ((l.take i).map fun x => (x.2.length : Int))) (by lia) rfl (by decide +kernel) (by decide +kernel) ?_
  refine r_ld Z rfl (wpAny_pyIter_list (items := its.toArray) ⟨_, Z.dat _ _ hla, rfl, _, rfl⟩ ?_)
  refine ⟨_, rfl, itk_list hh, s.heap.get?, _, Z.allocM (t := .iter la 0) rfl ⟨rfl, rfl⟩, rfl, ?_, by simpa using All2.nil, ?_, ?_⟩
  · intro g' s' U Z
    exact ⟨_, Z.dat _ _ (U.1 _ _ hla), rfl, _, rfl⟩
  · intro C D' i x g' ys vs s' hC hD hi hx hI hlen U Z
    obtain ⟨⟨mk, sg⟩, hm, t1, t2, X⟩ := hits.get hx
    refine r_untup Z hC hh ((X.mono U.1).mono Z.dat) rfl rfl fun s₅ Z _ => ?_
    refine wpAny_assignInOrder_more (r_assign (env := compEnvC _ _ C _) Z fun s₆ Z => ?_)
    refine wpAny_assignInOrder_more (r_assign (env := compEnvC _ _ C _) Z fun s₇ Z => wpAny_assignInOrder_none ?_)
    refine r_b1 (TT Z).nLen (r_ld (env := compEnvC _ _ C _) Z rfl (r_len_str Z ?_ fun t s₈ Z => ?_))
    · have := lenOf_mem (mem_of_idx hm); dsimp only at this ⊢; lia
    refine ⟨g', _, Up.refl _ _, ?_, Z⟩
    rw [List.take_add_one, hm, List.map_append]
    exact hI.append (.cons ⟨t, rfl⟩ .nil)
  · intro D' g' ys s' hD U hI hlen Z
    have hl : s'.heap.IsList D' ys.toArray := by
      obtain ⟨o, e, n, rfl⟩ := Z.own 1 (a := D') (t := .list ys) rfl
      exact ⟨_, e, rfl, n, rfl⟩
    refine r_sum Z (Nat.le_refl _) hh hl hI fun t s'' Z => ?_
    have e : (List.map (fun x : Stretch => (x.2.length : Int)) (l.take its.length)).sum = (lenOf l : Int) := by
      rw [hits.length, List.take_length, lenOf_sum]
    rw [e]
    exact h _ _ (Z.os.trans f3) (Z.gens.trans f4) (f1 ▸ Z.sz) (f2 ▸ Z.kp)
end
end Mine
end

section
open PySem PySem.W PyProof.Rows
namespace Mine

section
variable {prog : Program} {w : World} {A : Around} {E : Value → Shared → Prop} {env : Env} {F : Fx} {g : View} {ms : List (Addr × Thing)} {s : Shared} {vs : List (Str × Value)}

theorem mem_of_lookup {β : Type} {x : Str} {v : β} : ∀ {vs : List (Str × β)}, vs.lookup x = some v → (x, v) ∈ vs
  | [], ex => by cases ex
  | y :: r, ex => by
    rw [List.lookup_cons] at ex
    by_cases hy : x = y.1
    · have : (x == y.1) = true := by simpa using hy
      rw [this] at ex; cases ex; rw [hy]; exact .head _
    · have : (x == y.1) = false := by simpa using hy
      rw [this] at ex; exact .tail _ (mem_of_lookup ex)
theorem lookup_of_mem {β : Type} {x : Str} {v : β} : ∀ {vs : List (Str × β)}, (vs.map (·.1)).Nodup → (x, v) ∈ vs → vs.lookup x = some v
  | [], _, hp => by cases hp
  | y :: r, hnd, hp => by
    rw [List.lookup_cons]
    rcases List.mem_cons.mp hp with rfl | hp
    · simp
    · rw [List.map_cons, List.nodup_cons] at hnd
      have hne : (x == y.1) = false := by
        simp only [beq_eq_false_iff_ne]
        rintro rfl
        exact hnd.1 (List.mem_map_of_mem (f := (·.1)) hp)
      rw [hne]
      exact lookup_of_mem hnd.2 hp
def cellEntries (d : Stmt) (n : Nat) (binds : List (Str × Value)) : List (Addr × Thing) :=
  (cellsFrom (n + 1) (defScope d).names []).map fun p => (p.2, .cell (bindC (fun x => (defScope d).names.lookup x) binds (fun _ => none) p.1))

/-- entering a def some of whose names are cells -/
theorem r_callC {f : Addr} {nm qual : Str} {d : Stmt} {dflt : Value} {vals : List Value} {binds : List (Str × Value)} {R : Result → Shared → Prop} {g : View} (vs : List (Str × Value))
    (X : FnAt s.heap f nm qual d dflt) (hlim : s.heap.NoLimit) (hroom : A.depth < recursionLimit) (hg : Le g s.heap.get?)
    (hbind : ∀ doc pm cd ct an, bindArgs (mkFd nm qual d dflt doc pm cd ct an) ⟨vals, []⟩ = pure binds)
    (hvs : ∀ p ∈ vs, bindL (fun x => (defScope d).names.lookup x) binds (fun _ => none) p.1 = some p.2)
    (hkind : ∀ n, ∀ x ∈ binds, (defScope d).names.lookup x.1 = some .local ∨ ((defScope d).names.lookup x.1 = some .cell ∧ ((cellsFrom (n + 1) (defScope d).names []).lookup x.1).isSome = true))
    (hnd : ∀ n, ((cellsFrom (n + 1) (defScope d).names []).map (·.1)).Nodup)
    (h : ∀ F doc pm cd ct an A' s₁, F.n = s.heap.objs.size → F.k = s.heap.get? → F.os = s.os → F.gens = s.gens → A'.handled = A.handled → A'.depth = A.depth + 1 → A'.units = A.units + 3 → St F g ((F.n, .vars vs) :: cellEntries d F.n binds) s₁ →
      wpAny (model prog w) A' (execs (defBody d) (callEnvC (mkFd nm qual d dflt doc pm cd ct an) F.n f)) (fun fl s' => R (.ok (.ret (match fl with | .ret v => v | _ => .none))) s') (fun _ _ => False) s₁)
    (hco : (defScope d).isCoroutine = false := by rfl) (hgen : (defScope d).isGenerator = false := by rfl) (hk : (defScope d).kind = .function := by rfl) :
    codeAny (model prog w) A (.call (.ref f) ⟨vals, []⟩) R s := by
  obtain ⟨o, doc, pm, cd, ct, an, e, p, c⟩ := X
  refine codeAny_call_cells hroom e p hlim c rfl (hbind doc pm cd ct an) rfl (hkind _) (fun s₁ x => ?_) hco hgen hk
  refine wpAny_mono (h ⟨s.heap.objs.size, s.heap.get?, s.os, s.gens⟩ doc pm cd ct an _ _ rfl rfl rfl rfl rfl rfl rfl ?_) (fun _ _ q => q) fun _ _ q => q.elim
  obtain ⟨⟨⟨h₁, tk, rfl⟩, hns, hkeep, hfr⟩, hcell, hap, hab⟩ := x
  have hnone : ∀ a, s.heap.objs.size ≤ a → s.heap.get? a = none := fun a ha => by
    cases q : s.heap.get? a with
    | none => rfl
    | some o => exact absurd (Heap.lt_size q) (Nat.not_lt.mpr ha)
  have hnoneg : ∀ a, s.heap.objs.size ≤ a → g a = none := fun a ha => by
    cases q : g a with
    | none => rfl
    | some o => exact absurd (Heap.lt_size (hg _ _ q)) (Nat.not_lt.mpr ha)
  refine ⟨rfl, rfl, Nat.le_of_lt hns.lt, hkeep, hg.trans hkeep, fun q hq => ?_, ?_⟩
  · rcases List.mem_cons.mp hq with rfl | hq
    · refine ⟨ns_own hns fun x v ex => ?_, hnoneg _ (Nat.le_refl _), hnone _ (Nat.le_refl _)⟩
      exact hvs (x, v) (mem_of_lookup ex)
    · obtain ⟨⟨x, ca⟩, hp, rfl⟩ := List.mem_map.mp hq
      have hlk : (cellsFrom (s.heap.objs.size + 1) (defScope d).names []).lookup x = some ca := lookup_of_mem (hnd s.heap.objs.size) hp
      obtain ⟨o, eo, ho⟩ := hcell x ca hlk
      have hca : s.heap.objs.size < ca := hab x ca hp
      exact ⟨⟨o, eo, ho⟩, hnoneg _ (Nat.le_of_lt hca), hnone _ (Nat.le_of_lt hca)⟩
  · rw [List.map_cons, List.nodup_cons]
    unfold cellEntries
    rw [List.map_map]
    refine ⟨fun hm => ?_, ?_⟩
    · obtain ⟨⟨x, ca⟩, hp, e'⟩ := List.mem_map.mp hm
      have := hab x ca hp
      exact absurd e' (Nat.ne_of_gt this)
    · rw [List.nodup_iff_pairwise_ne, List.pairwise_map]
      exact hap

theorem r_ldc {x : Str} {pos : Pos} {v : Value} {i : Nat} {c : Addr} {Q : Value → Shared → Prop} (Z : St F g ms s) (hi : ms[i]? = some (c, .cell (some v))) (h : Q v s)
    (hk : env.scope.kind = .function := by rfl) (hl : env.kindOf x = some .cell := by rfl) (hc : env.cells.lookup x = some c := by rfl) (hd : (x == ("__debug__" : Str)) = false := by decide) :
    wpAny (model prog w) A (eval (.Name x pos) env) Q E s :=
  wpAny_Name (wpAny_loadName_cell hk hl hc (let ⟨o, e, q⟩ := Z.own i hi; ⟨o, e, q⟩) h) hd
theorem r_loadc {x : Str} {v : Value} {i : Nat} {c : Addr} {Q : Value → Shared → Prop} (Z : St F g ms s) (hi : ms[i]? = some (c, .cell (some v))) (h : Q v s)
    (hk : env.scope.kind = .function := by rfl) (hl : env.kindOf x = some .cell := by rfl) (hc : env.cells.lookup x = some c := by rfl) :
    wpAny (model prog w) A (loadName env x) Q E s := wpAny_loadName_cell hk hl hc (let ⟨o, e, q⟩ := Z.own i hi; ⟨o, e, q⟩) h
theorem r_stc {x : Str} {v : Value} {v₀ : Option Value} {i : Nat} {c : Addr} {Q : Unit → Shared → Prop} (Z : St F g ms s) (hi : ms[i]? = some (c, .cell v₀)) (h : ∀ s', St F g (ms.set i (c, .cell (some v))) s' → Q () s')
    (hk : env.scope.kind = .function := by rfl) (hl : env.kindOf x = some .cell := by rfl) (hc : env.cells.lookup x = some c := by rfl) :
    wpAny (model prog w) A (storeName env x v) Q E s :=
  wpAny_storeName_cell hk hl hc (let ⟨o, e, q⟩ := Z.own i hi; ⟨o, e, q⟩) fun h' ⟨o, e, q⟩ hs => h _ (Z.change i hi hs ⟨o, e, q⟩)

/-! lists and tuples made, read, changed -/
theorem r_newList {its : List Value} {Q : Value → Shared → Prop} (Z : St F g ms s) (hsz : its.length ≤ 2 ^ 20)
    (h : ∀ D s', F.n ≤ D → St F g (ms ++ [(D, .list its)]) s' → Q (.ref D) s') : wpAny (model prog w) A (newList its) Q E s :=
  wpAny_newList (h _ _ Z.sz (Z.allocM rfl ⟨0, rfl⟩)) (by rw [sizeLine_eq]; lia)
theorem r_newTuple {its : List Value} {Q : Value → Shared → Prop} (Z : St F g ms s) (hsz : its.length ≤ 2 ^ 20)
    (h : ∀ v g' s', Up F.n g g' → TupAt g' v its → St F g' ms s' → Q v s') : wpAny (model prog w) A (newTuple its) Q E s :=
  wpAny_newTuple (h _ _ _ (Z.allocI (o := { cls := .type "tuple", data := .seq its.toArray }) rfl).1 ⟨_, rfl, put_self _ _ _⟩ (Z.allocI rfl).2) (by rw [sizeLine_eq]; lia)

theorem own_isList {h : Heap} {a : Addr} {its : List Value} (x : Own h a (.list its)) : h.IsList a its.toArray := let ⟨_, e, n, q⟩ := x; ⟨_, e, by rw [q], n, by rw [q]⟩
theorem LstAt.isList {g : View} {h : Heap} {a : Addr} {its : List Value} (x : LstAt g (.ref a) its) (k : Le g h.get?) : h.IsList a its.toArray := by
  obtain ⟨b, n, e, q⟩ := x
  cases e
  exact ⟨_, k _ _ q, rfl, n, rfl⟩

theorem r_item {l : Addr} {its : List Value} {k : Nat} {t : Tok} {x : Value} {value slice : Expr} {Q : Value → Shared → Prop} (hl : s.heap.IsList l its.toArray) (hk : k ≤ 2 ^ 20) (hx : its[k]? = some x) (h : Q x s)
    (hs : subscripted slice false (.ref l) (.int (k : Int) t) = operate [.ref l, .int (k : Int) t] (getItem (.ref l) (.int (k : Int) t)) := by with_unfolding_all rfl) :
    wpAny (model prog w) A (subscriptTail value slice (.ref l) (.int (k : Int) t)) Q E s :=
  tail_any hl.typeIs slot_list_getitem.lookup (wpAny_getItem_list hl (by lia) (by lia) (by simpa using hx) h) hs

theorem r_getLast {l : Addr} {ys : List Value} {y : Value} {t : Tok} {Q : Value → Shared → Prop} (hl : s.heap.IsList l (ys ++ [y]).toArray) (h : Q y s) :
    wpAny (model prog w) A (getItem (.ref l) (.int (-1) t)) Q E s := by
  refine wpAny_getItem_list_neg hl (by lia) (by simp; lia) (by lia) ?_ h
  have : ((-1 : Int) + ((ys ++ [y]).toArray.size : Int)).toNat = ys.length := by simp; lia
  rw [this]; simp

theorem r_setLast {i : Nat} {l : Addr} {ys : List Value} {y v : Value} {t : Tok} {Q : Unit → Shared → Prop} (Z : St F g ms s) (hi : ms[i]? = some (l, .list (ys ++ [y])))
    (h : ∀ s', St F g (ms.set i (l, .list (ys ++ [v]))) s' → Q () s') : wpAny (model prog w) A (setItem (.ref l) (.int (-1) t) v) Q E s := by
  obtain ⟨o, ho, n, rfl⟩ := Z.own i hi
  have hl : s.heap.IsList l (ys ++ [y]).toArray := ⟨_, ho, rfl, n, rfl⟩
  unfold setItem
  try with_reducible refine wpAny_holding ?_
  first | refine wpAny_bind (wpAny_pure ?_) | skip
  refine wpAny_bind (wpAny_sequenceKey hl.typeIs (by decide) ?_)
  refine wpAny_bind (wpAny_callSpecial?_slot (name := Str.ofString "__setitem__") hl.typeIs slot_list_setitem
    (wpAny_call_entry slot_list_setitem hl.typeIs entry_list_setitem ?_ (args_list_setitem _ _ _)))
  show wpAny _ _ (Builtin.List.listSubscript? (.int (-1) t) >>= _) _ _ s
  refine wpAny_bind (wpAny_listSubscript_int (fitsIndex_neg (by lia) (by lia)) ?_)
  have hidx : seqIndex? (-1) (ys ++ [y]).toArray.size = some ys.length := by
    rw [seqIndex_neg (by lia) (by simp; lia)]
    congr 1
    simp; lia
  show wpAny _ _ ((Builtin.List.listItems (.ref l) >>= fun xs => pure ((seqIndex? (-1) xs.size).bind fun i => xs[i]?.map (i, ·))) >>= _) _ _ s
  refine wpAny_bind (wpAny_bind ?_)
  show wpAny _ _ (seqItems? (.ref l) >>= _) _ _ s
  refine wpAny_bind (wpAny_seqItems ho rfl (wpAny_pure (wpAny_pure ?_)))
  rw [hidx]
  have hx : (ys ++ [y]).toArray[ys.length]? = some y := by simp
  simp only [Option.bind_some, hx, Option.map_some]
  show wpAny _ _ (setSeqItemAt l ys.length v >>= _) _ _ s
  have he : (ys ++ [y]).toArray.setIfInBounds ys.length v = (ys ++ [v]).toArray := by
    simp [List.set_append]
  have hfin : Own (s.heap.update l (Obj.mapSeq (·.setIfInBounds ys.length v))) l (.list (ys ++ [v])) := by
    refine ⟨_, Heap.get?_update_self _ ho rfl, ?_⟩
    show ∃ n', _ = _
    simp only [Obj.mapSeq, he]
    exact ⟨_, rfl⟩
  have hf := h _ (Z.change i hi (Heap.SameBut.update ..) hfin)
  refine wpAny_bind (wpAny_setSeqItemAt ho rfl ?_)
  first
    | exact wpAny_bind (wpAny_pure (wpAny_pure ⟨.none, rfl, wpAny_pure hf⟩))
    | exact wpAny_pure ⟨.none, rfl, wpAny_pure hf⟩

inductive RangeP (F : Fx) (Q : Value → Shared → Prop) (v : Value) (s₁ : Shared) : Prop
  | mk (N : Nat) (t : Tok) (g : View) (ms : List (Addr × Thing)) (e : v = .int (N : Int) t) (hN : N ≤ 2 ^ 20) (Z : St F g ms s₁) (k : ∀ it s₂, St F g (ms ++ [(it, rangeTh N 0)]) s₂ → Q (.ref it) s₂) : RangeP F Q v s₁
theorem r_range {e : Expr} {p pos : Pos} {Q : Value → Shared → Prop} (G : GName s.heap "range" (.type "range"))
    (h : wpAny (model prog w) A (eval e env) (RangeP F Q) E s)
    (htrees : backTo pos (starEach [e] env) = [(false, eval e env)] := by rfl)
    (hg : env.globals = mainGlobals := by rfl) (hb : env.builtins = builtinsNs := by rfl)
    (hk : env.scope.kind = .function := by rfl) (hx : env.kindOf "range" = some .globalImplicit := by rfl) :
    wpAny (model prog w) A (eval (.Call (.Name "range" p) [e] [] pos) env) (fun xv s₁ => wpAny (model prog w) A (pyIter xv) Q E s₁) E s := by
  refine wpAny_Call_NameR (r_glob G ?_ hg hb hk hx)
  rw [htrees]
  refine PySem.callWith_type rfl (Calls.evalArgs_plain (Calls.spliced_cons (wpAny_mono h (fun nv s₁ h₁ => Calls.spliced_nil ?_) fun _ _ e => e)))
  obtain ⟨N, t, g, ms, rfl, hN, Z, k⟩ := h₁
  refine call_range_1 ?_
  refine wpAny_pyIter_range (IsRange.new ..) (small_one (by decide) (by decide) (by lia) (by lia)) ?_
  have hsz : Builtin.Range.rangeSize 0 N 1 = (N : Int) := by rw [rangeSize_one]; split <;> lia
  rw [hsz]
  have Z1 := (Z.allocI (o := { cls := .type "range", data := .fields #[.int 0 s₁.toks, .int (N : Int) t, .int 1 (s₁.toks + 1)] }) rfl).2
  refine k _ _ ?_
  have Z2 : St F g ms { s₁ with heap := s₁.heap.push { cls := .type "range", data := .fields #[.int 0 s₁.toks, .int (N : Int) t, .int 1 (s₁.toks + 1)] } } :=
    ⟨Z1.os, Z1.gens, Z1.sz, Z1.kp, Z.dat.push _, fun p hp => ⟨(Z1.now p hp).1, (Z.now p hp).2⟩, Z.nd⟩
  refine ((Z2.toks _).allocM rfl ?_)
  show _ = _
  simp
end
end Mine
end

section
open PySem PySem.W PyProof.Rows
namespace Mine

inductive Num where
  | int (n : Nat)
  | str (l : List Nat)
def NumV : Num → Value → Prop
  | .int n, v => ∃ t, v = .int (n : Int) t
  | .str l, v => ∃ t, v = .str (S l) t
def Num.tr : Num → Bool
  | .int n => n != 0
  | .str l => l.length != 0
def Num.short : Num → Prop
  | .int _ => True
  | .str l => l.length ≤ 2 ^ 20
def PieceAt (g : View) (v : Value) (p : Num × List Nat) : Prop := ∃ nv t, NumV p.1 nv ∧ TupAt g v [nv, .str (S p.2) t]
theorem PieceAt.mono {g g' : View} {v p} (x : PieceAt g v p) (k : Le g g') : PieceAt g' v p := let ⟨a, b, c, d⟩ := x; ⟨a, b, c, d.mono k⟩
def ColsAt (g : View) (v : Value) (cols : List Nat) : Prop := ∃ its, LstAt g v its ∧ All2 (fun v (c : Nat) => ∃ t, v = .int (c : Int) t) its cols
theorem ColsAt.mono {g g' : View} {v p} (x : ColsAt g v p) (k : Le g g') : ColsAt g' v p := let ⟨a, b, c⟩ := x; ⟨a, b.mono k, c⟩

def wt : List Stretch → Nat
  | [] => 0
  | (m, sg) :: r => (m.length + sg.length + 3) + wt r
theorem wt_append (a b : List Stretch) : wt (a ++ b) = wt a + wt b := by
  induction a with
  | nil => simp [wt]
  | cons x r ih => obtain ⟨m, sg⟩ := x; simp [wt, ih]; lia
theorem lenOf_wt (l : List Stretch) : lenOf l ≤ wt l := by
  induction l with
  | nil => simp [wt, lenOf]
  | cons x r ih => obtain ⟨m, sg⟩ := x; simp [wt, lenOf]; lia
theorem length_wt (l : List Stretch) : l.length ≤ wt l := by
  induction l with
  | nil => simp [wt]
  | cons x r ih => obtain ⟨m, sg⟩ := x; simp [wt]; lia
theorem text_wt (l : List Stretch) : (textOf l).length ≤ wt l := by
  induction l with
  | nil => simp [wt, textOf]
  | cons x r ih =>
    obtain ⟨m, sg⟩ := x
    simp only [wt, textOf, List.length_append]
    split
    · lia
    · simp; lia

structure PS where
  front : List (List Nat)
  last : List Nat
  seen : Nat
def heldOf (m : List Nat) : List Nat := if m = [] then [] else 0 :: m
def shut (held : List Nat) : List Nat := if held = [] then [] else [1]
def leaves (cols : List Nat) (k : Nat) : Nat := cols.foldl (fun a c => a % c) k
def signStep (cols : List Nat) (N : Nat) (held : List Nat) (p : PS) (c : Nat) : PS :=
  if leaves cols (p.seen + 1) = 0 ∧ p.seen + 1 < N then ⟨p.front ++ [p.last ++ [c] ++ shut held], held, p.seen + 1⟩ else ⟨p.front, p.last ++ [c], p.seen + 1⟩
def strStep (cols : List Nat) (N : Nat) (p : PS) (x : Stretch) : PS :=
  let q := x.2.foldl (signStep cols N (heldOf x.1)) ⟨p.front, p.last ++ heldOf x.1, p.seen⟩
  ⟨q.front, q.last ++ shut (heldOf x.1), q.seen⟩
def psOf (cols : List Nat) (l : List Stretch) : PS := l.foldl (strStep cols (lenOf l)) ⟨[], [], 0⟩
def PS.all (p : PS) : List (List Nat) := p.front ++ [p.last]
def numbered (n : Num) : List (List Nat) → List (Num × List Nat)
  | [] => []
  | p :: r => (n, p) :: r.map fun q => (.str [62], q)
def lawPieces (n : Num) (l : List Stretch) (cols : List Nat) : List (Num × List Nat) :=
  if n.tr then numbered n (psOf cols l).all else [(n, textOf l)]

theorem numbered_length (n : Num) (ps : List (List Nat)) : (numbered n ps).length = ps.length := by
  cases ps <;> simp [numbered]
theorem numbered_get (n : Num) (ps : List (List Nat)) (k : Nat) (x : List Nat) (h : ps[k]? = some x) : (numbered n ps)[k]? = some (if k = 0 then n else .str [62], x) := by
  cases ps with
  | nil => simp at h
  | cons p r =>
    cases k with
    | zero => simp at h; subst h; simp [numbered]
    | succ k => simp at h; simp [numbered, h]

theorem heldOf_len (m : List Nat) : (heldOf m).length ≤ m.length + 1 := by unfold heldOf; split <;> simp
theorem shut_len (h : List Nat) : (shut h).length ≤ 1 := by unfold shut; split <;> simp

section
variable {prog : Program} {w : World} {A : Around} {E : Value → Shared → Prop} {env : Env} {F : Fx} {g : View} {ms : List (Addr × Thing)} {s : Shared} {vs : List (Str × Value)}

theorem r_truthyNum {n : Num} {v : Value} {Q : Bool → Shared → Prop} (Z : St F g ms s) (X : NumV n v) (hs : n.short) (h : ∀ s', St F g ms s' → Q n.tr s') : wpAny (model prog w) A (truthy v) Q E s := by
  cases n with
  | int n =>
    obtain ⟨t, rfl⟩ := X
    refine PyProof.Rows.truthy_int ?_
    have : ((n : Int) != 0) = (n != 0) := by
      rw [Bool.eq_iff_iff]; simp
    rw [this]; exact h s Z
  | str l =>
    obtain ⟨t, rfl⟩ := X
    have hs' : l.length ≤ 2 ^ 20 := hs
    refine PySem.P.truthy_str (by rw [S_len]; lia) ?_
    have : (((S l).length : Int) != 0) = (l.length != 0) := by
      rw [S_len, Bool.eq_iff_iff]; simp
    rw [this]; exact h _ (Z.toks _)

theorem r_tuple2 {e₁ e₂ : Expr} {k : Nat} {pos : Pos} {Q : Value → Shared → Prop}
    (h : wpAny (model prog w) A (eval e₁ env) (fun a s₁ => wpAny (model prog w) A (eval e₂ env) (fun b s₂ => wpAny (model prog w) A (newTuple [a, b]) Q E s₂) E s₁) E s)
    (htrees : backTo pos (starEach [e₁, e₂] env) = [(false, eval e₁ env), (false, eval e₂ env)] := by rfl) :
    wpAny (model prog w) A (eval (.Tuple [e₁, e₂] k pos) env) Q E s := by
  refine Tuple_ ?_
  rw [htrees]
  exact Calls.spliced_cons (wpAny_mono h (fun v s₁ h₁ => Calls.spliced_cons (wpAny_mono h₁ (fun u s₂ h₂ => Calls.spliced_nil h₂) fun _ _ e => e)) fun _ _ e => e)
theorem r_tuple3 {e₁ e₂ e₃ : Expr} {k : Nat} {pos : Pos} {Q : Value → Shared → Prop}
    (h : wpAny (model prog w) A (eval e₁ env) (fun a s₁ => wpAny (model prog w) A (eval e₂ env) (fun b s₂ => wpAny (model prog w) A (eval e₃ env) (fun c s₃ => wpAny (model prog w) A (newTuple [a, b, c]) Q E s₃) E s₂) E s₁) E s)
    (htrees : backTo pos (starEach [e₁, e₂, e₃] env) = [(false, eval e₁ env), (false, eval e₂ env), (false, eval e₃ env)] := by rfl) :
    wpAny (model prog w) A (eval (.Tuple [e₁, e₂, e₃] k pos) env) Q E s := by
  refine Tuple_ ?_
  rw [htrees]
  exact Calls.spliced_cons (wpAny_mono h (fun v s₁ h₁ => Calls.spliced_cons (wpAny_mono h₁ (fun u s₂ h₂ => Calls.spliced_cons (wpAny_mono h₂ (fun u s₃ h₃ => Calls.spliced_nil h₃) fun _ _ e => e)) fun _ _ e => e)) fun _ _ e => e)
theorem r_list1 {e₁ : Expr} {pos : Pos} {Q : Value → Shared → Prop}
    (h : wpAny (model prog w) A (eval e₁ env) (fun a s₁ => wpAny (model prog w) A (newList [a]) Q E s₁) E s)
    (htrees : backTo pos (starEach [e₁] env) = [(false, eval e₁ env)] := by rfl) :
    wpAny (model prog w) A (eval (.List [e₁] pos) env) Q E s := by
  refine List_ ?_
  rw [htrees]
  exact Calls.spliced_cons (wpAny_mono h (fun v s₁ h₁ => Calls.spliced_nil h₁) fun _ _ e => e)

theorem r_augLast {x : Str} {p p2 p3 p4 pos : Pos} {k : Nat} {value : Expr} {Q : Flow → Shared → Prop} {i j : Nat} {c D : Addr} {ys : List Value} {a : List Nat} {t : Tok}
    (Z : St F g ms s) (hi : ms[i]? = some (c, .cell (some (.ref D)))) (hj : ms[j]? = some (D, .list (ys ++ [.str (S a) t])))
    (hv : ∀ s₀, St F g ms s₀ → wpAny (model prog w) A (eval value env) (fun v s₁ => ∃ b u, v = .str (S b) u ∧ St F g ms s₁ ∧ a.length + b.length ≤ 2 ^ 20 ∧
      ∀ t' s₂, St F g (ms.set j (D, .list (ys ++ [.str (S (a ++ b)) t']))) s₂ → Q .next s₂) E s₀)
    (hk : env.scope.kind = .function := by rfl) (hl : env.kindOf x = some .cell := by rfl) (hc : env.cells.lookup x = some c := by rfl) (hd : (x == ("__debug__" : Str)) = false := by decide)  :
    wpAny (model prog w) A (exec (.AugAssign (.Subscript (.Name x p) (.UnaryOp .USub (.Constant (.int 1) k p2) p3) p4) .Add value pos) env) Q E s := by
  refine wpAny_AugAssign_SubscriptAny (r_ldc Z hi (wpAny_UnaryOp (r_int Z fun t1 s₁ Z => PyProof.Rows.neg_int ?_)) hk hl hc hd)
  replace Z := Z.toks (s₁.toks + 1)
  refine r_getLast (own_isList (Z.own j hj)) (wpAny_mono (hv _ Z) (fun v s₂ h₂ => ?_) fun _ _ e => e)
  obtain ⟨b, u, rfl, Z, hb, kk⟩ := h₂
  refine iadd_str (fun t2 tk => ?_) (by rw [S_len, S_len, sizeLine_eq]; lia)
  rw [S_append]
  exact r_setLast (Z.toks tk) hj fun s₃ Z => kk _ _ Z

inductive AppB (F : Fx) (Q : Flow → Shared → Prop) (D : Addr) (y : Value) (s₂ : Shared) : Prop
  | mk (g : View) (ms : List (Addr × Thing)) (i : Nat) (ys : List Value) (Z : St F g ms s₂) (hj : ms[i]? = some (D, .list ys)) (hb : ys.length ≤ 2 ^ 20) (k : ∀ s₃, St F g (ms.set i (D, .list (ys ++ [y]))) s₃ → Q .next s₃) : AppB F Q D y s₂
inductive AppA (F : Fx) (prog : Program) (w : World) (A : Around) (e : Expr) (env : Env) (E : Value → Shared → Prop) (Q : Flow → Shared → Prop) (ov : Value) (s₁ : Shared) : Prop
  | mk (D : Addr) (its : List Value) (eq : ov = .ref D) (hO : Own s₁.heap D (.list its)) (h : wpAny (model prog w) A (eval e env) (AppB F Q D) E s₁) : AppA F prog w A e env E Q ov s₁
theorem r_appendS {o e : Expr} {apos pos spos : Pos} {Q : Flow → Shared → Prop}
    (h : wpAny (model prog w) A (eval o env) (AppA F prog w A e env E Q) E s)
    (hbase : attributeBase o "append" env (eval o env) = eval o env := by rfl)
    (hfew : ((backTo pos (starEach [e] env)).all (fun x => !x.1) && (backToKw pos (keywordEach [] env)).all (fun x => x.1.isSome)
      && decide (([e] : List Expr).length + ([] : List Keyword).length + (if ([] : List Keyword).isEmpty then 0 else 1) < 30)) = true := by rfl)
    (hline : (apos.endLine == pos.line) = true := by rfl)
    (htrees : backTo pos (starEach [e] env) = [(false, eval e env)] := by rfl)
    (hi : interactive env = false := by rfl) (hs : swapsWith (.Call (.Attribute o "append" apos) [e] [] pos) none spos.line env = pure false := by rfl) :
    wpAny (model prog w) A (exec (.Expr (.Call (.Attribute o "append" apos) [e] [] pos) spos) env) Q E s := by
  refine wpAny_Expr_any (wpAny_Call_append hbase hfew hline htrees (wpAny_mono h (fun ov s₁ h₁ => ?_) fun _ _ e => e)) hi hs
  obtain ⟨D, its, rfl, ⟨o', e1, n, rfl⟩, h₁⟩ := h₁
  refine ⟨D, its.toArray, rfl, ⟨_, n, e1, rfl, rfl, rfl⟩, wpAny_mono h₁ (fun y s₂ h₂ => ?_) fun _ _ e => e⟩
  obtain ⟨g, ms, i, ys, Z, hj, hb, k⟩ := h₂
  exact r_append Z hj hb k
end
end Mine
end

section
open PySem PySem.W PyProof.Rows
namespace Mine
section
variable {prog : Program} {w : World} {A : Around} {E : Value → Shared → Prop} {env : Env} {F : Fx} {g : View} {ms : List (Addr × Thing)} {s : Shared} {vs : List (Str × Value)}

theorem St.iterIn {L it : Addr} {t₀ t : Thing} (Z : St F g ((L, t₀) :: (ms ++ [(it, t)])) s) : St F g ((L, t₀) :: (it, t) :: ms) s :=
  Z.perm ((List.perm_append_singleton _ _).cons _)
theorem iter_list {l L : Addr} {t₀ : Thing} {its : List Value} {Q : Value → Shared → Prop} (Z : St F g ((L, t₀) :: ms) s) (hl : s.heap.IsList l its.toArray)
    (h : ∀ it s', St F g ((L, t₀) :: (it, .iter l 0) :: ms) s' → Q (.ref it) s') : wpAny (model prog w) A (pyIter (.ref l)) Q E s :=
  wpAny_pyIter_list hl (h _ _ (St.iterIn (Z.allocM (t := .iter l 0) rfl ⟨rfl, rfl⟩)))
theorem iter_str {x : List Nat} {t : Tok} {L : Addr} {t₀ : Thing} {Q : Value → Shared → Prop} (Z : St F g ((L, t₀) :: ms) s) (ha : ∀ c ∈ x, c < 128)
    (h : ∀ it s', St F g ((L, t₀) :: (it, strTh (S x) t 0) :: ms) s' → Q (.ref it) s') : wpAny (model prog w) A (pyIter (.str (S x) t)) Q E s :=
  wpAny_pyIter_ascii (by simpa [S] using ha) (h _ _ (St.iterIn (Z.allocM (t := strTh (S x) t 0) rfl ⟨rfl, rfl⟩)))

abbrev LoopK (I : Shared → Prop) (Q : Flow → Shared → Prop) (f : Flow) (s : Shared) : Prop := match f with
  | .next | .cont => I s | .brk => Q .next s | .ret v => Q (.ret v) s
inductive LoopSt (F : Fx) (L it : Addr) (t : Thing) (J : View → List (Str × Value) → List (Addr × Thing) → Prop) (s : Shared) : Prop
  | mk (g : View) (vs : List (Str × Value)) (ms : List (Addr × Thing)) (hJ : J g vs ms) (Z : St F g ((L, .vars vs) :: (it, t) :: ms) s) : LoopSt F L it t J s

theorem r_for1 {target iter : Expr} {body : List Stmt} {pos : Pos} {Q : Flow → Shared → Prop} {n : Nat} {th : Nat → Thing} {P : Nat → Value → Prop} {side : Heap → Prop}
    (J : Nat → View → List (Str × Value) → List (Addr × Thing) → Prop) (hL : F.n ≤ env.locals)
    (h0 : wpAny (model prog w) A (eval iter env) (fun x s₁ => wpAny (model prog w) A (pyIter x) (fun itv s₂ => ∃ it, itv = .ref it ∧ ItK prog w A it n th P side ∧
      LoopSt F env.locals it (th 0) (J 0) s₂) (fun _ _ => False) s₁) (fun _ _ => False) s)
    (hside : ∀ i g vs ms (s : Shared), J i g vs ms → Le g s.heap.get? → Le F.k s.heap.get? → (∀ p ∈ ms, Own s.heap p.1 p.2) → side s.heap)
    (turn : ∀ it i x g vs ms s, i < n → P i x → J i g vs ms → St F g ((env.locals, .vars vs) :: (it, th (i + 1)) :: ms) s → wpAny (model prog w) A (assign target env x) (fun _ s₂ => wpAny (model prog w) A (execs body env) (LoopK (LoopSt F env.locals it (th (i + 1)) (J (i + 1))) Q) (fun _ _ => False) s₂) (fun _ _ => False) s)
    (fin : ∀ g vs ms s, J n g vs ms → St F g ((env.locals, .vars vs) :: ms) s → Q .next s)
    (hs : ∀ x, foldedSetIterable iter env x = pure x := by intro _; rfl) :
    wpAny (model prog w) A (exec (.For target iter body [] pos) env) Q (fun _ _ => False) s := by
  refine r_for (F := F) (n := n) (th := th) (P := P) (side := side) (fun it i s => LoopSt F env.locals it (th i) (J i) s) hL h0 ?_ ?_ hs
  · rintro it i s hi ⟨g, vs, ms, hJ, Z⟩
    refine ⟨g, _, _, 0, Z, rfl, hside i g vs ms s hJ Z.dat Z.kp fun p hp => (Z.now p (.tail _ (.tail _ hp))).1, fun x s' hP Z => ?_⟩
    exact turn it i x g vs ms s' hi hP hJ Z
  · rintro it s ⟨g, vs, ms, hJ, Z⟩
    exact ⟨g, _, _, 0, Z, rfl, hside n g vs ms s hJ Z.dat Z.kp fun p hp => (Z.now p (.tail _ (.tail _ hp))).1, fun s' Z => fin g vs ms s' hJ Z⟩
end

def forBody : Stmt → List Stmt | .For _ _ b _ _ => b | _ => []
def pcFor : Stmt := (defBody dPieces).getD 3 (.Pass default)
def pcSign : Stmt := (forBody pcFor).getD 2 (.Pass default)
abbrev envPc (doc pm cd ct : Value) (an : Option Addr) (L f : Addr) : Env := callEnvC (mkFd "_law_pieces" "_law_pieces" dPieces .none doc pm cd ct an) L f

def pcTl (L PD : Addr) (nv : Value) (ys : List Value) (last : List Nat) (t : Tok) (its tl : List (Addr × Thing)) : List (Addr × Thing) :=
  its ++ (L + 1 + 1, .cell (some (.ref PD))) :: (L + 1, .cell (some nv)) :: (PD, .list (ys ++ [.str (S last) t])) :: tl
abbrev pcMs (L PD : Addr) (nv : Value) (vs : List (Str × Value)) (ys : List Value) (last : List Nat) (t : Tok) (its tl : List (Addr × Thing)) : List (Addr × Thing) :=
  (L, .vars vs) :: pcTl L PD nv ys last t its tl
inductive LeftJ (g : View) (cols : List Nat) (m : Nat) (base : List (Str × Value)) (tl : List (Addr × Thing)) (k : Nat) : View → List (Str × Value) → List (Addr × Thing) → Prop
  | mk (t : Tok) : LeftJ g cols m base tl k g (("left", .int ((leaves (cols.take k) m : Nat) : Int) t) :: base) tl

theorem fmod_nat (a b : Nat) : Int.fmod (a : Int) (b : Int) = ((a % b : Nat) : Int) := by
  rw [Int.fmod_eq_emod_of_nonneg _ (by lia)]; rfl

theorem leaves_snoc (cols : List Nat) (k i : Nat) (c : Nat) (h : cols[i]? = some c) : leaves (cols.take (i + 1)) k = leaves (cols.take i) k % c := by
  unfold leaves
  rw [List.take_add_one, h]
  simp [List.foldl_append]

abbrev pv0 (seen : Nat) (t1 : Tok) (held : List Nat) (t2 : Tok) (la ca : Addr) : List (Str × Value) :=
  [("seen", .int (seen : Int) t1), ("held", .str (S held) t2), ("stretches", .ref la), ("columns", .ref ca)]

section
variable {prog : Program} {w : World} {A : Around} {F : Fx} {g : View} {s : Shared}

theorem pc_sign {D : Ad} {doc pm cd ct : Value} {an : Option Addr} {f : Addr} {PD la ca it1 it2 : Addr} {nv : Value} {p : PS} {c : Nat} {held : List Nat} {ts t1 t2 t3 : Tok} {l : List Stretch} {cols : List Nat} {ys : List Value} {th1 th2 : Thing} {cits : List Value}
    (hh : A.handled = none) (hroom : A.depth < recursionLimit) (TT : ∀ {g ms s'}, St F g ms s' → Txt D s'.heap) (X : StrchsAt g (.ref la) l) (hca : LstAt g (.ref ca) cits) (hcits : All2 (fun v (c : Nat) => ∃ t, v = .int (c : Int) t) cits cols) (hpos : ∀ c ∈ cols, 0 < c)
    (hw : wt l ≤ 2 ^ 19) (hlast : p.last.length + 1 ≤ 2 ^ 19) (hys : All2 (fun v x => ∃ t, v = .str (S x) t) ys p.front) (hyl : ys.length + 1 ≤ 2 ^ 19)
    (Z : St F g (pcMs F.n PD nv (("sign", .str (S [c]) ts) :: pv0 p.seen t1 held t2 la ca) ys p.last t3 [(it2, th2), (it1, th1)] []) s) {Q : Flow → Shared → Prop}
    (hK : ∀ ys' t1 t3 s', All2 (fun v x => ∃ t, v = .str (S x) t) ys' (signStep cols (lenOf l) held p c).front → St F g (pcMs F.n PD nv (pv0 (signStep cols (lenOf l) held p c).seen t1 held t2 la ca) ys' (signStep cols (lenOf l) held p c).last t3 [(it2, th2), (it1, th1)] []) s' → Q .next s') :
    wpAny (model prog w) A (execs (forBody pcSign) (envPc doc pm cd ct an F.n f)) Q (fun _ _ => False) s := by
  refine r_seqA (φ := fun Kc => ∀ t3 s', St F g (pcMs F.n PD nv (("sign", .str (S [c]) ts) :: pv0 p.seen t1 held t2 la ca) ys (p.last ++ [c]) t3 [(it2, th2), (it1, th1)] []) s' → Kc s') ?_ ?_
  · intro Kc kc
    refine r_augLast (i := 3) (j := 5) Z rfl rfl fun s₀ Z => r_ld Z rfl ⟨[c], ts, rfl, Z, ?_, fun t' s₂ Z => ⟨rfl, kc t' _ Z⟩⟩
    simp; lia
  rintro t3 s₁ Z
  refine r_seqA (φ := fun Kc => ∀ t1 s', St F g (pcMs F.n PD nv (pv0 (p.seen + 1) t1 held t2 la ca) ys (p.last ++ [c]) t3 [(it2, th2), (it1, th1)] []) s' → Kc s') ?_ ?_
  · intro Kc kc
    refine wpAny_AugAssign_Name (r_load Z rfl (r_int Z fun t s₂ Z => iadd_int ?_))
    refine r_store (Z.toks _) fun s₃ Z => ⟨rfl, kc _ _ (Z.weak ⟨rfl, rfl, rfl, rfl, trivial⟩)⟩
  rintro t1 s₂ Z
  refine r_seqA (φ := fun Kc => ∀ t s', St F g (pcMs F.n PD nv (("left", .int ((p.seen + 1 : Nat) : Int) t) :: pv0 (p.seen + 1) t1 held t2 la ca) ys (p.last ++ [c]) t3 [(it2, th2), (it1, th1)] []) s' → Kc s') ?_ ?_
  · intro Kc kc
    refine wpAny_Assign_Name (r_ld Z rfl (r_store Z fun s₃ Z => ⟨rfl, kc _ _ Z⟩))
  rintro t s₃ Z
  refine r_seqA (φ := fun Kc => ∀ t s', St F g (pcMs F.n PD nv (("left", .int ((leaves cols (p.seen + 1) : Nat) : Int) t) :: pv0 (p.seen + 1) t1 held t2 la ca) ys (p.last ++ [c]) t3 [(it2, th2), (it1, th1)] []) s' → Kc s') ?_ ?_
  · intro Kc kc
    refine r_for1 (F := F) (n := cits.length) (th := fun i => .iter ca i) (P := fun i x => cits[i]? = some x) (side := fun h => h.IsList ca cits.toArray)
      (LeftJ g cols (p.seen + 1) (pv0 (p.seen + 1) t1 held t2 la ca) (pcTl F.n PD nv ys (p.last ++ [c]) t3 [(it2, th2), (it1, th1)] [])) (Nat.le_refl _) ?_ ?_ ?_ ?_
    · refine r_ld Z rfl (iter_list Z (hca.isList Z.dat) fun it s' Z => ⟨it, rfl, itk_list hh, g, _, _, ⟨t⟩, Z⟩)
    · rintro k g' vs ms s' ⟨_⟩ hd _ _
      exact hca.isList hd
    · rintro it k x g' vs ms s' hk hx ⟨t⟩ Z
      obtain ⟨cc, hc, tc, rfl⟩ := hcits.get hx
      have hcp := hpos cc (mem_of_idx hc)
      refine r_assign Z fun s₅ Z => ?_
      refine wpAny_execs_cons (wpAny_Assign_Name (wpAny_BinOp (r_ld Z rfl (r_ld Z rfl (mod_int' (by lia) ?_)))))
      rw [fmod_nat, ← leaves_snoc cols _ k cc hc]
      refine r_store (Z.toks _) fun s₆ Z => wpAny_execs_nil ⟨_, _, _, ⟨_⟩, Z.weak ⟨rfl, rfl, rfl, rfl, rfl, trivial⟩⟩
    · rintro g' vs ms s' ⟨t⟩ Z
      rw [show cols.take cits.length = cols by rw [hcits.length, List.take_length]] at Z
      exact ⟨rfl, kc t _ Z⟩
  rintro t s₄ Z
  refine wpAny_execs_cons (wpAny_If (isTrue_and (wpAny_isTrue_Compare1 (r_ld Z rfl (r_int Z fun t' s₅ Z => PyProof.Rows.eq_int (wpAny_truthy_bool ?_))))))
  have hz : (((leaves cols (p.seen + 1) : Nat) : Int) == 0) = decide (leaves cols (p.seen + 1) = 0) := by
    rw [Bool.eq_iff_iff]; simp
  rw [hz]
  refine split_dec (fun q1 => ?_) fun q1 => ?_
  · refine isTrue_and (wpAny_isTrue_Compare1 (r_ld Z rfl (r_f1 (TT Z).nSize (r_ld Z rfl ⟨(TT Z).fSize, ?_⟩))))
    refine size_spec (TT Z) hroom hh (X.mono Z.dat) (by have := length_wt l; lia) (by have := lenOf_wt l; lia) fun s₆ t6 o1 o2 o3 o4 => ?_
    replace Z := Z.ext o1 o2 o3 o4
    refine PyProof.Rows.lt_int (wpAny_truthy_bool ?_)
    refine split_dec (fun q2 => ?_) fun q2 => ?_
    · have hst : signStep cols (lenOf l) held p c = ⟨p.front ++ [p.last ++ [c] ++ shut held], held, p.seen + 1⟩ := by
        unfold signStep; rw [if_pos ⟨q1, by lia⟩]
      rw [hst] at hK
      refine isTrue_and_nil ?_
      simp only [if_true]
      refine r_seqA (φ := fun Kc => ∀ t3 s', St F g (pcMs F.n PD nv (pv0 (p.seen + 1) t1 held t2 la ca) ys (p.last ++ [c] ++ shut held) t3 [(it2, th2), (it1, th1)] []) s' → Kc s') ?_ ?_
      · intro Kc kc
        refine r_augLast (i := 3) (j := 5) Z rfl rfl fun s₀ Z => wpAny_IfExp (wpAny_isTrue_Compare1 (r_ld Z rfl (r_str Z fun t7 s₇ Z => eq_str (wpAny_truthy_bool ?_))))
        rw [S_empty, S_beq]
        refine split_bool (fun q => ?_) fun q => ?_
        · have hm : held = [] := by simpa using q
          refine r_str Z fun t8 s₈ Z => ⟨[], t8, rfl, Z, ?_, fun t' s₂ Z => ⟨rfl, kc t' _ ?_⟩⟩
          · simp; lia
          · have e : shut held = [] := by simp [shut, hm]
            rw [e]; exact Z.weak ⟨rfl, rfl, rfl, rfl, trivial⟩
        · have hm : held ≠ [] := by simpa using q
          refine r_str Z fun t8 s₈ Z => ⟨[1], t8, by rw [S_1], Z, ?_, fun t' s₂ Z => ⟨rfl, kc t' _ ?_⟩⟩
          · simp; lia
          · have e : shut held = [1] := by simp [shut, hm]
            rw [e]; exact Z.weak ⟨rfl, rfl, rfl, rfl, trivial⟩
      rintro t3 s₇ Z
      refine wpAny_execs_cons (r_appendS (F := F) (r_ldc (i := 3) Z rfl ⟨PD, _, rfl, Z.own 5 rfl, r_ld Z rfl ⟨g, _, 5, _, Z, rfl, ?_, fun s₈ Z => wpAny_execs_nil (wpAny_execs_nil (hK (ys ++ [Value.str (S (p.last ++ [c] ++ shut held)) t3]) t1 t2 _ ?_ (by exact Z)))⟩⟩))
      · simp; lia
      · exact hys.append (.cons ⟨_, rfl⟩ .nil)
    · have hst : signStep cols (lenOf l) held p c = ⟨p.front, p.last ++ [c], p.seen + 1⟩ := by
        unfold signStep; rw [if_neg (by lia)]
      rw [hst] at hK
      simp only [Bool.false_eq_true, if_false]
      refine wpAny_execs_nil (wpAny_execs_nil (hK ys t1 t3 _ hys (Z.weak ⟨rfl, rfl, rfl, rfl, trivial⟩)))
  · have hst : signStep cols (lenOf l) held p c = ⟨p.front, p.last ++ [c], p.seen + 1⟩ := by
      unfold signStep; rw [if_neg (by lia)]
    rw [hst] at hK
    simp only [Bool.false_eq_true, if_false]
    refine wpAny_execs_nil (wpAny_execs_nil (hK ys t1 t3 _ hys (Z.weak ⟨rfl, rfl, rfl, rfl, trivial⟩)))
end
end Mine
end

section
open PySem PySem.W PyProof.Rows
namespace Mine

theorem signStep_seen (cols : List Nat) (N : Nat) (held : List Nat) (p : PS) (c : Nat) : (signStep cols N held p c).seen = p.seen + 1 := by
  unfold signStep; split <;> rfl
theorem signs_bound (cols : List Nat) (N : Nat) (held : List Nat) : ∀ (sg : List Nat) (p : PS), held.length ≤ p.last.length →
    (sg.foldl (signStep cols N held) p).seen = p.seen + sg.length ∧ (sg.foldl (signStep cols N held) p).front.length ≤ p.front.length + sg.length ∧ (sg.foldl (signStep cols N held) p).last.length ≤ p.last.length + sg.length
  | [], p, _ => by simp
  | c :: sg, p, h => by
    simp only [List.foldl_cons, List.length_cons]
    by_cases q : leaves cols (p.seen + 1) = 0 ∧ p.seen + 1 < N
    · have e : signStep cols N held p c = ⟨p.front ++ [p.last ++ [c] ++ shut held], held, p.seen + 1⟩ := by unfold signStep; rw [if_pos q]
      rw [e]
      obtain ⟨h1, h2, h3⟩ := signs_bound cols N held sg ⟨p.front ++ [p.last ++ [c] ++ shut held], held, p.seen + 1⟩ (Nat.le_refl _)
      simp only [List.length_append, List.length_cons, List.length_nil] at h1 h2 h3 ⊢
      lia
    · have e : signStep cols N held p c = ⟨p.front, p.last ++ [c], p.seen + 1⟩ := by unfold signStep; rw [if_neg q]
      rw [e]
      obtain ⟨h1, h2, h3⟩ := signs_bound cols N held sg ⟨p.front, p.last ++ [c], p.seen + 1⟩ (by simp; lia)
      simp only [List.length_append, List.length_cons, List.length_nil] at h1 h2 h3 ⊢
      lia
theorem strs_bound (cols : List Nat) (N : Nat) : ∀ (l : List Stretch) (p : PS),
    (l.foldl (strStep cols N) p).seen = p.seen + lenOf l ∧ (l.foldl (strStep cols N) p).front.length ≤ p.front.length + lenOf l ∧ (l.foldl (strStep cols N) p).last.length ≤ p.last.length + wt l
  | [], p => by simp [lenOf, wt]
  | (m, sg) :: l, p => by
    simp only [List.foldl_cons, lenOf, wt]
    obtain ⟨h1, h2, h3⟩ := signs_bound cols N (heldOf m) sg ⟨p.front, p.last ++ heldOf m, p.seen⟩ (by simp)
    obtain ⟨k1, k2, k3⟩ := strs_bound cols N l (strStep cols N p (m, sg))
    have e1 : (strStep cols N p (m, sg)).seen = (sg.foldl (signStep cols N (heldOf m)) ⟨p.front, p.last ++ heldOf m, p.seen⟩).seen := rfl
    have e2 : (strStep cols N p (m, sg)).front = (sg.foldl (signStep cols N (heldOf m)) ⟨p.front, p.last ++ heldOf m, p.seen⟩).front := rfl
    have e3 : (strStep cols N p (m, sg)).last = (sg.foldl (signStep cols N (heldOf m)) ⟨p.front, p.last ++ heldOf m, p.seen⟩).last ++ shut (heldOf m) := rfl
    rw [e1] at k1
    rw [e2] at k2
    rw [e3, List.length_append] at k3
    have s1 := heldOf_len m
    have s2 := shut_len (heldOf m)
    simp only [List.length_append] at h1 h2 h3
    lia

inductive SgJ (g : View) (L PD : Addr) (nv : Value) (cols : List Nat) (m : Nat) (held : List Nat) (sg : List Nat) (p₀ : PS) (t2 : Tok) (la ca : Addr) (its : List (Addr × Thing)) (k : Nat) : View → List (Str × Value) → List (Addr × Thing) → Prop
  | mk (ys' : List Value) (t1 t3 : Tok) (h : All2 (fun v x => ∃ t, v = .str (S x) t) ys' ((sg.take k).foldl (signStep cols m held) p₀).front) :
      SgJ g L PD nv cols m held sg p₀ t2 la ca its k g (pv0 ((sg.take k).foldl (signStep cols m held) p₀).seen t1 held t2 la ca) (pcTl L PD nv ys' ((sg.take k).foldl (signStep cols m held) p₀).last t3 its [])

section
variable {prog : Program} {w : World} {A : Around} {F : Fx} {g : View} {s : Shared}

theorem pc_stretch {D : Ad} {doc pm cd ct : Value} {an : Option Addr} {f : Addr} {PD la ca it1 : Addr} {nv : Value} {p : PS} {mk sg : List Nat} {ta tb t1 t3 : Tok} {l : List Stretch} {cols : List Nat} {ys : List Value} {th1 : Thing} {cits : List Value}
    (hh : A.handled = none) (hroom : A.depth < recursionLimit) (TT : ∀ {g ms s'}, St F g ms s' → Txt D s'.heap) (X : StrchsAt g (.ref la) l) (hca : LstAt g (.ref ca) cits) (hcits : All2 (fun v (c : Nat) => ∃ t, v = .int (c : Int) t) cits cols) (hpos : ∀ c ∈ cols, 0 < c)
    (hw : wt l ≤ 2 ^ 18) (hmk : mk.length + sg.length + p.last.length + 3 ≤ 2 ^ 18) (hasc : ∀ c ∈ sg, c < 128) (hys : All2 (fun v x => ∃ t, v = .str (S x) t) ys p.front) (hyl : p.front.length + sg.length ≤ 2 ^ 18)
    (Z : St F g (pcMs F.n PD nv [("signs", .str (S sg) tb), ("mark", .str (S mk) ta), ("seen", .int (p.seen : Int) t1), ("stretches", .ref la), ("columns", .ref ca)] ys p.last t3 [(it1, th1)] []) s) {Q : Flow → Shared → Prop}
    (hK : ∀ ys' t1 t3 s', All2 (fun v x => ∃ t, v = .str (S x) t) ys' (strStep cols (lenOf l) p (mk, sg)).front →
      St F g (pcMs F.n PD nv [("seen", .int ((strStep cols (lenOf l) p (mk, sg)).seen : Int) t1), ("stretches", .ref la), ("columns", .ref ca)] ys' (strStep cols (lenOf l) p (mk, sg)).last t3 [(it1, th1)] []) s' → Q .next s') :
    wpAny (model prog w) A (execs (forBody pcFor) (envPc doc pm cd ct an F.n f)) Q (fun _ _ => False) s := by
  have s1 := heldOf_len mk
  refine r_seqA (fun K => ∀ t2 s', St F g (pcMs F.n PD nv (("signs", .str (S sg) tb) :: pv0 p.seen t1 (heldOf mk) t2 la ca) ys p.last t3 [(it1, th1)] []) s' → K s') (fun K kc => ?_) ?_
  · refine wpAny_Assign_Name (wpAny_IfExp (wpAny_isTrue_Compare1 (r_ld Z rfl (r_str Z fun t s₁ Z => eq_str (wpAny_truthy_bool ?_)))))
    rw [S_empty, S_beq]
    refine split_bool (fun q => ?_) fun q => ?_
    · have hm : mk = [] := by simpa using q
      refine r_str Z fun t8 s₈ Z => r_store Z fun s₉ Z => ⟨rfl, kc t8 _ ?_⟩
      have e : heldOf mk = [] := by simp [heldOf, hm]
      rw [e]; exact Z.weak ⟨rfl, rfl, rfl, rfl, rfl, trivial⟩
    · have hm : mk ≠ [] := by simpa using q
      refine wpAny_BinOp (r_str Z fun t8 s₈ Z => r_ld Z rfl (add_str (fun t9 tk => r_store (Z.toks tk) fun s₉ Z => ⟨rfl, kc t9 _ ?_⟩) ?_))
      · have e : heldOf mk = [0] ++ mk := by simp [heldOf, hm]
        rw [e]
        rw [S_0, S_append] at Z
        exact Z.weak ⟨rfl, rfl, rfl, rfl, rfl, trivial⟩
      · rw [S_0, S_len, S_len, sizeLine_eq]
        simp; lia
  intro t2 s₁ Z
  refine r_seqA (fun K => ∀ t3 s', St F g (pcMs F.n PD nv (("signs", .str (S sg) tb) :: pv0 p.seen t1 (heldOf mk) t2 la ca) ys (p.last ++ heldOf mk) t3 [(it1, th1)] []) s' → K s') (fun K kc => ?_) ?_
  · refine r_augLast (i := 2) (j := 4) Z rfl rfl fun s₀ Z => r_ld Z rfl ⟨heldOf mk, t2, rfl, Z, by lia, fun t' s₂ Z => ⟨rfl, kc t' _ Z⟩⟩
  intro t3 s₂ Z
  generalize hp0 : (⟨p.front, p.last ++ heldOf mk, p.seen⟩ : PS) = p₀ at *
  have bd := fun k => signs_bound cols (lenOf l) (heldOf mk) (sg.take k) p₀ (by rw [← hp0]; simp)
  have hb1 : p₀.last.length ≤ p.last.length + mk.length + 1 := by rw [← hp0]; simp; lia
  have hb2 : p₀.front = p.front := by rw [← hp0]
  have hstr : strStep cols (lenOf l) p (mk, sg) = ⟨(sg.foldl (signStep cols (lenOf l) (heldOf mk)) p₀).front, (sg.foldl (signStep cols (lenOf l) (heldOf mk)) p₀).last ++ shut (heldOf mk), (sg.foldl (signStep cols (lenOf l) (heldOf mk)) p₀).seen⟩ := by
    rw [← hp0]; rfl
  refine r_seqA (fun K => ∀ ys' t1 t3 s', All2 (fun v x => ∃ t, v = .str (S x) t) ys' (sg.foldl (signStep cols (lenOf l) (heldOf mk)) p₀).front →
    St F g (pcMs F.n PD nv (pv0 (sg.foldl (signStep cols (lenOf l) (heldOf mk)) p₀).seen t1 (heldOf mk) t2 la ca) ys' (sg.foldl (signStep cols (lenOf l) (heldOf mk)) p₀).last t3 [(it1, th1)] []) s' → K s') (fun K kc => ?_) ?_
  · refine r_for1 (F := F) (n := sg.length) (th := strTh (S sg) tb) (P := fun i v => ∃ t c, sg[i]? = some c ∧ v = .str (S [c]) t) (side := fun _ => True)
      (SgJ g F.n PD nv cols (lenOf l) (heldOf mk) sg p₀ t2 la ca [(it1, th1)]) (Nat.le_refl _) ?_ ?_ ?_ ?_
    · refine r_ld Z rfl (iter_str Z hasc fun it s' Z => ⟨it, rfl, itk_str hh, g, _, _, ⟨ys, t1, t3, ?_⟩, ?_⟩)
      · rw [List.take_zero, List.foldl_nil, hb2]; exact hys
      · rw [List.take_zero, List.foldl_nil, ← hp0]; exact Z.weak ⟨rfl, rfl, rfl, rfl, trivial⟩
    · intros; trivial
    · rintro it k x g' vs ms s' hk ⟨ts, c, hc, rfl⟩ ⟨ys', t1, t3, hys'⟩ Z
      refine r_assign Z fun s₅ Z => ?_
      have b := bd k
      have hl := hys'.length
      simp only [List.length_take] at b
      have htk : sg.take (k + 1) = sg.take k ++ [c] := by rw [List.take_add_one, hc]; rfl
      refine pc_sign (D := D) (p := (sg.take k).foldl (signStep cols (lenOf l) (heldOf mk)) p₀) (c := c) hh hroom TT X hca hcits hpos (by lia) (by lia) hys' (by rw [hb2] at b; lia) (Z.weak ⟨rfl, rfl, rfl, rfl, rfl, trivial⟩) fun ys'' t1' t3' s₆ h1 Z => ?_
      have e : (sg.take (k + 1)).foldl (signStep cols (lenOf l) (heldOf mk)) p₀ = signStep cols (lenOf l) (heldOf mk) ((sg.take k).foldl (signStep cols (lenOf l) (heldOf mk)) p₀) c := by
        rw [htk, List.foldl_append]; rfl
      refine ⟨_, _, _, ⟨ys'', t1', t3', ?_⟩, ?_⟩
      · rw [e]; exact h1
      · rw [e]; exact Z
    · rintro g' vs ms s' ⟨ys', t1, t3, hys'⟩ Z
      rw [List.take_length] at hys' Z
      exact ⟨rfl, kc ys' t1 t3 _ hys' (Z.weak ⟨rfl, rfl, rfl, rfl, trivial⟩)⟩
  intro ys' t1 t3 s₃ hys' Z
  have b := bd sg.length
  rw [List.take_length] at b
  rw [hstr] at hK
  refine r_seqA (fun K => ∀ t3 s', St F g (pcMs F.n PD nv [("seen", .int ((sg.foldl (signStep cols (lenOf l) (heldOf mk)) p₀).seen : Int) t1), ("stretches", .ref la), ("columns", .ref ca)] ys' ((sg.foldl (signStep cols (lenOf l) (heldOf mk)) p₀).last ++ shut (heldOf mk)) t3 [(it1, th1)] []) s' → K s') (fun K kc => ?_) ?_
  · refine r_augLast (i := 2) (j := 4) Z rfl rfl fun s₀ Z => wpAny_IfExp (wpAny_isTrue_Compare1 (r_ld Z rfl (r_str Z fun t7 s₇ Z => eq_str (wpAny_truthy_bool ?_))))
    rw [S_empty, S_beq]
    refine split_bool (fun q => ?_) fun q => ?_
    · have hm : heldOf mk = [] := by simpa using q
      refine r_str Z fun t8 s₈ Z => ⟨[], t8, rfl, Z, ?_, fun t' s₂ Z => ⟨rfl, kc t' _ ?_⟩⟩
      · simp only [List.length_nil]; lia
      · have e : shut (heldOf mk) = [] := by simp [shut, hm]
        rw [e]; exact Z.weak ⟨rfl, rfl, rfl, trivial⟩
    · have hm : heldOf mk ≠ [] := by simpa using q
      refine r_str Z fun t8 s₈ Z => ⟨[1], t8, by rw [S_1], Z, ?_, fun t' s₂ Z => ⟨rfl, kc t' _ ?_⟩⟩
      · simp only [List.length_cons, List.length_nil]; lia
      · have e : shut (heldOf mk) = [1] := by simp [shut, hm]
        rw [e]; exact Z.weak ⟨rfl, rfl, rfl, trivial⟩
  intro t3 s₄ Z
  exact wpAny_execs_nil (hK ys' t1 t3 _ hys' Z)
end
end Mine
end

section
open PySem PySem.W PyProof.Rows
namespace Mine

def RetList (s : Shared) (g : View) (R : Result → Shared → Prop) (spec : View → List Value → Prop) : Prop :=
  ∀ s' g' D its, s'.os = s.os → s'.gens = s.gens → s.heap.objs.size ≤ s'.heap.objs.size → Le s.heap.get? s'.heap.get? → Up s.heap.objs.size g g' → Le g' s'.heap.get? → s.heap.objs.size ≤ D → g' D = none →
    Own s'.heap D (.list its) → spec g' its → R (.ok (.ret (.ref D))) s'

inductive PcJ (g : View) (L PD : Addr) (nv : Value) (cols : List Nat) (m : Nat) (l : List Stretch) (la ca : Addr) (k : Nat) : View → List (Str × Value) → List (Addr × Thing) → Prop
  | mk (ys : List Value) (t1 t3 : Tok) (h : All2 (fun v x => ∃ t, v = .str (S x) t) ys ((l.take k).foldl (strStep cols m) ⟨[], [], 0⟩).front) :
      PcJ g L PD nv cols m l la ca k g [("seen", .int (((l.take k).foldl (strStep cols m) ⟨[], [], 0⟩).seen : Int) t1), ("stretches", .ref la), ("columns", .ref ca)] (pcTl L PD nv ys ((l.take k).foldl (strStep cols m) ⟨[], [], 0⟩).last t3 [] [])

section
variable {prog : Program} {w : World} {A : Around} {E : Value → Shared → Prop} {env : Env} {F : Fx} {g : View} {ms : List (Addr × Thing)} {s : Shared}

theorem r_len_list {l : Addr} {its : List Value} {Q : Value → Shared → Prop} (Z : St F g ms s) (hl : s.heap.IsList l its.toArray) (hb : its.length ≤ 2 ^ 20) (h : ∀ t s', St F g ms s' → Q (.int its.length t) s') :
    wpAny (model prog w) A (call (.builtin "len") [.ref l]) Q E s := by
  refine PyProof.Rows.len_list hl (by simp; lia) ?_
  have := h (s.toks + 1) _ (Z.toks (s.toks + 1 + 1))
  simpa using this

theorem pieces_spec {D : Ad} {R : Result → Shared → Prop} {nv sv cv : Value} {n : Num} {l : List Stretch} {cols : List Nat} (T : Txt D s.heap) (hroom : A.depth + 1 < recursionLimit) (hh : A.handled = none) (hg : Le g s.heap.get?)
    (Xn : NumV n nv) (hn : n.short) (X : StrchsAt g sv l) (Xc : ColsAt g cv cols) (hpos : ∀ c ∈ cols, 0 < c) (hw : wt l ≤ 2 ^ 17) (hasc : ∀ x ∈ l, ∀ c ∈ x.2, c < 128)
    (h : RetList s g R fun g' its => All2 (PieceAt g') its (lawPieces n l cols)) :
    codeAny (model prog w) A (.call (.ref D.pieces) ⟨[nv, sv, cv], []⟩) R s := by
  refine r_callC (g := g) (binds := [("number", nv), ("stretches", sv), ("columns", cv)]) [("columns", cv), ("stretches", sv)] T.fPieces T.lim (by lia) hg (fun doc pm cd ct an => rfl)
    (List.forall_mem_cons.mpr ⟨rfl, List.forall_mem_cons.mpr ⟨rfl, fun _ h => nomatch h⟩⟩)
    (fun k => List.forall_mem_cons.mpr ⟨.inr ⟨rfl, rfl⟩, List.forall_mem_cons.mpr ⟨.inl rfl, List.forall_mem_cons.mpr ⟨.inl rfl, fun _ h => nomatch h⟩⟩⟩)
    (fun k => by show (["pieces", "number"] : List Str).Nodup; decide +kernel) (fun F doc pm cd ct an A' s₁ f1 f2 f3 f4 a1 a2 a3 Z => ?_)
  replace hh : A'.handled = none := a1.trans hh
  have hroom' : A'.depth < recursionLimit := by lia
  have TT : ∀ {g ms s'}, St F g ms s' → Txt D s'.heap := fun Z => T.mono (f2 ▸ Z.kp)
  obtain ⟨its, ⟨la, nn, rfl, hla⟩, hits⟩ := X
  obtain ⟨cits, ⟨ca, nc, rfl, hca⟩, hcits⟩ := Xc
  have Xs : StrchsAt g (.ref la) l := ⟨its, ⟨la, nn, rfl, hla⟩, hits⟩
  change St F g [(F.n, .vars [("columns", .ref ca), ("stretches", .ref la)]), (F.n + 1 + 1, .cell none), (F.n + 1, .cell (some nv))] s₁ at Z
  refine wpAny_execs_cons (wpAny_If (isTrue_not (isTrue_plain (r_ldc (i := 2) Z rfl (r_truthyNum Z Xn hn fun s₂ Z => ?_)))))
  cases htr : n.tr with
  | false =>
    simp only [Bool.not_false, if_true]
    refine wpAny_execs_cons (wpAny_Return_some (r_list1 (r_tuple2 (r_ldc (i := 2) Z rfl (r_f1 (TT Z).nText (r_ld Z rfl ⟨(TT Z).fText, ?_⟩))))))
    refine text_spec (TT Z) hroom' hh (Xs.mono Z.dat) (by have := text_wt l; lia) fun s₃ t3 o1 o2 o3 o4 => ?_
    replace Z := Z.ext o1 o2 o3 o4
    refine r_newTuple Z (by simp) fun v g' s₄ U X4 Z => r_newList Z (by simp) fun D' s₅ hD Z => ?_
    refine h s₅ g' D' [v] (Z.os.trans f3) (Z.gens.trans f4) (f1 ▸ Z.sz) (f2 ▸ Z.kp) (f1 ▸ U) Z.dat (f1 ▸ hD) (Z.now (D', .list [v]) (by simp)).2.1 (Z.own 3 rfl) ?_
    have e : lawPieces n l cols = [(n, textOf l)] := by simp [lawPieces, htr]
    rw [e]
    exact .cons ⟨nv, t3, Xn, X4⟩ .nil
  | true =>
    simp only [Bool.not_true, Bool.false_eq_true, if_false]
    refine wpAny_execs_nil ?_
    have e : lawPieces n l cols = numbered n (psOf cols l).all := by simp [lawPieces, htr]
    rw [e] at h
    refine r_seqA (fun K => ∀ PD t s', St F g (pcMs F.n PD nv [("columns", .ref ca), ("stretches", .ref la)] [] [] t [] []) s' → F.n ≤ PD → K s') (fun K kc => ?_) ?_
    · refine wpAny_Assign_Name (r_list1 (r_str Z fun t s₃ Z => r_newList Z (by simp) fun PD s₄ hD Z => r_stc (i := 1) Z rfl fun s₅ Z => ⟨rfl, kc PD t _ ?_ hD⟩))
      rw [S_empty] at Z
      exact Z
    intro PD t3 s₃ Z hPD
    refine r_seqA (fun K => ∀ t s', St F g (pcMs F.n PD nv [("seen", .int ((0 : Nat) : Int) t), ("stretches", .ref la), ("columns", .ref ca)] [] [] t3 [] []) s' → K s') (fun K kc => ?_) ?_
    · refine wpAny_Assign_Name (r_int Z fun t s₄ Z => r_store Z fun s₅ Z => ⟨rfl, kc t _ (Z.weak ⟨rfl, rfl, rfl, trivial⟩)⟩)
    intro t1 s₄ Z
    have bds := fun i => strs_bound cols (lenOf l) (l.take i) ⟨[], [], 0⟩
    refine r_seqA (fun K => ∀ ys t1 t3 s', All2 (fun v x => ∃ t, v = .str (S x) t) ys (psOf cols l).front → St F g (pcMs F.n PD nv [("seen", .int ((psOf cols l).seen : Int) t1), ("stretches", .ref la), ("columns", .ref ca)] ys (psOf cols l).last t3 [] []) s' → K s') (fun K kc => ?_) ?_
    · refine r_for1 (F := F) (n := its.length) (th := fun i => .iter la i) (P := fun i x => its[i]? = some x) (side := fun h => h.IsList la its.toArray)
        (PcJ g F.n PD nv cols (lenOf l) l la ca) (Nat.le_refl _) ?_ ?_ ?_ ?_
      · refine r_ld Z rfl (iter_list Z ⟨_, Z.dat _ _ hla, rfl, nn, rfl⟩ fun it s' Z => ⟨it, rfl, itk_list hh, g, _, _, ⟨[], t1, t3, .nil⟩, Z⟩)
      · rintro i g' vs ms s' ⟨_, _, _, _⟩ hd _ _
        exact ⟨_, hd _ _ hla, rfl, nn, rfl⟩
      · rintro it i x g' vs ms s' hi hx ⟨ys, t1, t3, hys⟩ Z
        obtain ⟨⟨mk, sg⟩, hm, ta, tb, X⟩ := hits.get hx
        refine r_untup Z (Nat.le_refl _) hh (X.mono Z.dat) rfl rfl fun s₅ Z _ => ?_
        refine wpAny_assignInOrder_more (r_assign Z fun s₆ Z => ?_)
        refine wpAny_assignInOrder_more (r_assign Z fun s₇ Z => wpAny_assignInOrder_none ?_)
        have b := bds i
        have htk : l.take (i + 1) = l.take i ++ [(mk, sg)] := by rw [List.take_add_one, hm]; rfl
        have hwt : wt (l.take (i + 1)) ≤ wt l := by
          have := wt_append (l.take (i + 1)) (l.drop (i + 1)); rw [List.take_append_drop] at this; lia
        rw [htk, wt_append] at hwt
        have hlw := lenOf_wt (l.take i)
        simp only [wt, List.length_nil, Nat.zero_add] at hwt b
        refine pc_stretch (D := D) (p := (l.take i).foldl (strStep cols (lenOf l)) ⟨[], [], 0⟩) (mk := mk) (sg := sg) (cols := cols) hh hroom' TT Xs ⟨ca, nc, rfl, hca⟩ hcits hpos (by lia) (by lia)
          (hasc _ (mem_of_idx hm)) hys (by lia) (Z.weak ⟨rfl, rfl, rfl, rfl, rfl, trivial⟩) fun ys' t1' t3' s₈ hys' Z => ?_
        have e : (l.take (i + 1)).foldl (strStep cols (lenOf l)) ⟨[], [], 0⟩ = strStep cols (lenOf l) ((l.take i).foldl (strStep cols (lenOf l)) ⟨[], [], 0⟩) (mk, sg) := by
          rw [htk, List.foldl_append]; rfl
        refine ⟨_, _, _, ⟨ys', t1', t3', ?_⟩, ?_⟩
        · rw [e]; exact hys'
        · rw [e]; exact Z
      · rintro g' vs ms s' ⟨ys, t1, t3, hys⟩ Z
        rw [hits.length, List.take_length] at hys Z
        exact ⟨rfl, kc ys t1 t3 _ hys Z⟩
    intro ys t1 t3 s₅ hys Z
    have b := strs_bound cols (lenOf l) l ⟨[], [], 0⟩
    have hlw := lenOf_wt l
    have hfl : (psOf cols l).front.length ≤ lenOf l := by have := b.2.1; simp only [List.length_nil, Nat.zero_add] at this; exact this
    have hyl := hys.length
    have hall : All2 (fun v x => ∃ t, v = .str (S x) t) (ys ++ [.str (S (psOf cols l).last) t3]) (psOf cols l).all := hys.append (.cons ⟨t3, rfl⟩ .nil)
    have hlen := hall.length
    refine wpAny_execs_cons (wpAny_Return_some ?_)
    refine r_listcomp (F := F) (n := (psOf cols l).all.length) (j := 4) (th := rangeTh (psOf cols l).all.length) (P := fun i x => ∃ t, x = .int (i : Int) t) (side := fun _ => True)
      (cl := [("pieces", F.n + 1 + 1), ("number", F.n + 1)]) (fun i g' ys' => All2 (PieceAt g') ys' ((numbered n (psOf cols l).all).take i)) (by simp [PS.all]; lia) rfl (by decide +kernel) (by decide +kernel) ?_
    refine r_range (F := F) (TT Z).nRange (r_b1 (TT Z).nLen (r_ldc (i := 1) Z rfl (r_len_list Z (own_isList (Z.own 3 rfl)) (by simp; lia) fun t s₆ Z => ⟨(psOf cols l).all.length, t, g, _, by rw [hlen], by simp [PS.all]; lia, Z, fun it s₇ Z => ?_⟩)))
    refine ⟨it, rfl, itk_range hh, g, _, Z, rfl, fun _ _ _ _ => trivial, by simpa using All2.nil, ?_, ?_⟩
    · rintro C D' i x g' ys' vs s' hC hD hi ⟨ti, rfl⟩ hI hl' U Z
      refine r_assign (env := compEnvC _ _ C _) Z fun s₈ Z => ?_
      obtain ⟨px, hpx⟩ : ∃ px, (psOf cols l).all[i]? = some px := ⟨_, List.getElem?_eq_getElem hi⟩
      obtain ⟨pv, hpv, tp, rfl⟩ := hall.get' hpx
      have hnum := numbered_get n _ i px hpx
      have hz : ((i : Int) == 0) = decide (i = 0) := by rw [Bool.eq_iff_iff]; simp
      have hb : i ≤ 2 ^ 20 := by have : (psOf cols l).all.length = (psOf cols l).front.length + 1 := by simp [PS.all]
                                 lia
      have e1 : (numbered n (psOf cols l).all).take (i + 1) = (numbered n (psOf cols l).all).take i ++ [(if i = 0 then n else .str [62], px)] := by
        rw [List.take_add_one, hnum]; rfl
      refine r_tuple2 (wpAny_IfExp (wpAny_isTrue_Compare1 (r_ld (env := compEnvC _ _ C _) Z rfl (r_int Z fun t9 s₉ Z => PyProof.Rows.eq_int (wpAny_truthy_bool ?_)))))
      rw [hz]
      refine split_dec (fun q => ?_) fun q => ?_
      · refine r_ldc (env := compEnvC _ _ C _) (i := 4) Z rfl (Subscript_ (r_ldc (env := compEnvC _ _ C _) (i := 3) Z rfl (r_ld (env := compEnvC _ _ C _) Z rfl (r_item (own_isList (Z.own 5 rfl)) hb hpv ?_))))
        refine r_newTuple Z (by simp) fun v g'' s₁₀ U' X Z => ⟨g'', _, U', ?_, Z⟩
        rw [e1, if_pos q]
        exact (hI.imp fun _ _ z => z.mono U'.1).append (.cons ⟨nv, tp, Xn, X⟩ .nil)
      · refine r_str Z fun t10 s₁₀ Z => Subscript_ (r_ldc (env := compEnvC _ _ C _) (i := 3) Z rfl (r_ld (env := compEnvC _ _ C _) Z rfl (r_item (own_isList (Z.own 5 rfl)) hb hpv ?_)))
        refine r_newTuple Z (by simp) fun v g'' s₁₀ U' X Z => ⟨g'', _, U', ?_, Z⟩
        rw [e1, if_neg q]
        rw [S_gt] at X
        exact (hI.imp fun _ _ z => z.mono U'.1).append (.cons ⟨_, tp, ⟨t10, rfl⟩, X⟩ .nil)
    · rintro D' g' ys' s' hD U hI hl' Z
      rw [List.take_of_length_le (by rw [numbered_length]; exact Nat.le_refl _)] at hI
      exact h s' g' D' ys' (Z.os.trans f3) (Z.gens.trans f4) (f1 ▸ Z.sz) (f2 ▸ Z.kp) (f1 ▸ U) Z.dat (f1 ▸ hD) (Z.now (D', .list ys') (by simp)).2.1 (Z.own 4 rfl) hI
end
end Mine
end

section
open PySem PySem.W PyProof.Rows
namespace Mine

theorem fmod_lt (x : Int) (m : Nat) (hm : 0 < m) : ∃ N : Nat, x.fmod (m : Int) = (N : Int) ∧ N < m := by
  rw [Int.fmod_eq_emod_of_nonneg _ (by lia)]
  have h1 := Int.emod_nonneg x (b := (m : Int)) (by lia)
  have h2 := Int.emod_lt_of_pos x (b := (m : Int)) (by lia)
  exact ⟨(x % (m : Int)).toNat, by lia, by lia⟩

theorem intsAre_of : ∀ {its : List Value} {ns : List Int}, All2 (fun v n => ∃ t, v = .int n t) its ns → IntsAre its ns
  | _, _, .nil => .nil
  | _, _, .cons ⟨t, e⟩ r => e ▸ .cons _ t (intsAre_of r)
theorem strs_of : ∀ {its : List Value} {cs : List Nat}, All2 (fun v c => ∃ t, v = .str (S [c]) t) its cs → ∃ l : List (Str × Tok), its = strValues l ∧ l.map (·.1) = cs.map fun c => S [c]
  | _, _, .nil => ⟨[], rfl, rfl⟩
  | _, _, .cons ⟨t, e⟩ r => by
    obtain ⟨l, h1, h2⟩ := strs_of r
    exact ⟨(_, t) :: l, by rw [e, h1]; rfl, by rw [List.map_cons, h2]; rfl⟩
theorem fold_ones (cs : List Nat) : ∀ a : Nat, (cs.map fun c => S [c]).foldl (fun n x => n + x.length + (S []).length) a = a + cs.length := by
  induction cs with
  | nil => simp
  | cons c r ih => intro a; rw [List.map_cons, List.foldl_cons, ih, S_len, S_len]; simp; lia

section
variable {prog : Program} {w : World} {A : Around} {E : Value → Shared → Prop} {env : Env} {F : Fx} {g : View} {ms : List (Addr × Thing)} {s : Shared} {vs : List (Str × Value)}

theorem r_assignc {x : Str} {pos : Pos} {v : Value} {v₀ : Option Value} {i : Nat} {c : Addr} {Q : Unit → Shared → Prop} (Z : St F g ms s) (hi : ms[i]? = some (c, .cell v₀)) (h : ∀ s', St F g (ms.set i (c, .cell (some v))) s' → Q () s')
    (hk : env.scope.kind = .function := by rfl) (hl : env.kindOf x = some .cell := by rfl) (hc : env.cells.lookup x = some c := by rfl) :
    wpAny (model prog w) A (assign (.Name x pos) env v) Q E s := wpAny_assign_Name (r_stc Z hi h hk hl hc)

theorem r_list0 {pos : Pos} {Q : Value → Shared → Prop} (h : wpAny (model prog w) A (newList []) Q E s) : wpAny (model prog w) A (eval (.List [] pos) env) Q E s :=
  List_ (Calls.spliced_nil h)
theorem r_list2 {e₁ e₂ : Expr} {pos : Pos} {Q : Value → Shared → Prop}
    (h : wpAny (model prog w) A (eval e₁ env) (fun a s₁ => wpAny (model prog w) A (eval e₂ env) (fun b s₂ => wpAny (model prog w) A (newList [a, b]) Q E s₂) E s₁) E s)
    (htrees : backTo pos (starEach [e₁, e₂] env) = [(false, eval e₁ env), (false, eval e₂ env)] := by rfl) :
    wpAny (model prog w) A (eval (.List [e₁, e₂] pos) env) Q E s := by
  refine List_ ?_
  rw [htrees]
  exact Calls.spliced_cons (wpAny_mono h (fun v s₁ h₁ => Calls.spliced_cons (wpAny_mono h₁ (fun u s₂ h₂ => Calls.spliced_nil h₂) fun _ _ e => e)) fun _ _ e => e)
theorem r_list3 {e₁ e₂ e₃ : Expr} {pos : Pos} {Q : Value → Shared → Prop}
    (h : wpAny (model prog w) A (eval e₁ env) (fun a s₁ => wpAny (model prog w) A (eval e₂ env) (fun b s₂ => wpAny (model prog w) A (eval e₃ env) (fun c s₃ => wpAny (model prog w) A (newList [a, b, c]) Q E s₃) E s₂) E s₁) E s)
    (htrees : backTo pos (starEach [e₁, e₂, e₃] env) = [(false, eval e₁ env), (false, eval e₂ env), (false, eval e₃ env)] := by rfl) :
    wpAny (model prog w) A (eval (.List [e₁, e₂, e₃] pos) env) Q E s := by
  refine List_ ?_
  rw [htrees]
  exact Calls.spliced_cons (wpAny_mono h (fun v s₁ h₁ => Calls.spliced_cons (wpAny_mono h₁ (fun u s₂ h₂ => Calls.spliced_cons (wpAny_mono h₂ (fun u s₃ h₃ => Calls.spliced_nil h₃) fun _ _ e => e)) fun _ _ e => e)) fun _ _ e => e)
theorem r_list4 {e₁ e₂ e₃ e₄ : Expr} {pos : Pos} {Q : Value → Shared → Prop}
    (h : wpAny (model prog w) A (eval e₁ env) (fun a s₁ => wpAny (model prog w) A (eval e₂ env) (fun b s₂ => wpAny (model prog w) A (eval e₃ env) (fun c s₃ => wpAny (model prog w) A (eval e₄ env) (fun d s₄ => wpAny (model prog w) A (newList [a, b, c, d]) Q E s₄) E s₃) E s₂) E s₁) E s)
    (htrees : backTo pos (starEach [e₁, e₂, e₃, e₄] env) = [(false, eval e₁ env), (false, eval e₂ env), (false, eval e₃ env), (false, eval e₄ env)] := by rfl) :
    wpAny (model prog w) A (eval (.List [e₁, e₂, e₃, e₄] pos) env) Q E s := by
  refine List_ ?_
  rw [htrees]
  exact Calls.spliced_cons (wpAny_mono h (fun v s₁ h₁ => Calls.spliced_cons (wpAny_mono h₁ (fun u s₂ h₂ => Calls.spliced_cons (wpAny_mono h₂ (fun u s₃ h₃ => Calls.spliced_cons (wpAny_mono h₃ (fun u s₄ h₄ => Calls.spliced_nil h₄) fun _ _ e => e)) fun _ _ e => e)) fun _ _ e => e)) fun _ _ e => e)
theorem r_tuple5 {e₁ e₂ e₃ e₄ e₅ : Expr} {k : Nat} {pos : Pos} {Q : Value → Shared → Prop}
    (h : wpAny (model prog w) A (eval e₁ env) (fun a s₁ => wpAny (model prog w) A (eval e₂ env) (fun b s₂ => wpAny (model prog w) A (eval e₃ env) (fun c s₃ => wpAny (model prog w) A (eval e₄ env) (fun d s₄ => wpAny (model prog w) A (eval e₅ env) (fun f s₅ => wpAny (model prog w) A (newTuple [a, b, c, d, f]) Q E s₅) E s₄) E s₃) E s₂) E s₁) E s)
    (htrees : backTo pos (starEach [e₁, e₂, e₃, e₄, e₅] env) = [(false, eval e₁ env), (false, eval e₂ env), (false, eval e₃ env), (false, eval e₄ env), (false, eval e₅ env)] := by rfl) :
    wpAny (model prog w) A (eval (.Tuple [e₁, e₂, e₃, e₄, e₅] k pos) env) Q E s := by
  refine Tuple_ ?_
  rw [htrees]
  exact Calls.spliced_cons (wpAny_mono h (fun v s₁ h₁ => Calls.spliced_cons (wpAny_mono h₁ (fun u s₂ h₂ => Calls.spliced_cons (wpAny_mono h₂ (fun u s₃ h₃ => Calls.spliced_cons (wpAny_mono h₃ (fun u s₄ h₄ => Calls.spliced_cons (wpAny_mono h₄ (fun u s₅ h₅ => Calls.spliced_nil h₅) fun _ _ e => e)) fun _ _ e => e)) fun _ _ e => e)) fun _ _ e => e)) fun _ _ e => e)

/-- x // a % b, for written a, b: some number below b -/
theorem r_dm {x : Str} {v : Int} {t : Tok} {a b : Nat} {p1 p2 p3 p4 p5 : Pos} {k1 k2 : Nat} {Q : Value → Shared → Prop} (Z : St F g ((env.locals, .vars vs) :: ms) s) (hv : vs.lookup x = some (.int v t)) (ha : 0 < a ∧ a < 1000) (hb : 0 < b ∧ b < 1000)
    (h : ∀ (N : Nat) t s', N < b → St F g ((env.locals, .vars vs) :: ms) s' → Q (.int (N : Int) t) s')
    (hk : env.scope.kind = .function := by rfl) (hl : env.kindOf x = some .local := by rfl) (hd : (x == ("__debug__" : Str)) = false := by decide) :
    wpAny (model prog w) A (eval (.BinOp (.BinOp (.Name x p1) .FloorDiv (.Constant (.int (a : Int)) k1 p2) p3) .Mod (.Constant (.int (b : Int)) k2 p4) p5) env) Q E s := by
  refine wpAny_BinOp (wpAny_BinOp (r_ld Z hv (r_int Z fun t1 s₁ Z => floordiv_int (by lia) ?_ (.inl (PyProof.noPylong_small (by lia)))) hk hl hd))
  refine r_int (Z.toks _) fun t2 s₂ Z => mod_int' (by lia) ?_
  obtain ⟨N, hN, hlt⟩ := fmod_lt (v.fdiv (a : Int)) b hb.1
  rw [hN]
  exact h N _ _ hlt (Z.toks _)

theorem r_stritem {x : List Nat} {k : Nat} {c : Nat} {t u : Tok} {value slice : Expr} {Q : Value → Shared → Prop} (Z : St F g ms s) (hk : k ≤ 2 ^ 20) (hx : x[k]? = some c) (h : ∀ t s', St F g ms s' → Q (.str (S [c]) t) s')
    (hs : subscripted slice false (.str (S x) t) (.int (k : Int) u) = operate [.str (S x) t, .int (k : Int) u] (getItem (.str (S x) t) (.int (k : Int) u)) := by with_unfolding_all rfl) :
    wpAny (model prog w) A (subscriptTail value slice (.str (S x) t) (.int (k : Int) u)) Q E s := by
  refine tail_any (typeIs_str s _ t) slot_str_getitem.lookup (getItem_str (c := c) ?_ ?_ (h _ _ (Z.toks _))) hs
  · have h1 : decide ((k : Int) < -(2 ^ 63 : Int)) = false := decide_eq_false (by lia)
    have h2 : decide ((k : Int) ≥ 2 ^ 63) = false := decide_eq_false (by lia)
    rw [h1, h2]; rfl
  · have hlt : k < x.length := (List.getElem?_eq_some_iff.mp hx).1
    have e : seqIndex? (k : Int) (S x).length = some k := by
      unfold seqIndex?
      have h1 : ¬ ((k : Int) < 0) := by lia
      simp only [h1, if_false]
      rw [S_len, if_pos (by simp; lia)]
      simp
    rw [e]
    simp [S, hx]

theorem r_in {v : Int} {t : Tok} {D : Addr} {its : List Value} {ns : List Int} {Q : Value → Shared → Prop} (hl : s.heap.IsList D its.toArray) (hi : All2 (fun v n => ∃ t, v = .int n t) its ns) (h : ∀ b, Q (.bool b) s) :
    wpAny (model prog w) A (compareOp .In (.int v t) (.ref D)) Q E s := by
  exact in_list_ints hl (ns := ns) (intsAre_of hi) (h _)

theorem join_S (cs : List Nat) : Str.join (S []) (cs.map fun c => S [c]) = S cs := by
  induction cs with
  | nil => rfl
  | cons c r ih =>
    cases r with
    | nil => rfl
    | cons d r =>
      show S [c] ++ S [] ++ Str.join (S []) ((d :: r).map fun c => S [c]) = _
      rw [ih, S_append, S_append]; rfl

inductive JoinP (F : Fx) (Q : Value → Shared → Prop) (v : Value) (s₁ : Shared) : Prop
  | mk (D : Addr) (its : List Value) (cs : List Nat) (g : View) (ms : List (Addr × Thing)) (e : v = .ref D) (Z : St F g ms s₁) (hl : s₁.heap.IsList D its.toArray) (hcs : All2 (fun v c => ∃ t, v = .str (S [c]) t) its cs) (hb : cs.length ≤ 2 ^ 20)
      (k : ∀ t s₂, St F g ms s₂ → Q (.str (S cs) t) s₂) : JoinP F Q v s₁
theorem r_join {x0 : Str} {e : Expr} {k : Nat} {p apos pos : Pos} {Q : Value → Shared → Prop} (Z : St F g ms s) (hx0 : x0 = S [])
    (h : ∀ s₀, St F g ms s₀ → wpAny (model prog w) A (eval e env) (JoinP F Q) E s₀)
    (hbase : attributeBase (.Constant (.str x0) k p) "join" env (eval (.Constant (.str x0) k p) env) = eval (.Constant (.str x0) k p) env := by rfl)
    (hfew : ((backTo pos (starEach [e] env)).all (fun x => !x.1) && (backToKw pos (keywordEach [] env)).all (fun x => x.1.isSome)
      && decide (([e] : List Expr).length + ([] : List Keyword).length + (if ([] : List Keyword).isEmpty then 0 else 1) < 30)) = true := by rfl)
    (hline : (apos.endLine == pos.line) = true := by rfl)
    (htrees : backTo pos (starEach [e] env) = [(false, eval e env)] := by rfl) :
    wpAny (model prog w) A (eval (.Call (.Attribute (.Constant (.str x0) k p) "join" apos) [e] [] pos) env) Q E s := by
  refine wpAny_Call_method hbase hfew hline PySem.F.plainAttrs_str PySem.F.slot_str_join PySem.F.type_str_join (r_str Z fun t s₁ Z => ⟨typeIs_str _ _ _, (fun _ e => nomatch e), ?_⟩)
  rw [htrees]
  refine Calls.callWith_builtin rfl (Calls.evalArgs_plain (Calls.spliced_cons (wpAny_mono (h _ Z) (fun v s₂ h₂ => Calls.spliced_nil ?_) fun _ _ e => e)))
  obtain ⟨D, its, cs, g, ms, rfl, Z, hl, hcs, hb, k⟩ := h₂
  obtain ⟨l, rfl, hm⟩ := strs_of hcs
  subst hx0
  refine PySem.SC.join hl hm ?_ fun t' k' => ?_
  · unfold JoinOk Builtin.Str.tooLong
    have e : ((cs.map fun c => S [c]).toArray.foldl (fun n x => n + x.length + (S []).length) 0) = cs.length := by
      rw [List.foldl_toArray, fold_ones]; lia
    rw [e, sizeLine_eq]
    simp; lia
  · have e : Txt.join (S []) (cs.map fun c => S [c]) = S cs := by
      show Builtin.Str.glued _ _ = _
      rw [StrLaws.glued_eq_join, join_S]
    rw [e]
    exact k _ _ (Z.toks _)
end
end Mine
end

section
open PySem PySem.W PyProof.Rows
namespace Mine

def rwFor : Stmt := (defBody dRows).getD 2 (.Pass default)
def rwInner : Stmt := (forBody rwFor).getD 0 (.Pass default)
abbrev envRw (doc pm cd ct : Value) (an : Option Addr) (L f : Addr) : Env := callEnvC (mkFd "_law_rows" "_law_rows" dRows .none doc pm cd ct an) L f
def rwTl (L RD SD B C : Addr) (hv kv : Option Value) (rits sd xB xC : List Value) (its : List (Addr × Thing)) : List (Addr × Thing) :=
  its ++ [(L + 1 + 1, .cell hv), (L + 1, .cell kv), (RD, .list rits), (SD, .list sd), (B, .list xB), (C, .list xC)]
abbrev rwMs (L RD SD B C : Addr) (hv kv : Option Value) (vs : List (Str × Value)) (rits sd xB xC : List Value) (its : List (Addr × Thing)) : List (Addr × Thing) :=
  (L, .vars vs) :: rwTl L RD SD B C hv kv rits sd xB xC its
abbrev rv0 (x : Int) (tx : Tok) (SD RD : Addr) : List (Str × Value) := [("x", .int x tx), ("sides", .ref SD), ("rows", .ref RD)]

def GoodSt (x : Stretch) : Prop := (x.1 = [] ∨ ∃ c, x.1 = [c] ∧ 2 ≤ c) ∧ x.2.length ≤ 3 ∧ ∀ c ∈ x.2, 2 ≤ c ∧ c < 128
theorem good_wt : ∀ {l : List Stretch}, (∀ x ∈ l, GoodSt x) → wt l ≤ 7 * l.length
  | [], _ => by simp [wt]
  | (m, sg) :: r, h => by
    have ih := good_wt (l := r) fun x hx => h x (.tail _ hx)
    obtain ⟨h1, h2, _⟩ := h (m, sg) (.head _)
    have hm : m.length ≤ 1 := by
      rcases h1 with h1 | ⟨c, h1, _⟩
      · have : m = [] := h1
        rw [this]; simp
      · have : m = [c] := h1
        rw [this]; simp
    have h2' : sg.length ≤ 3 := h2
    simp only [wt, List.length_cons]; lia

def sgn (k : Nat) : List Nat := if k = 0 then [97, 98, 99, 32, 100, 101] else [65, 66, 67, 32, 68, 69]
theorem S_low : Str.ofString "abc de" = S [97, 98, 99, 32, 100, 101] := by decide +kernel
theorem S_up : Str.ofString "ABC DE" = S [65, 66, 67, 32, 68, 69] := by decide +kernel
theorem S_plus : Str.ofString "+" = S [43] := by decide +kernel
theorem S_minus : Str.ofString "-" = S [45] := by decide +kernel
theorem S_hat : Str.ofString "^" = S [94] := by decide +kernel
theorem sgn_get {k M : Nat} (h : M < 6) : ∃ c, (sgn k)[M]? = some c ∧ 2 ≤ c ∧ c < 128 := by
  have : M = 0 ∨ M = 1 ∨ M = 2 ∨ M = 3 ∨ M = 4 ∨ M = 5 := by lia
  unfold sgn
  split <;> rcases this with rfl | rfl | rfl | rfl | rfl | rfl <;> exact ⟨_, rfl, by lia, by lia⟩

inductive SideOk (g : View) (n : Nat) (xs : List Value) : Prop
  | mk (l : List Stretch) (h : All2 (StrchAt g) xs l) (hg : ∀ x ∈ l, GoodSt x) (hl : l.length ≤ n) : SideOk g n xs
theorem SideOk.mono {g g' : View} {n m : Nat} {xs : List Value} (x : SideOk g n xs) (k : Le g g') (hn : n ≤ m) : SideOk g' m xs :=
  let ⟨l, a, b, c⟩ := x; ⟨l, a.imp fun _ _ z => z.mono k, b, Nat.le_trans c hn⟩
theorem SideOk.nil {g : View} {n : Nat} : SideOk g n [] := ⟨[], .nil, (fun _ h => nomatch h), Nat.zero_le _⟩
theorem SideOk.snoc {g g' : View} {n : Nat} {xs : List Value} {l : List Stretch} {v : Value} {m cs : List Nat} {tm tf : Tok} (h : All2 (StrchAt g) xs l) (hg : ∀ x ∈ l, GoodSt x) (hl : l.length ≤ n) (k : Le g g')
    (X : TupAt g' v [.str (S m) tm, .str (S cs) tf]) (hx : GoodSt (m, cs)) : SideOk g' (n + 1) (xs ++ [v]) := by
  refine ⟨l ++ [(m, cs)], (h.imp fun _ _ z => z.mono k).append (.cons ⟨tm, tf, X⟩ .nil), fun y hy => ?_, by rw [List.length_append]; exact Nat.succ_le_succ hl⟩
  rcases List.mem_append.mp hy with h1 | h1
  · exact hg y h1
  · rw [List.mem_singleton.mp h1]; exact hx

section
variable {prog : Program} {w : World} {A : Around} {F : Fx} {g : View} {s : Shared}

theorem rw_turn {D : Ad} {doc pm cd ct : Value} {an : Option Addr} {f RD SD B C it1 it2 : Addr} {hv : Option Value} {x : Int} {tx tk : Tok} {k : Nat} {rits sd xB xC : List Value} {th1 th2 : Thing}
    {m : Nat} {Q : Flow → Shared → Prop} (hh : A.handled = none) (hroom : A.depth < recursionLimit) (TT : ∀ {g ms s'}, St F g ms s' → Txt D s'.heap) (hk : k < 2) (hsd : sd[k]? = some (.ref B)) (hS : SideOk g m xB) (hm : m ≤ 100)
    (Z : St F g (rwMs F.n RD SD B C hv (some (.int (k : Int) tk)) (rv0 x tx SD RD) rits sd xB xC [(it2, th2), (it1, th1)]) s)
    (hK : ∀ g' hv' xB' s', Up F.n g g' → SideOk g' (m + 1) xB' → St F g' (rwMs F.n RD SD B C hv' (some (.int (k : Int) tk)) (rv0 x tx SD RD) rits sd xB' xC [(it2, th2), (it1, th1)]) s' → Q .next s') :
    wpAny (model prog w) A (execs (forBody rwInner) (envRw doc pm cd ct an F.n f)) Q (fun _ _ => False) s := by
  obtain ⟨lB, hB, hgood, hlm⟩ := hS
  have hlen : lB.length ≤ 100 := Nat.le_trans hlm hm
  have hwt := good_wt hgood
  have hlw := lenOf_wt lB
  refine r_seqA (fun K => ∀ th s', St F g (rwMs F.n RD SD B C (some (.int (lenOf lB : Int) th)) (some (.int (k : Int) tk)) (rv0 x tx SD RD) rits sd xB xC [(it2, th2), (it1, th1)]) s' → K s') (fun K kc => ?_) ?_
  · refine wpAny_Assign_Name (r_f1 (TT Z).nSize (Subscript_ (r_ld Z rfl (r_ldc (i := 4) Z rfl (r_item (own_isList (Z.own 6 rfl)) (by lia) hsd ⟨(TT Z).fSize, ?_⟩)))))
    obtain ⟨o, eo, no, rfl⟩ := Z.own 7 (a := B) (t := .list xB) rfl
    refine size_spec (TT Z) hroom hh ⟨xB, ⟨B, no, rfl, eo⟩, hB.imp fun _ _ z => z.mono Z.dat⟩ (by lia) (by lia) fun s₂ t o1 o2 o3 o4 => ?_
    replace Z := Z.ext o1 o2 o3 o4
    exact r_stc (i := 3) Z rfl fun s₃ Z => ⟨rfl, kc t _ Z⟩
  intro tl s₁ Z
  have stay : ∀ s', St F g (rwMs F.n RD SD B C (some (.int (lenOf lB : Int) tl)) (some (.int (k : Int) tk)) (rv0 x tx SD RD) rits sd xB xC [(it2, th2), (it1, th1)]) s' → Q .next s' :=
    fun s' Z => hK g _ xB s' (Up.refl _ _) ⟨lB, hB, hgood, Nat.le_succ_of_le hlm⟩ Z
  refine wpAny_execs_cons (wpAny_If (isTrue_and (wpAny_isTrue_Compare1 (wpAny_BinOp (r_ld Z rfl (r_int Z fun t2 s₂ Z => mod_int' (by lia) ?_))))))
  replace Z := Z.toks (s₂.toks + 1)
  refine r_list3 (r_ldc (i := 4) Z rfl (r_int Z fun t3 s₃ Z => r_int Z fun t4 s₄ Z => r_newList Z (by simp) fun ND s₅ _ Z => ?_))
  refine r_in (ns := [(k : Int), 2, 3]) (own_isList (Z.own 9 (a := ND) rfl)) (.cons ⟨_, rfl⟩ (.cons ⟨_, rfl⟩ (.cons ⟨_, rfl⟩ .nil))) fun b => wpAny_truthy_bool ?_
  replace Z := Z.drop 9
  change St F g (rwMs F.n RD SD B C (some (.int (lenOf lB : Int) tl)) (some (.int (k : Int) tk)) (rv0 x tx SD RD) rits sd xB xC [(it2, th2), (it1, th1)]) s₅ at Z
  cases b with
  | false =>
    simp only [Bool.false_eq_true, if_false]
    exact wpAny_execs_nil (wpAny_execs_nil (stay _ Z))
  | true =>
    simp only [if_true]
    refine isTrue_and (wpAny_isTrue_Compare1 (r_ldc (i := 3) Z rfl (r_int Z fun t6 s₆ Z => PyProof.Rows.lt_int (wpAny_truthy_bool ?_))))
    refine split_dec (fun q => ?_) fun q => ?_
    · refine isTrue_and_nil ?_
      simp only [if_true]
      obtain ⟨N, hN, hN4⟩ := fmod_lt (x.fdiv ((20 : Nat) : Int)) 4 (by lia)
      refine r_seqA (fun K => ∀ SG ys cs s', All2 (fun v c => ∃ t, v = .str (S [c]) t) ys cs → (∀ c ∈ cs, 2 ≤ c ∧ c < 128) → cs.length ≤ 3 →
        St F g (rwMs F.n RD SD B C (some (.int (lenOf lB : Int) tl)) (some (.int (k : Int) tk)) (("signs", .ref SG) :: rv0 x tx SD RD) rits sd xB xC [(it2, th2), (it1, th1)] ++ [(SG, .list ys)]) s' → K s') (fun K kc => ?_) ?_
      · refine r_assigncomp (F := F) (n := N) (j := 8) (th := rangeTh N) (P := fun i x => ∃ t, x = .int (i : Int) t) (side := fun _ => True)
          (cl := [("k", F.n + 1), ("have", F.n + 1 + 1)]) (fun i g' ys => g' = g ∧ ∃ cs, All2 (fun v c => ∃ t, v = .str (S [c]) t) ys cs ∧ ∀ c ∈ cs, 2 ≤ c ∧ c < 128) (by lia) rfl (by decide +kernel) (by decide +kernel) rfl ?_
        refine r_range (F := F) (TT Z).nRange (wpAny_BinOp (wpAny_BinOp (r_ld Z rfl (r_int Z fun t7 s₇ Z => floordiv_int (by lia) ?_ (.inl (PyProof.noPylong_small (by lia)))))))
        refine r_int (Z.toks _) fun t8 s₈ Z => mod_int' (by lia) ?_
        refine ⟨N, _, g, _, by rw [← hN]; rfl, by lia, Z.toks _, fun it s₉ Z => ?_⟩
        refine ⟨it, rfl, itk_range hh, g, _, _, Z, rfl, fun _ _ _ _ => trivial, ⟨rfl, [], .nil, fun _ h => nomatch h⟩, ?_, ?_⟩
        · rintro C' D' i v g' ys vs s' hC hD hi ⟨ti, rfl⟩ ⟨rfl, cs, hcs, hgc⟩ hl U Z
          refine r_assign (env := compEnvC _ _ C' _) Z fun s₁₀ Z => ?_
          refine Subscript_ (Subscript_ (r_list2 (r_str Z fun ta s₁₁ Z => r_str Z fun tb s₁₂ Z => r_newList Z (by simp) fun ND s₁₃ _ Z => ?_)))
          have hx : [Value.str (Str.ofString "abc de") ta, Value.str (Str.ofString "ABC DE") tb][k]? = some (.str (S (sgn k)) (if k = 0 then ta else tb)) := by
            have : k = 0 ∨ k = 1 := by lia
            rcases this with rfl | rfl
            · rw [S_low]; rfl
            · rw [S_up]; rfl
          refine r_ldc (env := compEnvC _ _ C' _) (i := 6) Z rfl (r_item (own_isList (Z.own 12 (a := ND) rfl)) (by lia) hx ?_)
          refine wpAny_BinOp (wpAny_BinOp (r_ldc (env := compEnvC _ _ C' _) (i := 5) Z rfl (r_ld (env := compEnvC _ _ C' _) Z rfl (PyProof.Rows.add_int ?_))))
          refine r_int (Z.toks _) fun tc s₁₄ Z => mod_int' (by lia) ?_
          obtain ⟨M, hM, hM6⟩ := fmod_lt ((lenOf lB : Int) + (i : Int)) 6 (by lia)
          rw [show (6 : Int) = ((6 : Nat) : Int) from rfl, hM]
          obtain ⟨c, hc, hg1⟩ := sgn_get (k := k) hM6
          refine r_stritem (Z.toks _) (by lia) hc fun td s₁₅ Z => ?_
          replace Z := Z.drop 12
          refine ⟨g', _, Up.refl _ _, ⟨rfl, cs ++ [c], hcs.append (.cons ⟨td, rfl⟩ .nil), fun c' hc' => ?_⟩, Z⟩
          rcases List.mem_append.mp hc' with h1 | h1
          · exact hgc c' h1
          · rw [List.mem_singleton.mp h1]; exact hg1
        · rintro D' g' ys s' hD U ⟨rfl, cs, hcs, hgc⟩ hl Z
          exact ⟨rfl, kc D' ys cs _ hcs hgc (by have := hcs.length; lia) Z⟩
      intro SG ys cs s₇ hcs hgc hcl Z
      refine wpAny_execs_cons (r_appendS (F := F) (Subscript_ (r_ld Z rfl (r_ldc (i := 4) Z rfl (r_item (own_isList (Z.own 6 rfl)) (by lia) hsd ⟨B, xB, rfl, Z.own 7 rfl, ?_⟩)))))
      refine r_tuple2 (Subscript_ (r_list4 (r_str Z fun ta s₈ Z => r_str Z fun tb s₉ Z => r_str Z fun tc s₁₀ Z => r_str Z fun td s₁₁ Z => r_newList Z (by simp) fun ND s₁₂ _ Z => ?_)))
      refine r_dm (a := 5) (b := 4) Z rfl (by lia) (by lia) fun M te s₁₃ hM Z => ?_
      obtain ⟨mk, tm, hmk, hmg⟩ : ∃ mk tm, [Value.str (Str.ofString "") ta, Value.str (Str.ofString "+") tb, Value.str (Str.ofString "-") tc, Value.str (Str.ofString "^") td][M]? = some (.str (S mk) tm) ∧ (mk = [] ∨ ∃ c, mk = [c] ∧ 2 ≤ c) := by
        have : M = 0 ∨ M = 1 ∨ M = 2 ∨ M = 3 := by lia
        rcases this with rfl | rfl | rfl | rfl
        · exact ⟨[], ta, by rw [S_empty]; rfl, .inl rfl⟩
        · exact ⟨[43], tb, by rw [S_plus]; rfl, .inr ⟨43, rfl, by lia⟩⟩
        · exact ⟨[45], tc, by rw [S_minus]; rfl, .inr ⟨45, rfl, by lia⟩⟩
        · exact ⟨[94], td, by rw [S_hat]; rfl, .inr ⟨94, rfl, by lia⟩⟩
      refine r_item (own_isList (Z.own 10 (a := ND) rfl)) (by lia) hmk ?_
      refine r_join (F := F) Z S_empty fun s₁₄ Z => r_ld Z rfl ⟨SG, ys, cs, g, _, rfl, Z, own_isList (Z.own 9 rfl), hcs, by lia, fun tf s₁₅ Z => ?_⟩
      refine r_newTuple Z (by simp) fun v g' s₁₆ U X Z => ⟨g', _, 7, xB, Z, rfl, ?_, fun s₁₇ Z => wpAny_execs_nil (wpAny_execs_nil (hK g' (some (.int (lenOf lB : Int) tl)) (xB ++ [v]) _ U (SideOk.snoc hB hgood hlm U.1 X ⟨hmg, hcl, hgc⟩) ?_))⟩
      · have := hB.length; lia
      · exact ((Z.drop 10).drop 9).weak ⟨rfl, rfl, rfl, trivial⟩
    · simp only [Bool.false_eq_true, if_false]
      exact wpAny_execs_nil (wpAny_execs_nil (stay _ Z))
end
end Mine
end

section
open PySem PySem.W PyProof.Rows
namespace Mine

abbrev Flag := Option Bool
def flagV : Flag → Value
  | none => .none
  | some b => .bool b
structure RowD where
  n1 : Num
  l : List Stretch
  n2 : Num
  r : List Stretch
  flag : Flag
def RowAt (g : View) (v : Value) (r : RowD) : Prop := ∃ a b c d, NumV r.n1 a ∧ StrchsAt g b r.l ∧ NumV r.n2 c ∧ StrchsAt g d r.r ∧ TupAt g v [a, b, c, d, flagV r.flag]
theorem RowAt.mono {g g' : View} {v r} (x : RowAt g v r) (k : Le g g') : RowAt g' v r := let ⟨a, b, c, d, h1, h2, h3, h4, h5⟩ := x; ⟨a, b, c, d, h1, h2.mono k, h3, h4.mono k, h5.mono k⟩
def GoodSide (l : List Stretch) : Prop := (∀ x ∈ l, GoodSt x) ∧ l.length ≤ 100
def GoodNum (n : Num) : Prop := n.short
def GoodRow (r : RowD) : Prop := GoodSide r.l ∧ GoodSide r.r ∧ GoodNum r.n1 ∧ GoodNum r.n2

def ifBody : Stmt → List Stmt | .If _ b _ _ => b | _ => []
def rwIf : Stmt := (forBody rwFor).getD 1 (.Pass default)

inductive OneRow (g : View) (v : Value) : Prop
  | mk (r : RowD) (h : RowAt g v r) (hg : GoodRow r) : OneRow g v
inductive RowsUp (g : View) (n : Nat) (rits : List Value) : Prop
  | mk (rows : List RowD) (h : All2 (RowAt g) rits rows) (hg : ∀ r ∈ rows, GoodRow r) (hl : rows.length ≤ n) : RowsUp g n rits
theorem RowsUp.mono {g g' : View} {n m : Nat} {rits : List Value} (x : RowsUp g n rits) (k : Le g g') (hn : n ≤ m) : RowsUp g' m rits :=
  let ⟨l, a, b, c⟩ := x; ⟨l, a.imp fun _ _ z => z.mono k, b, Nat.le_trans c hn⟩
theorem RowsUp.nil {g : View} {n : Nat} : RowsUp g n [] := ⟨[], .nil, (fun _ h => nomatch h), Nat.zero_le _⟩
theorem RowsUp.len {g : View} {n : Nat} {rits : List Value} (x : RowsUp g n rits) : rits.length ≤ n :=
  let ⟨_, a, _, c⟩ := x; a.length ▸ c
theorem RowsUp.snoc {g : View} {n : Nat} {rits : List Value} {v : Value} (x : RowsUp g n rits) (y : OneRow g v) : RowsUp g (n + 1) (rits ++ [v]) := by
  obtain ⟨rows, h, hg, hl⟩ := x
  obtain ⟨r, hr, hgr⟩ := y
  refine ⟨rows ++ [r], h.append (.cons hr .nil), fun y hy => ?_, by rw [List.length_append]; exact Nat.succ_le_succ hl⟩
  rcases List.mem_append.mp hy with h1 | h1
  · exact hg y h1
  · rw [List.mem_singleton.mp h1]; exact hgr

theorem put_of_ne {g : View} {n a : Addr} {o : Obj} (h : a ≠ n) : put g n o a = g a := by unfold put; rw [if_neg h]

section
variable {prog : Program} {w : World} {A : Around} {F : Fx} {g : View} {s : Shared}

def kds (n : Nat) (t1 t2 t3 t4 : Tok) : List Value := [Value.int ((n : Int) + 1) t1, .str (Str.ofString ">") t2, .str (Str.ofString "") t3, .int 0 t4]
theorem kind_get {n : Nat} {t1 t2 t3 t4 : Tok} {M : Nat} (hM : M < 4) : ∃ v k, (kds n t1 t2 t3 t4)[M]? = some v ∧ NumV k v ∧ GoodNum k := by
  have : M = 0 ∨ M = 1 ∨ M = 2 ∨ M = 3 := by lia
  rcases this with rfl | rfl | rfl | rfl
  · exact ⟨_, .int (n + 1), rfl, ⟨t1, rfl⟩, trivial⟩
  · exact ⟨_, .str [62], rfl, ⟨t2, by rw [S_gt]⟩, by show [62].length ≤ 2 ^ 20; simp⟩
  · exact ⟨_, .str [], rfl, ⟨t3, by rw [S_empty]⟩, by show ([] : List Nat).length ≤ 2 ^ 20; simp⟩
  · exact ⟨_, .int 0, rfl, ⟨t4, rfl⟩, trivial⟩

theorem rw_emit {D : Ad} {doc pm cd ct : Value} {an : Option Addr} {f RD SD A0 A1 it1 : Addr} {hv kv : Option Value} {x : Int} {tx : Tok} {rits x0 x1 : List Value} {th1 : Thing} {m : Nat} {Q : Flow → Shared → Prop}
    (TT : ∀ {g ms s'}, St F g ms s' → Txt D s'.heap) (hA0 : F.n ≤ A0) (hA1 : F.n ≤ A1) (hm : m ≤ 100) (h0 : SideOk g m x0) (h1 : SideOk g m x1) (hrl : rits.length ≤ 100)
    (Z : St F g (rwMs F.n RD SD A0 A1 hv kv (rv0 x tx SD RD) rits [.ref A0, .ref A1] x0 x1 [(it1, th1)]) s)
    (hK : ∀ g' SD' A0' A1' v s', Up F.n g g' → F.n ≤ A0' → F.n ≤ A1' → OneRow g' v → St F g' (rwMs F.n RD SD' A0' A1' hv kv [("sides", .ref SD'), ("rows", .ref RD)] (rits ++ [v]) [.ref A0', .ref A1'] [] [] [(it1, th1)]) s' → Q .next s') :
    wpAny (model prog w) A (execs (ifBody rwIf) (envRw doc pm cd ct an F.n f)) Q (fun _ _ => False) s := by
  refine r_seqA (fun K => ∀ KD t1 t2 t3 t4 s', St F g (rwMs F.n RD SD A0 A1 hv kv (("kinds", .ref KD) :: rv0 x tx SD RD) rits [.ref A0, .ref A1] x0 x1 [(it1, th1)] ++ [(KD, .list (kds rits.length t1 t2 t3 t4))]) s' → K s') (fun K kc => ?_) ?_
  · refine wpAny_Assign_Name (r_list4 (wpAny_BinOp (r_b1 (TT Z).nLen (r_ld Z rfl (r_len_list Z (own_isList (Z.own 4 (a := RD) rfl)) (by lia) fun t s₁ Z => r_int Z fun t' s₂ Z => PyProof.Rows.add_int ?_)))))
    refine r_str (Z.toks _) fun t2 s₃ Z => r_str Z fun t3 s₄ Z => r_int Z fun t4 s₅ Z => r_newList Z (by simp) fun KD s₆ _ Z => r_store Z fun s₇ Z => ⟨rfl, kc KD _ t2 t3 t4 _ Z⟩
  intro KD t1 t2 t3 t4 s₁ Z
  refine r_seqA (fun K => ∀ (fl : Flag) s', St F g (rwMs F.n RD SD A0 A1 hv kv (("flag", flagV fl) :: ("kinds", .ref KD) :: rv0 x tx SD RD) rits [.ref A0, .ref A1] x0 x1 [(it1, th1)] ++ [(KD, .list (kds rits.length t1 t2 t3 t4))]) s' → K s') (fun K kc => ?_) ?_
  · refine wpAny_Assign_Name (Subscript_ (r_list3 (PyProof.Rows.Constant_bool (PyProof.Rows.Constant_bool (PyProof.Rows.Constant_none (r_newList Z (by simp) fun ND s₂ _ Z => ?_))))))
    refine r_dm (a := 5) (b := 3) Z rfl (by lia) (by lia) fun M te s₃ hM Z => ?_
    obtain ⟨fl, hfl⟩ : ∃ fl : Flag, [Value.bool true, .bool false, .none][M]? = some (flagV fl) := by
      have : M = 0 ∨ M = 1 ∨ M = 2 := by lia
      rcases this with rfl | rfl | rfl
      · exact ⟨some true, rfl⟩
      · exact ⟨some false, rfl⟩
      · exact ⟨none, rfl⟩
    refine r_item (own_isList (Z.own 9 (a := ND) rfl)) (by lia) hfl ?_
    exact r_store (Z.drop 9) fun s₄ Z => ⟨rfl, kc fl _ Z⟩
  intro fl s₂ Z
  refine r_seqA (fun K => ∀ g' v s', Up F.n g g' → OneRow g' v → St F g' ((F.n, .vars [("rows", .ref RD)]) :: [(it1, th1), (F.n + 1 + 1, .cell hv), (F.n + 1, .cell kv), (RD, .list (rits ++ [v]))]) s' → K s') (fun K kc => ?_) ?_
  · obtain ⟨l0, h0, g0, c0⟩ := h0
    obtain ⟨l1, h1, g1, c1⟩ := h1
    replace g0 : GoodSide l0 := ⟨g0, Nat.le_trans c0 hm⟩
    replace g1 : GoodSide l1 := ⟨g1, Nat.le_trans c1 hm⟩
    refine r_appendS (F := F) (r_ld Z rfl ⟨RD, rits, rfl, Z.own 4 rfl, ?_⟩)
    refine r_tuple5 (Subscript_ (r_ld Z rfl (r_dm (a := 15) (b := 4) Z rfl (by lia) (by lia) fun M1 te s₃ hM1 Z => ?_)))
    obtain ⟨v1, k1, e1, n1, q1⟩ := kind_get (n := rits.length) (t1 := t1) (t2 := t2) (t3 := t3) (t4 := t4) hM1
    refine r_item (own_isList (Z.own 8 (a := KD) rfl)) (by lia) e1 (Subscript_ (r_ld Z rfl (r_int Z fun t5 s₄ Z => r_item (k := 0) (own_isList (Z.own 5 (a := SD) rfl)) (by lia) rfl ?_)))
    refine Subscript_ (r_ld Z rfl (r_dm (a := 60) (b := 4) Z rfl (by lia) (by lia) fun M2 te s₃ hM2 Z => ?_))
    obtain ⟨v2, k2, e2, n2, q2⟩ := kind_get (n := rits.length) (t1 := t1) (t2 := t2) (t3 := t3) (t4 := t4) hM2
    refine r_item (own_isList (Z.own 8 (a := KD) rfl)) (by lia) e2 (Subscript_ (r_ld Z rfl (r_int Z fun t5 s₄ Z => r_item (k := 1) (own_isList (Z.own 5 (a := SD) rfl)) (by lia) rfl ?_)))
    refine r_ld Z rfl (r_newTuple Z (by simp) fun v g' s₅ U X Z => ⟨g', _, 4, rits, Z, rfl, by lia, fun s₆ Z => ⟨rfl, ?_⟩⟩)
    obtain ⟨o0, ⟨no, rfl⟩, U0, Z⟩ := Z.freeze 6 (a := A0) (t := .list x0) rfl hA0
    obtain ⟨o1, ⟨no1, rfl⟩, U1, Z⟩ := Z.freeze 6 (a := A1) (t := .list x1) rfl hA1
    have U' := (U.trans U0).trans U1
    refine kc _ v _ U' ⟨⟨k1, l0, k2, l1, fl⟩, ⟨v1, .ref A0, v2, .ref A1, n1, ⟨x0, ⟨A0, no, rfl, U1.1 _ _ (put_self _ _ _)⟩, h0.imp fun _ _ z => z.mono U'.1⟩, n2, ⟨x1, ⟨A1, no1, rfl, put_self _ _ _⟩, h1.imp fun _ _ z => z.mono U'.1⟩, X.mono (U0.trans U1).1⟩, ⟨g0, g1, q1, q2⟩⟩ ?_
    exact ((Z.drop 6).drop 5).weak ⟨rfl, trivial⟩
  intro g' v s₃ U X Z
  refine wpAny_execs_cons (wpAny_Assign_Name (r_list2 (r_list0 (r_newList Z (by simp) fun A0' s₄ hA0' Z => r_list0 (r_newList Z (by simp) fun A1' s₅ hA1' Z => r_newList Z (by simp) fun SD' s₆ _ Z => r_store Z fun s₇ Z => wpAny_execs_nil (hK g' SD' A0' A1' v _ U hA0' hA1' X ?_))))))
  exact Z.perm (((((List.perm_append_comm (l₁ := [(A0', Thing.list []), (A1', Thing.list [])]) (l₂ := [(SD', Thing.list [Value.ref A0', Value.ref A1'])])).cons _).cons _).cons _).cons _ |>.cons _)
end
end Mine
end

section
open PySem PySem.W PyProof.Rows
namespace Mine

inductive AllI : List Expr → Prop
  | nil : AllI []
  | cons {i : Int} {k : Nat} {p : Pos} {r : List Expr} : AllI r → AllI (.Constant (.int i) k p :: r)

section
variable {prog : Program} {w : World} {A : Around} {E : Value → Shared → Prop} {env : Env} {F : Fx} {g : View} {ms : List (Addr × Thing)} {s : Shared} {vs : List (Str × Value)}

theorem spl_ints {pos : Pos} {es : List Expr} (h : AllI es) : ∀ (s : Shared) (Q : List Value → Shared → Prop), St F g ms s → (∀ its s', its.length = es.length → (∀ v ∈ its, ∃ n t, v = Value.int n t) → St F g ms s' → Q its s') →
    wpAny (model prog w) A (spliced (backTo pos (starEach es env))) Q E s := by
  induction h with
  | nil => intro s Q Z k; exact Calls.spliced_nil (k [] s rfl (fun _ h => nomatch h) Z)
  | @cons i kk p r _ ih =>
    intro s Q Z k
    show wpAny _ A (spliced ((false, eval (.Constant (.int i) kk p) env) :: backTo pos (starEach r env))) Q E s
    refine Calls.spliced_cons (r_int Z fun t s₁ Z => ih s₁ _ Z fun its s₂ hl ha Z => k _ _ (by simp [hl]) ?_ Z)
    intro v hv
    rcases List.mem_cons.mp hv with rfl | hv
    · exact ⟨_, _, rfl⟩
    · exact ha v hv
theorem r_listInts {es : List Expr} {pos : Pos} {Q : Value → Shared → Prop} (Z : St F g ms s) (hes : AllI es)
    (h : ∀ its s', its.length = es.length → (∀ v ∈ its, ∃ n t, v = Value.int n t) → St F g ms s' → wpAny (model prog w) A (newList its) Q E s') : wpAny (model prog w) A (eval (.List es pos) env) Q E s :=
  List_ (spl_ints hes s _ Z h)

theorem r_addlist {l b : Addr} {xs ys : List Value} {Q : Value → Shared → Prop} (Z : St F g ms s) (hl : s.heap.PlainList l xs.toArray) (hb : s.heap.PlainList b ys.toArray) (hsz : xs.length + ys.length ≤ 2 ^ 20)
    (h : ∀ D s', F.n ≤ D → St F g (ms ++ [(D, .list (xs ++ ys))]) s' → Q (.ref D) s') : wpAny (model prog w) A (binaryOp .Add (.ref l) (.ref b)) Q E s := by
  obtain ⟨n1, h1⟩ := hl
  obtain ⟨n2, h2⟩ := hb
  refine PySem.P.add_list h1 h2 (h _ _ Z.sz (Z.allocM rfl ⟨0, ?_⟩)) (by rw [sizeLine_eq]; simp; lia)
  simp

theorem LstAt.plain {g : View} {h : Heap} {a : Addr} {its : List Value} (x : LstAt g (.ref a) its) (k : Le g h.get?) : h.PlainList a its.toArray := by
  obtain ⟨b, n, e, q⟩ := x
  cases e
  exact ⟨n, k _ _ q⟩

inductive SliceP (F : Fx) (Q : Value → Shared → Prop) (o vl vu : Value) (s₃ : Shared) : Prop
  | mk (l : Addr) (its : List Value) (lo hi : Option Int) (g : View) (ms : List (Addr × Thing)) (e : o = .ref l) (hl : s₃.heap.IsList l its.toArray) (hb : its.length ≤ 2 ^ 20) (pl : IsPart vl lo) (pu : IsPart vu hi) (Z : St F g ms s₃)
      (k : ∀ D s', F.n ≤ D → St F g (ms ++ [(D, .list (slicePick its.toArray lo hi none).toList)]) s' → Q (.ref D) s') : SliceP F Q o vl vu s₃
/-- a slice of a list: a new list -/
theorem r_slice {value : Expr} {lower upper : Option Expr} {p pos : Pos} {Q : Value → Shared → Prop}
    (h : wpAny (model prog w) A (eval value env) (fun o s₁ => wpAny (model prog w) A (evalPart lower env) (fun vl s₂ => wpAny (model prog w) A (evalPart upper env) (SliceP F Q o vl) E s₂) E s₁) E s)
    (ht : ∀ o r, letTemporaryGo value o r = pure () := by intro _ _; rfl) :
    wpAny (model prog w) A (eval (.Subscript value (.Slice lower upper none p) pos) env) Q E s := by
  refine wpAny_Subscript_list_slice (wpAny_mono h (fun o s₁ h₁ => wpAny_mono h₁ (fun vl s₂ h₂ => wpAny_mono h₂ (fun vu s₃ h₃ => ?_) fun _ _ e => e) fun _ _ e => e) fun _ _ e => e) ht
  obtain ⟨l, its, lo, hi, g, ms, rfl, hl, hb, pl, pu, Z, k⟩ := h₃
  refine ⟨l, its.toArray, lo, hi, rfl, hl, by rw [sizeLine_eq]; simp; lia, pl, pu, ?_⟩
  have Z1 := (Z.allocI (o := { cls := .type "slice", data := .fields #[vl, vu, .none] }) rfl).2
  have Z2 : St F g ms { s₃ with heap := s₃.heap.push { cls := .type "slice", data := .fields #[vl, vu, .none] } } :=
    ⟨Z1.os, Z1.gens, Z1.sz, Z1.kp, Z.dat.push _, fun p hp => ⟨(Z1.now p hp).1, (Z.now p hp).2⟩, Z.nd⟩
  have Z3 := Z2.allocM (o := { cls := .type "list", data := .seq (slicePick its.toArray lo hi none) }) (t := .list (slicePick its.toArray lo hi none).toList) rfl ⟨0, by simp⟩
  have e : (s₃.heap.push { cls := .type "slice", data := .fields #[vl, vu, .none] }).objs.size = s₃.heap.objs.size + 1 := Heap.size_push ..
  have := k _ _ (by show F.n ≤ (s₃.heap.push { cls := .type "slice", data := .fields #[vl, vu, .none] }).objs.size; exact Z2.sz) Z3
  rw [← e]; exact this

/-- a for whose iterable is made on the way -/
inductive For2P (prog : Program) (w : World) (A : Around) (env : Env) (target : Expr) (body : List Stmt) (Q : Flow → Shared → Prop) (F : Fx) (itv : Value) (s₂ : Shared) : Prop
  | mk (it : Addr) (n : Nat) (th : Nat → Thing) (P : Nat → Value → Prop) (side : Heap → Prop) (J : Nat → View → List (Str × Value) → List (Addr × Thing) → Prop)
      (e : itv = .ref it) (K : ItK prog w A it n th P side) (h0 : LoopSt F env.locals it (th 0) (J 0) s₂)
      (hside : ∀ i g vs ms (s : Shared), J i g vs ms → Le g s.heap.get? → Le F.k s.heap.get? → (∀ p ∈ ms, Own s.heap p.1 p.2) → side s.heap)
      (turn : ∀ it i x g vs ms s, i < n → P i x → J i g vs ms → St F g ((env.locals, .vars vs) :: (it, th (i + 1)) :: ms) s → wpAny (model prog w) A (assign target env x) (fun _ s₂ => wpAny (model prog w) A (execs body env)
        (LoopK (LoopSt F env.locals it (th (i + 1)) (J (i + 1))) Q) (fun _ _ => False) s₂) (fun _ _ => False) s)
      (fin : ∀ g vs ms s, J n g vs ms → St F g ((env.locals, .vars vs) :: ms) s → Q .next s) : For2P prog w A env target body Q F itv s₂
theorem r_for2 {target iter : Expr} {body : List Stmt} {pos : Pos} {Q : Flow → Shared → Prop} (hL : F.n ≤ env.locals)
    (h0 : wpAny (model prog w) A (eval iter env) (fun x s₁ => wpAny (model prog w) A (pyIter x) (For2P prog w A env target body Q F) (fun _ _ => False) s₁) (fun _ _ => False) s)
    (hs : ∀ x, foldedSetIterable iter env x = pure x := by intro _; rfl) :
    wpAny (model prog w) A (exec (.For target iter body [] pos) env) Q (fun _ _ => False) s := by
  refine wpAny_For (wpAny_mono h0 (fun x s₁ h₁ => wpAny_mono h₁ (fun itv s₂ h₂ => ?_) fun _ _ e => e) fun _ _ e => e) hs
  obtain ⟨it, n, th, P, side, J, rfl, K, hI0, hside, turn, fin⟩ := h₂
  refine codeAny_forLoop_any (fun k s' => ∃ i, k = n + 1 - i ∧ i ≤ n ∧ LoopSt F env.locals it (th i) (J i) s') ?_ (n + 1) ⟨0, by simp, Nat.zero_le _, hI0⟩
  rintro k s' ⟨i, rfl, hi, ⟨g, vs, ms, hJ, Z⟩⟩
  have hsd := hside i g vs ms s' hJ Z.dat Z.kp fun p hp => (Z.now p (.tail _ (.tail _ hp))).1
  by_cases hlt : i < n
  · refine K.item i s' _ _ hlt hsd (Z.own 1 rfl) fun x h' tk hP hsb ho => ?_
    have Z' := (Z.change 1 (t' := th (i + 1)) rfl hsb ho).toks tk
    refine K.go (i := i + 1) ho ?_
    refine wpAny_mono (turn it i x g vs ms _ hlt hP hJ Z') (fun _ s₂ h₂ => wpAny_mono h₂ (fun f s₃ h₃ => ?_) fun _ _ e => e.elim) fun _ _ e => e.elim
    cases f with
    | next => exact ⟨n + 1 - (i + 1), by lia, i + 1, rfl, hlt, h₃⟩
    | cont => exact ⟨n + 1 - (i + 1), by lia, i + 1, rfl, hlt, h₃⟩
    | brk => exact h₃
    | ret v => exact h₃
  · have hi' : i = n := by lia
    subst hi'
    refine K.done s' _ _ hsd (Z.own 1 rfl) fun h' tk hsb => ?_
    exact wpAny_execs_nil (fin g vs ms _ hJ ((Z.dropIter hL 0 rfl hsb).toks tk))

theorem slice_mem {its : List Value} {lo hi : Option Int} {v : Value} (h : v ∈ (slicePick its.toArray lo hi none).toList) : v ∈ its := by
  unfold slicePick at h
  simp only [List.mem_filterMap] at h
  obtain ⟨i, _, hi⟩ := h
  simp at hi
  exact mem_of_idx hi

inductive RowsJ (n RD : Addr) (g1 : View) (i : Nat) (g' : View) : List (Str × Value) → List (Addr × Thing) → Prop
  | mk (SD A0 A1 : Addr) (hv kv : Option Value) (rits x0 x1 : List Value) (U : Up n g1 g') (a0 : n ≤ A0) (a1 : n ≤ A1) (hr : RowsUp g' i rits) (h0 : SideOk g' i x0) (h1 : SideOk g' i x1) :
      RowsJ n RD g1 i g' [("sides", .ref SD), ("rows", .ref RD)] (rwTl n RD SD A0 A1 hv kv rits [.ref A0, .ref A1] x0 x1 [])
inductive InJ (n RD SD A0 A1 : Addr) (x : Int) (tx : Tok) (rits : List Value) (its : List (Addr × Thing)) (g0 : View) (i k : Nat) (g' : View) : List (Str × Value) → List (Addr × Thing) → Prop
  | mk (hv kv : Option Value) (x0 x1 : List Value) (U : Up n g0 g') (h0 : SideOk g' (i + (1 - (1 - k))) x0) (h1 : SideOk g' (i + (k - 1)) x1) :
      InJ n RD SD A0 A1 x tx rits its g0 i k g' (rv0 x tx SD RD) (rwTl n RD SD A0 A1 hv kv rits [.ref A0, .ref A1] x0 x1 its)

theorem rows_spec {D : Ad} {R : Result → Shared → Prop} {sv : Value} {its : List Value} (T : Txt D s.heap) (hroom : A.depth + 1 < recursionLimit) (hh : A.handled = none) (hg : Le g s.heap.get?)
    (X : LstAt s.heap.get? sv its) (hits : ∀ v ∈ its, ∃ n t, v = Value.int n t) (hlen : its.length ≤ 63)
    (h : ∀ s' g' v rits rows, s'.os = s.os → s'.gens = s.gens → s.heap.objs.size ≤ s'.heap.objs.size → Le s.heap.get? s'.heap.get? → Up s.heap.objs.size g g' → Le g' s'.heap.get? → LstAt g' v rits → All2 (RowAt g') rits rows → (∀ r ∈ rows, GoodRow r) → rows.length ≤ 100 →
      R (.ok (.ret v)) s') :
    codeAny (model prog w) A (.call (.ref D.rows) ⟨[sv], []⟩) R s := by
  obtain ⟨sa, sn, rfl, hsa⟩ := X
  refine r_callC (g := g) (binds := [("script", .ref sa)]) [("script", .ref sa)] T.fRows T.lim (by lia) hg (fun doc pm cd ct an => rfl)
    (List.forall_mem_cons.mpr ⟨rfl, fun _ h => nomatch h⟩) (fun k => List.forall_mem_cons.mpr ⟨.inl rfl, fun _ h => nomatch h⟩)
    (fun k => by show (["have", "k"] : List Str).Nodup; decide +kernel) (fun F doc pm cd ct an A' s₁ f1 f2 f3 f4 a1 a2 a3 Z => ?_)
  replace hh : A'.handled = none := a1.trans hh
  have hroom' : A'.depth < recursionLimit := by lia
  have TT : ∀ {g ms s'}, St F g ms s' → Txt D s'.heap := fun Z => T.mono (f2 ▸ Z.kp)
  change St F g [(F.n, .vars [("script", .ref sa)]), (F.n + 1 + 1, .cell none), (F.n + 1, .cell none)] s₁ at Z
  refine r_seqA (fun K => ∀ RD s', F.n ≤ RD → St F g [(F.n, .vars [("rows", .ref RD), ("script", .ref sa)]), (F.n + 1 + 1, .cell none), (F.n + 1, .cell none), (RD, .list [])] s' → K s') (fun K kc => ?_) ?_
  · exact wpAny_Assign_Name (r_list0 (r_newList Z (by simp) fun RD s₂ hR Z => r_store Z fun s₃ Z => ⟨rfl, kc RD _ hR Z⟩))
  intro RD s₂ hRD Z
  refine r_seqA (fun K => ∀ SD A0 A1 s', F.n ≤ A0 → F.n ≤ A1 → St F g (rwMs F.n RD SD A0 A1 none none [("sides", .ref SD), ("rows", .ref RD), ("script", .ref sa)] [] [.ref A0, .ref A1] [] [] []) s' → K s') (fun K kc => ?_) ?_
  · refine wpAny_Assign_Name (r_list2 (r_list0 (r_newList Z (by simp) fun A0' s₄ hA0' Z => r_list0 (r_newList Z (by simp) fun A1' s₅ hA1' Z => r_newList Z (by simp) fun SD' s₆ _ Z => r_store Z fun s₇ Z => ⟨rfl, kc SD' A0' A1' _ hA0' hA1' ?_⟩))))
    exact Z.perm ((((List.perm_append_comm (l₁ := [(A0', Thing.list []), (A1', Thing.list [])]) (l₂ := [(SD', Thing.list [Value.ref A0', Value.ref A1'])])).cons _).cons _).cons _ |>.cons _)
  intro SD A0 A1 s₃ hA0 hA1 Z
  refine r_seqA (fun K => ∀ g' SD A0 A1 hv kv rits x0 x1 s', Up F.n g g' → RowsUp g' 100 rits →
    St F g' (rwMs F.n RD SD A0 A1 hv kv [("sides", .ref SD), ("rows", .ref RD)] rits [.ref A0, .ref A1] x0 x1 []) s' → K s') (fun K kc => ?_) ?_
  · refine r_for2 (F := F) (Nat.le_refl _) (wpAny_BinOp (r_slice (F := F) (r_ld Z rfl (wpAny_evalPart_some (r_int Z fun t4 s₄ Z => wpAny_evalPart_none ⟨sa, its, some 1, none, g, _, rfl, ⟨_, (f2 ▸ Z.kp) _ _ hsa, rfl, sn, rfl⟩, by lia, .int _ _, .none, Z, fun D1 s₅ _ Z => ?_⟩)))))
    refine r_listInts Z (by repeat' constructor) fun its2 s₆ hl2 hi2 Z => r_newList Z (by simp [hl2]) fun D2 s₇ _ Z => ?_
    have hl1 : (slicePick its.toArray (some 1) none none).toList.length ≤ 63 := by
      have := slicePick_size_le its.toArray (some 1) none none
      simp only [List.size_toArray] at this
      rw [Array.length_toList]; lia
    refine r_addlist Z (own_plain (Z.own 7 (a := D1) rfl)) (own_plain (Z.own 8 (a := D2) rfl)) (by simp only [hl2, List.length_cons, List.length_nil]; lia) fun D3 s₈ hD3 Z => ?_
    replace Z := (Z.drop 7).drop 7
    obtain ⟨o3, ⟨n3, rfl⟩, U3, Z⟩ := Z.freeze 7 (a := D3) rfl hD3
    have hall : ∀ v ∈ (slicePick its.toArray (some 1) none none).toList ++ its2, ∃ n t, v = Value.int n t := fun v hv => by
      rcases List.mem_append.mp hv with h1 | h1
      · exact hits v (slice_mem h1)
      · exact hi2 v h1
    have hal : ((slicePick its.toArray (some 1) none none).toList ++ its2).length ≤ 71 := by
      rw [List.length_append, hl2]; simp only [List.length_cons, List.length_nil]; lia
    generalize hgen : (slicePick its.toArray (some 1) none none).toList ++ its2 = all at *
    have hLD : LstAt (put g D3 { cls := .type "list", data := .seq all.toArray n3 }) (.ref D3) all := ⟨D3, n3, rfl, put_self _ _ _⟩
    generalize hg1 : put g D3 { cls := .type "list", data := .seq all.toArray n3 } = g1 at *
    refine iter_list Z (hLD.isList Z.dat) fun it s₉ Z => ?_
    refine ⟨it, all.length, fun i => .iter D3 i, fun i x => all[i]? = some x, fun h => h.IsList D3 all.toArray,
      RowsJ F.n RD g1,
      rfl, itk_list hh, ⟨g1, _, _, ⟨SD, A0, A1, none, none, [], [], [], Up.refl _ _, hA0, hA1, .nil, .nil, .nil⟩, Z.weak ⟨rfl, rfl, trivial⟩⟩, ?_, ?_, ?_⟩
    · rintro i g' vs ms s' ⟨_, _, _, _, _, _, _, _, U, _⟩ hd _ _
      exact (hLD.mono U.1).isList hd
    · rintro it i v g' vs ms s' hi hv' ⟨SD, A0, A1, hv, kv, rits, x0, x1, U, hA0, hA1, hr, h0, h1⟩ Z
      obtain ⟨x, tx, rfl⟩ := hall v (mem_of_idx hv')
      refine r_assign Z fun s₁₀ Z => ?_
      refine r_seqA (fun K => ∀ g'' hv kv x0 x1 s', Up F.n g' g'' → SideOk g'' (i + 1) x0 → SideOk g'' (i + 1) x1 →
        St F g'' (rwMs F.n RD SD A0 A1 hv kv (rv0 x tx SD RD) rits [.ref A0, .ref A1] x0 x1 [(it, .iter D3 (i + 1))]) s' → K s') (fun K kc => ?_) ?_
      · refine r_for1 (F := F) (n := 2) (th := rangeTh 2) (P := fun i x => ∃ t, x = .int (i : Int) t) (side := fun _ => True)
          (InJ F.n RD SD A0 A1 x tx rits [(it, .iter D3 (i + 1))] g' i) (Nat.le_refl _) ?_ ?_ ?_ ?_
        · refine r_range (F := F) (TT Z).nRange (r_int Z fun t s₁₁ Z => ⟨2, t, g', _, rfl, by lia, Z, fun it2 s₁₂ Z => ?_⟩)
          exact ⟨it2, rfl, itk_range hh, g', _, _, ⟨hv, kv, x0, x1, Up.refl _ _, h0, h1⟩, St.iterIn Z⟩
        · intros; trivial
        · rintro it2 k v g'' vs ms s'' hk ⟨tk, rfl⟩ ⟨hv, kv, x0, x1, U2, h0, h1⟩ Z
          refine r_assignc (i := 4) Z rfl fun s₁₃ Z => ?_
          have hk2 : k = 0 ∨ k = 1 := by lia
          rcases hk2 with rfl | rfl
          · refine rw_turn (D := D) (k := 0) (B := A0) (C := A1) hh hroom' TT (by lia) rfl h0 (by lia) Z fun g3 hv' x0' s₁₄ U4 q1 Z => ?_
            exact ⟨g3, _, _, ⟨hv', _, x0', x1, U2.trans U4, q1, h1.mono U4.1 (Nat.le_refl _)⟩, Z⟩
          · have Z' := Z.perm (((((((List.Perm.swap (A1, Thing.list x1) (A0, Thing.list x0) []).cons _).cons _).cons _).cons _).cons _).cons _ |>.cons _)
            refine rw_turn (D := D) (k := 1) (B := A1) (C := A0) hh hroom' TT (by lia) rfl h1 (by lia) Z' fun g3 hv' x1' s₁₄ U4 q1 Z => ?_
            have Z' := Z.perm (((((((List.Perm.swap (A0, Thing.list x0) (A1, Thing.list x1') []).cons _).cons _).cons _).cons _).cons _).cons _ |>.cons _)
            exact ⟨g3, _, _, ⟨hv', _, x0, x1', U2.trans U4, h0.mono U4.1 (Nat.le_refl _), q1⟩, Z'⟩
        · rintro g'' vs ms s'' ⟨hv, kv, x0, x1, U2, h0, h1⟩ Z
          exact ⟨rfl, kc g'' hv kv x0 x1 _ U2 h0 h1 Z⟩
      intro g'' hv kv x0 x1 s₁₁ U2 h0 h1 Z
      have hr2 := hr.mono U2.1 (Nat.le_refl _)
      have hi100 : i + 1 ≤ 100 := by lia
      refine wpAny_execs_cons (wpAny_If (wpAny_isTrue_Compare1 (wpAny_BinOp (r_ld Z rfl (r_int Z fun t s₁₂ Z => mod_int' (by lia) ?_)))))
      refine r_int (Z.toks _) fun t' s₁₃ Z => PyProof.Rows.eq_int (wpAny_truthy_bool ?_)
      refine split_bool (fun q => ?_) fun q => ?_
      · refine rw_emit (D := D) TT hA0 hA1 hi100 h0 h1 (Nat.le_trans hr2.len (Nat.le_of_succ_le hi100)) Z fun g3 SD' A0' A1' v s₁₄ U3' a0 a1 hv' Z => ?_
        exact wpAny_execs_nil ⟨g3, _, _, ⟨SD', A0', A1', hv, kv, rits ++ [v], [], [], (U.trans U2).trans U3', a0, a1, (hr2.mono U3'.1 (Nat.le_refl _)).snoc hv', .nil, .nil⟩, Z⟩
      · exact wpAny_execs_nil (wpAny_execs_nil ⟨g'', _, _, ⟨SD, A0, A1, hv, kv, rits, x0, x1, U.trans U2, hA0, hA1, hr2.mono (Le.refl _) (Nat.le_succ _), h0, h1⟩, Z.weak ⟨rfl, rfl, trivial⟩⟩)
    · rintro g' vs ms s' ⟨SD, A0, A1, hv, kv, rits, x0, x1, U, hA0, hA1, hr, h0, h1⟩ Z
      exact ⟨rfl, kc g' SD A0 A1 hv kv rits x0 x1 _ (U3.trans U) (hr.mono (Le.refl _) (by lia)) Z⟩
  intro g' SD A0 A1 hv kv rits x0 x1 s₄ U hr Z
  obtain ⟨rows, hr, hgr, hrl⟩ := hr
  refine wpAny_execs_cons (wpAny_Return_some (r_ld Z rfl ?_))
  obtain ⟨o0, ⟨no, rfl⟩, U0, Z⟩ := Z.freeze 3 (a := RD) (t := .list rits) rfl hRD
  have U' := U.trans U0
  exact h s₄ _ _ rits rows (Z.os.trans f3) (Z.gens.trans f4) (f1 ▸ Z.sz) (f2 ▸ Z.kp) (f1 ▸ U') Z.dat ⟨RD, no, rfl, put_self _ _ _⟩ (hr.imp fun _ _ z => z.mono U0.1) hgr hrl
end
end Mine
end

section
open PySem PySem.W PyProof.Rows
namespace Mine

/-! cutting a text of stretches -/
def cut : Nat → List Stretch → List Stretch × List Stretch
  | _, [] => ([], [])
  | k, (m, sg) :: tl => if k ≤ sg.length then ([(m, sg.take k)], (m, sg.drop k) :: tl) else ((m, sg) :: (cut (k - sg.length) tl).1, (cut (k - sg.length) tl).2)

theorem cut_len : ∀ (k : Nat) (l : List Stretch), k ≤ lenOf l → lenOf (cut k l).1 = k ∧ lenOf (cut k l).2 = lenOf l - k
  | k, [], h => by simp [lenOf] at h; subst h; simp [cut, lenOf]
  | k, (m, sg) :: tl, h => by
    simp only [lenOf] at h
    unfold cut
    split
    · rename_i q
      simp only [lenOf, List.length_take, List.length_drop]; lia
    · rename_i q
      have ih := cut_len (k - sg.length) tl (by lia)
      simp only [lenOf]; lia
theorem cut_good : ∀ (k : Nat) (l : List Stretch), (∀ x ∈ l, GoodSt x) → (∀ x ∈ (cut k l).1, GoodSt x) ∧ (∀ x ∈ (cut k l).2, GoodSt x)
  | k, [], h => by simp [cut]
  | k, (m, sg) :: tl, h => by
    have h0 := h (m, sg) (.head _)
    unfold cut
    split
    · refine ⟨fun x hx => ?_, fun x hx => ?_⟩
      · rw [List.mem_singleton.mp hx]
        exact ⟨h0.1, by have := h0.2.1; simp only [List.length_take] at this ⊢; lia, fun c hc => h0.2.2 c (List.mem_of_mem_take hc)⟩
      · rcases List.mem_cons.mp hx with rfl | hx
        · exact ⟨h0.1, by have := h0.2.1; simp only [List.length_drop] at this ⊢; lia, fun c hc => h0.2.2 c (List.mem_of_mem_drop hc)⟩
        · exact h x (.tail _ hx)
    · have ih := cut_good (k - sg.length) tl fun x hx => h x (.tail _ hx)
      refine ⟨fun x hx => ?_, ih.2⟩
      rcases List.mem_cons.mp hx with rfl | hx
      · exact h0
      · exact ih.1 x hx
theorem cut_count : ∀ (k : Nat) (l : List Stretch), (cut k l).1.length ≤ l.length ∧ (cut k l).2.length ≤ l.length
  | k, [] => by simp [cut]
  | k, (m, sg) :: tl => by
    have ih := cut_count (k - sg.length) tl
    unfold cut
    split
    · simp
    · simp only [List.length_cons]; lia

def wrap (c : Nat) (l : List Stretch) : List (List Stretch) :=
  if h : lenOf l ≤ c ∨ c = 0 then [l] else (cut c l).1 :: wrap c (cut c l).2
termination_by lenOf l
decreasing_by
  have := (cut_len c l (by lia)).2
  lia

def nums {α : Type} (n : Num) : List α → List (Num × α)
  | [] => []
  | p :: r => (n, p) :: r.map fun q => (.str [62], q)
abbrev Side := Num × List Stretch
def splitSide (c : Nat) (x : Side) : List Side := if x.1.tr then nums x.1 (wrap c x.2) else [x]
def SideAt (g : View) (v : Value) (x : Side) : Prop := PieceAt g v (x.1, textOf x.2)
theorem SideAt.mono {g g' : View} {v x} (h : SideAt g v x) (k : Le g g') : SideAt g' v x := PieceAt.mono h k

/-! the scanner -/
def scan (c : Nat) : Nat → List Nat → List Nat → Nat × List Nat
  | _, mark, [] => (0, mark)
  | n, mark, x :: xs =>
    if n < c then
      if x = 0 then match xs with
        | y :: ys => ((scan c n [y] ys).1 + 2, (scan c n [y] ys).2)
        | [] => (0, mark)
      else if x = 1 then ((scan c n [] xs).1 + 1, (scan c n [] xs).2)
      else ((scan c (n + 1) mark xs).1 + 1, (scan c (n + 1) mark xs).2)
    else (0, mark)
inductive Wf : List Nat → Prop
  | nil : Wf []
  | mark {y ys} : Wf ys → Wf (0 :: y :: ys)
  | other {x xs} : x ≠ 0 → Wf xs → Wf (x :: xs)
theorem wf_append : ∀ {sg : List Nat} {r : List Nat}, (∀ c ∈ sg, 2 ≤ c ∧ c < 128) → Wf r → Wf (sg ++ r)
  | [], _, _, h => h
  | c :: sg, r, h, hr => .other (by have := h c (.head _); lia) (wf_append (fun c hc => h c (.tail _ hc)) hr)
theorem wf_text : ∀ {l : List Stretch}, (∀ x ∈ l, GoodSt x) → Wf (textOf l)
  | [], _ => .nil
  | (m, sg) :: r, h => by
    have h0 := h (m, sg) (.head _)
    have ih := wf_text (l := r) fun x hx => h x (.tail _ hx)
    rcases h0.1 with hm | ⟨c, hm, _⟩
    · have hm' : m = [] := hm
      simp only [textOf, hm', if_true]
      exact wf_append h0.2.2 ih
    · have hm' : m = [c] := hm
      subst hm'
      have e : textOf (([c], sg) :: r) = 0 :: c :: (sg ++ (1 :: textOf r)) := by simp [textOf]
      rw [e]
      exact .mark (wf_append h0.2.2 (.other (by lia) ih))

theorem scan_stop {c n : Nat} {mark r : List Nat} (h : c ≤ n) : scan c n mark r = (0, mark) := by
  cases r with
  | nil => simp [scan]
  | cons x xs => unfold scan; rw [if_neg (by lia)]
theorem scan_signs (c : Nat) : ∀ (sg : List Nat) (n : Nat) (mark r : List Nat), (∀ c ∈ sg, 2 ≤ c ∧ c < 128) → n ≤ c →
    scan c n mark (sg ++ r) = if c ≤ n + sg.length then (c - n, mark) else (sg.length + (scan c (n + sg.length) mark r).1, (scan c (n + sg.length) mark r).2)
  | [], n, mark, r, _, hn => by
    by_cases q : c ≤ n
    · have : c = n := by lia
      subst this
      simp [scan_stop]
    · rw [if_neg (by simpa using q)]; simp
  | x :: sg, n, mark, r, h, hn => by
    have hx := h x (.head _)
    by_cases q : n < c
    · have ih := scan_signs c sg (n + 1) mark r (fun c hc => h c (.tail _ hc)) (by lia)
      have e0 : scan c n mark (x :: (sg ++ r)) = ((scan c (n + 1) mark (sg ++ r)).1 + 1, (scan c (n + 1) mark (sg ++ r)).2) := by
        conv => lhs; unfold scan
        rw [if_pos q, if_neg (by lia), if_neg (by lia)]
      show scan c n mark (x :: (sg ++ r)) = _
      rw [e0, ih]
      simp only [List.length_cons]
      by_cases q2 : c ≤ n + 1 + sg.length
      · rw [if_pos q2, if_pos (by lia)]
        refine Prod.ext ?_ rfl
        show c - (n + 1) + 1 = c - n
        lia
      · rw [if_neg q2, if_neg (by lia)]
        have e : n + 1 + sg.length = n + (sg.length + 1) := by lia
        rw [e]
        refine Prod.ext ?_ rfl
        show sg.length + (scan c (n + (sg.length + 1)) mark r).1 + 1 = sg.length + 1 + (scan c (n + (sg.length + 1)) mark r).1
        lia
    · have : c = n := by lia
      subst this
      rw [scan_stop (Nat.le_refl _), if_pos (by lia)]; simp

def openM (m : List Nat) : List Nat := if m = [] then [] else 0 :: m
def shutM (m : List Nat) : List Nat := if m = [] then [] else [1]
theorem scan_cut (c : Nat) : ∀ (l : List Stretch) (n : Nat), (∀ x ∈ l, GoodSt x) → n < c → c - n ≤ lenOf l →
    (textOf l).take (scan c n [] (textOf l)).1 ++ shutM (scan c n [] (textOf l)).2 = textOf (cut (c - n) l).1 ∧
    openM (scan c n [] (textOf l)).2 ++ (textOf l).drop (scan c n [] (textOf l)).1 = textOf (cut (c - n) l).2 ∧ (scan c n [] (textOf l)).1 ≤ (textOf l).length ∧
    ((scan c n [] (textOf l)).2 = [] ∨ ∃ x, (scan c n [] (textOf l)).2 = [x])
  | [], n, _, hn, h => by simp [lenOf] at h; lia
  | (m, sg) :: tl, n, hg, hn, h => by
    have h0 := hg (m, sg) (.head _)
    have ih := fun q => scan_cut c tl (n + sg.length) (fun x hx => hg x (.tail _ hx)) q
    simp only [lenOf] at h
    have hcut1 : c - n ≤ sg.length → cut (c - n) ((m, sg) :: tl) = ([(m, sg.take (c - n))], (m, sg.drop (c - n)) :: tl) := fun q => by unfold cut; rw [if_pos q]
    have hcut2 : ¬ c - n ≤ sg.length → cut (c - n) ((m, sg) :: tl) = ((m, sg) :: (cut (c - (n + sg.length)) tl).1, (cut (c - (n + sg.length)) tl).2) := fun q => by
      conv => lhs; unfold cut
      rw [if_neg q, show c - n - sg.length = c - (n + sg.length) by lia]
    rcases h0.1 with hm | ⟨mc, hm, hmc⟩
    · have hm' : m = [] := hm
      subst hm'
      have et : textOf (([], sg) :: tl) = sg ++ textOf tl := by simp [textOf]
      rw [et, scan_signs c sg n [] _ h0.2.2 (by lia)]
      by_cases q : c ≤ n + sg.length
      · rw [if_pos q, hcut1 (by lia)]
        have e1 : (sg ++ textOf tl).take (c - n) = sg.take (c - n) := by rw [List.take_append_of_le_length (by lia)]
        have e2 : (sg ++ textOf tl).drop (c - n) = sg.drop (c - n) ++ textOf tl := by rw [List.drop_append_of_le_length (by lia)]
        refine ⟨?_, ?_, by simp; lia, .inl rfl⟩
        · simp only [e1]; simp [textOf, shutM]
        · simp only [e2]; simp [textOf, openM]
      · rw [if_neg q, hcut2 (by lia)]
        obtain ⟨i1, i2, i3, i4⟩ := ih (by lia) (by lia)
        refine ⟨?_, ?_, by simp; exact i3, i4⟩
        · simp only [List.take_length_add_append]
          have : textOf (([], sg) :: (cut (c - (n + sg.length)) tl).1) = sg ++ textOf (cut (c - (n + sg.length)) tl).1 := by simp [textOf]
          rw [this, ← i1]; simp
        · simp only [List.drop_length_add_append]
          exact i2
    · have hm' : m = [mc] := hm
      subst hm'
      have et : textOf (([mc], sg) :: tl) = 0 :: mc :: (sg ++ (1 :: textOf tl)) := by simp [textOf]
      have es : scan c n [] (0 :: mc :: (sg ++ (1 :: textOf tl))) = ((scan c n [mc] (sg ++ (1 :: textOf tl))).1 + 2, (scan c n [mc] (sg ++ (1 :: textOf tl))).2) := by
        conv => lhs; unfold scan
        rw [if_pos hn, if_pos rfl]
      rw [et, es, scan_signs c sg n [mc] _ h0.2.2 (by lia)]
      by_cases q : c ≤ n + sg.length
      · rw [if_pos q, hcut1 (by lia)]
        have e1 : (sg ++ 1 :: textOf tl).take (c - n) = sg.take (c - n) := by rw [List.take_append_of_le_length (by lia)]
        have e2 : (sg ++ 1 :: textOf tl).drop (c - n) = sg.drop (c - n) ++ 1 :: textOf tl := by rw [List.drop_append_of_le_length (by lia)]
        refine ⟨?_, ?_, by simp; lia, .inr ⟨mc, rfl⟩⟩
        · simp only [List.take_succ_cons, e1]; simp [textOf, shutM]
        · simp only [List.drop_succ_cons, e2]; simp [textOf, openM]
      · rw [if_neg q, hcut2 (by lia)]
        obtain ⟨i1, i2, i3, i4⟩ := ih (by lia) (by lia)
        have es2 : scan c (n + sg.length) [mc] (1 :: textOf tl) = ((scan c (n + sg.length) [] (textOf tl)).1 + 1, (scan c (n + sg.length) [] (textOf tl)).2) := by
          conv => lhs; unfold scan
          rw [if_pos (by lia), if_neg (by lia), if_pos rfl]
        rw [es2]
        refine ⟨?_, ?_, by simp; lia, i4⟩
        · have : textOf (([mc], sg) :: (cut (c - (n + sg.length)) tl).1) = 0 :: mc :: (sg ++ 1 :: textOf (cut (c - (n + sg.length)) tl).1) := by simp [textOf]
          rw [this, ← i1]
          simp only [List.take_succ_cons, List.take_length_add_append]
          simp
        · simp only [List.drop_succ_cons, List.drop_length_add_append]
          exact i2
end Mine
end

section
open PySem PySem.W PyProof.Rows
namespace Mine

structure Ad2 where
  split : Addr
  wrap : Addr
  init : Addr

structure Cls (K : Frag) (D : Ad) (D2 : Ad2) : Prop where
  ga : findIn K (.ref D.html) "__getattribute__" = some (some (.builtin "object.__getattribute__"))
  gat : findIn K (.ref D.html) "__getattr__" = some none
  dict : hasDictIn K D.html = true
  noCol : findIn K (.ref D.html) "_wrapcolumn" = some none
  fSplit : findIn K (.ref D.html) "_split_line" = some (some (.ref D2.split))
  tSplit : typeIn K (.ref D2.split) = some (.type "function")
  fWrap : findIn K (.ref D.html) "_line_wrapper" = some (some (.ref D2.wrap))
  tWrap : typeIn K (.ref D2.wrap) = some (.type "function")

structure CTxt (K : Frag) (D : Ad) (D2 : Ad2) (h : Heap) : Prop where
  cls : Cls K D D2
  kin : K.In h
  fnSplit : FnAt h D2.split "_split_line" "HtmlDiff._split_line" dSplit .none
  fnWrap : FnAt h D2.wrap "_line_wrapper" "HtmlDiff._line_wrapper" dWrap .none
theorem CTxt.mono {K : Frag} {D : Ad} {D2 : Ad2} {h h' : Heap} (T : CTxt K D D2 h) (k : Le h.get? h'.get?) : CTxt K D D2 h' :=
  ⟨T.cls, T.kin.keeps k, T.fnSplit.mono k, T.fnWrap.mono k⟩

def InstG (C : Addr) (g : View) (x : Addr) (c : Nat) : Prop :=
  ∃ dx es n t, g x = some (instObj C dx) ∧ g dx = some (dictOf es n) ∧ getL "_wrapcolumn" es = some (some (.int (c : Int) t)) ∧ getL "_split_line" es = some none ∧ getL "_line_wrapper" es = some none
theorem InstG.mono {C : Addr} {g g' : View} {x : Addr} {c : Nat} (h : InstG C g x c) (k : Le g g') : InstG C g' x c :=
  let ⟨dx, es, n, t, h1, h2, h3⟩ := h; ⟨dx, es, n, t, k _ _ h1, k _ _ h2, h3⟩

section
variable {prog : Program} {w : World} {A : Around} {E : Value → Shared → Prop} {env : Env} {F : Fx} {g : View} {ms : List (Addr × Thing)} {s : Shared} {vs : List (Str × Value)} {K : Frag} {D : Ad} {D2 : Ad2}

theorem r_wrapcol {x : Addr} {c : Nat} {Q : Value → Shared → Prop} (Z : St F g ms s) (T : CTxt K D D2 s.heap) (I : InstG D.html s.heap.get? x c) (h : ∀ t s', St F g ms s' → Q (.int (c : Int) t) s') :
    wpAny (model prog w) A (getAttr (.ref x) "_wrapcolumn" true) Q E s := by
  obtain ⟨dx, es, n, t, h1, h2, h3, _⟩ := I
  refine get_value (od := some (dictOf es n)) T.kin ⟨h1, rfl, rfl, h2⟩ T.cls.ga (findObj_own T.cls.dict T.cls.noCol rfl (by rw [lookIn_dict]; exact h3)) rfl (h _ _ (Z.toks _))

/-- a method's call by its name, three arguments -/
theorem r_split3 {o e₁ e₂ e₃ : Expr} {apos pos : Pos} {Q : Value → Shared → Prop}
    (h : wpAny (model prog w) A (eval o env) (fun ov s₁ => ∃ x c, ov = .ref x ∧ CTxt K D D2 s₁.heap ∧ InstG D.html s₁.heap.get? x c ∧
      wpAny (model prog w) A (eval e₁ env) (fun a s₂ => wpAny (model prog w) A (eval e₂ env) (fun b s₃ => wpAny (model prog w) A (eval e₃ env) (fun d s₄ => CTxt K D D2 s₄.heap ∧
        codeAny (model prog w) A (.call (.ref D2.split) ⟨[.ref x, a, b, d], []⟩) (fun r s' => match r with | .ok (.ret v) => Q v s' | .ok _ => False | .error e => E e s') s₄) E s₃) E s₂) E s₁) E s)
    (hbase : attributeBase o "_split_line" env (eval o env) = eval o env := by rfl)
    (hform : methodCallForm (([e₁, e₂, e₃] : List Expr).length + ([] : List Keyword).length) (backTo pos (starEach [e₁, e₂, e₃] env)) (backToKw pos (keywordEach [] env)) = true := by rfl)
    (hline : (apos.endLine == pos.line) = true := by rfl)
    (htrees : backTo pos (starEach [e₁, e₂, e₃] env) = [(false, eval e₁ env), (false, eval e₂ env), (false, eval e₃ env)] := by rfl) :
    wpAny (model prog w) A (eval (.Call (.Attribute o "_split_line" apos) [e₁, e₂, e₃] [] pos) env) Q E s := by
  rw [arm_eval_Call, hbase]
  refine wpAny_bind (wpAny_mono h (fun ov s₁ h₁ => ?_) fun _ _ e => e)
  obtain ⟨x, c, rfl, T, ⟨dx, es, n, t, h1, h2, h3, h4, _⟩, hc⟩ := h₁
  refine wpAny_bind (wpAny_standAt ?_)
  have hpos : methodCallPos true o env apos pos = pure pos := by unfold methodCallPos; simp [hline]
  unfold methodCall
  rw [hform]
  refine wpAny_bind (wpAny_holding (method_fn (od := some (dictOf es n)) T.kin ⟨h1, rfl, rfl, h2⟩ T.cls.ga T.cls.gat T.cls.fSplit T.cls.tSplit (by show (lookIn "_split_line" (dictOf es n)).map _ = _; rw [lookIn_dict, h4]; rfl) ?_))
  refine wpAny_bind (wpAny_of_eq hpos ?_)
  rw [htrees]
  unfold callWith
  refine wpAny_bind (wpAny_holding (Calls.evalArgs_plain (Calls.spliced_cons (wpAny_mono hc (fun a s₂ h₂ => Calls.spliced_cons (wpAny_mono h₂ (fun b s₃ h₃ => Calls.spliced_cons (wpAny_mono h₃ (fun d s₄ h₄ => Calls.spliced_nil (wpAny_bind (wpAny_standAt ?_))) fun _ _ e => e)) fun _ _ e => e)) fun _ _ e => e))))
  obtain ⟨T4, hcall⟩ := h₄
  obtain ⟨o', doc, pm, cd, ct, an, e1, e2, _⟩ := T4.fnSplit
  refine wpAny_bind (m := keeperOf (.ref D2.split)) ?_
  unfold keeperOf
  refine wpAny_bind (wpAny_load e1 ?_)
  rw [e2]
  refine wpAny_pure ?_
  refine wpAny_bind (m := callMarked plainCall (.ref D2.split) [.ref x, a, b, d] []) ?_
  unfold callMarked
  refine Calls.wpAny_keep (wpAny_call (codeAny_mono hcall fun r s' hr => ?_))
  cases r with
  | error e => exact hr
  | ok fl => cases fl <;> first | exact hr.elim | exact wpAny_bind (wpAny_holding (wpAny_point (wpAny_pure hr)))

inductive StrSliceP (F : Fx) (Q : Value → Shared → Prop) (o vl vu : Value) (s₃ : Shared) : Prop
  | mk (x : Str) (t : Tok) (l u : Option (Int × Tok)) (g : View) (ms : List (Addr × Thing)) (e1 : o = .str x t) (e2 : vl = partValue l) (e3 : vu = partValue u) (hb : x.length ≤ 2 ^ 20) (Z : St F g ms s₃)
      (k : ∀ t' s', St F g ms s' → Q (.str (Txt.slice x (l.map (·.1)) (u.map (·.1))) t') s') : StrSliceP F Q o vl vu s₃
theorem r_strslice {value : Expr} {lower upper : Option Expr} {p pos : Pos} {Q : Value → Shared → Prop}
    (h : wpAny (model prog w) A (eval value env) (fun o s₁ => wpAny (model prog w) A (evalPart lower env) (fun vl s₂ => wpAny (model prog w) A (evalPart upper env) (StrSliceP F Q o vl) E s₂) E s₁) E s)
    (ht : ∀ o r, letTemporaryGo value o r = pure () := by intro _ _; rfl) :
    wpAny (model prog w) A (eval (.Subscript value (.Slice lower upper none p) pos) env) Q E s := by
  refine wpAny_Subscript_str_slice (wpAny_mono h (fun o s₁ h₁ => wpAny_mono h₁ (fun vl s₂ h₂ => wpAny_mono h₂ (fun vu s₃ h₃ => ?_) fun _ _ e => e) fun _ _ e => e) fun _ _ e => e) ht
  obtain ⟨x, t, l, u, g, ms, rfl, rfl, rfl, hb, Z, k⟩ := h₃
  refine ⟨x, t, l, u, rfl, rfl, rfl, ?_⟩
  have Z1 := (Z.allocI (o := { cls := .type "slice", data := .fields #[partValue l, partValue u, .none] }) rfl).2
  have Z2 : St F g ms { s₃ with heap := s₃.heap.push { cls := .type "slice", data := .fields #[partValue l, partValue u, .none] } } :=
    ⟨Z1.os, Z1.gens, Z1.sz, Z1.kp, Z.dat.push _, fun p hp => ⟨(Z1.now p hp).1, (Z.now p hp).2⟩, Z.nd⟩
  have hs : ∀ lo hi, (Txt.slice x lo hi).length ≤ sizeLine := fun lo hi => Nat.le_trans (Txt.slice_le x lo hi) (by rw [sizeLine_eq]; lia)
  rcases l with _ | ⟨i, ui⟩ <;> rcases u with _ | ⟨j, uj⟩ <;> exact post_val_or_str ⟨hs _ _, fun t' k' => k _ _ (Z2.toks _)⟩

theorem slice_to (x : List Nat) (i : Nat) (h : i ≤ x.length) : Txt.slice (S x) none (some (i : Int)) = S (x.take i) := by
  have := beq_iff_eq.mp (slice_closes_toL (x := S x) (j := (i : Int)) (by lia) (by rw [S_len]; lia))
  rw [this]; simp [S]
theorem slice_from (x : List Nat) (i : Nat) (h : i ≤ x.length) : Txt.slice (S x) (some (i : Int)) none = S (x.drop i) := by
  have := slice_from_eq (x := S x) (i := (i : Int)) (b := (x.length : Int)) (by lia) (by rw [S_len]; lia) (by rw [S_len])
  rw [this]
  simp only [S, List.toList_toArray, Int.toNat_natCast]
  rw [List.take_of_length_le (by simp)]

theorem cnt_signs : ∀ {sg : List Nat}, (∀ c ∈ sg, 2 ≤ c ∧ c < 128) → cnt 0 sg = 0
  | [], _ => rfl
  | c :: sg, h => by
    rw [cnt_cons, cnt_signs fun c hc => h c (.tail _ hc), if_neg (by have := h c (.head _); lia)]; rfl
theorem cnt_text : ∀ {l : List Stretch}, (∀ x ∈ l, GoodSt x) → ((textOf l).length : Int) - cnt 0 (textOf l) * 3 = (lenOf l : Int)
  | [], _ => by simp [textOf, lenOf, cnt_nil]
  | (m, sg) :: r, h => by
    have h0 := h (m, sg) (.head _)
    have ih := cnt_text (l := r) fun x hx => h x (.tail _ hx)
    have hs := cnt_signs h0.2.2
    simp only [] at hs
    rcases h0.1 with hm | ⟨c, hm, hc⟩
    · have hm' : m = [] := hm
      subst hm'
      have e : textOf (([], sg) :: r) = sg ++ textOf r := by simp [textOf]
      rw [e, cnt_append, hs, List.length_append]
      simp only [lenOf]; lia
    · have hm' : m = [c] := hm
      subst hm'
      have e : textOf (([c], sg) :: r) = [0, c] ++ (sg ++ ([1] ++ textOf r)) := by simp [textOf]
      rw [e, cnt_append, cnt_append, cnt_append, hs]
      have e1 : cnt 0 [0, c] = 1 := by rw [cnt_cons, cnt_cons, cnt_nil, if_pos rfl, if_neg (by lia)]; rfl
      have e2 : cnt 0 [1] = 0 := by rw [cnt_cons, cnt_nil, if_neg (by lia)]; rfl
      rw [e1, e2]
      simp only [List.length_append, List.length_cons, List.length_nil, lenOf]; lia

theorem r_count {x : Str} {xs : List Nat} {e : Expr} {t : Tok} {p apos pos : Pos} {Q : Value → Shared → Prop} (Z : St F g ((env.locals, .vars vs) :: ms) s) (hv : vs.lookup x = some (.str (S xs) t))
    (h : ∀ s₀, St F g ((env.locals, .vars vs) :: ms) s₀ → wpAny (model prog w) A (eval e env) (fun v s₁ => ∃ u, v = .str (S [0]) u ∧ St F g ((env.locals, .vars vs) :: ms) s₁ ∧ ∀ t s₂, St F g ((env.locals, .vars vs) :: ms) s₂ → Q (.int (cnt 0 xs) t) s₂) E s₀)
    (hk : env.scope.kind = .function := by rfl) (hl : env.kindOf x = some .local := by rfl) (hd : (x == ("__debug__" : Str)) = false := by decide)
    (hbase : attributeBase (.Name x p) "count" env (eval (.Name x p) env) = eval (.Name x p) env := by rfl)
    (hfew : ((backTo pos (starEach [e] env)).all (fun x => !x.1) && (backToKw pos (keywordEach [] env)).all (fun x => x.1.isSome)
      && decide (([e] : List Expr).length + ([] : List Keyword).length + (if ([] : List Keyword).isEmpty then 0 else 1) < 30)) = true := by rfl)
    (hline : (apos.endLine == pos.line) = true := by rfl)
    (htrees : backTo pos (starEach [e] env) = [(false, eval e env)] := by rfl) :
    wpAny (model prog w) A (eval (.Call (.Attribute (.Name x p) "count" apos) [e] [] pos) env) Q E s := by
  refine wpAny_Call_method hbase hfew hline PySem.F.plainAttrs_str PySem.F.slot_str_count PySem.F.type_str_count (r_ld Z hv ⟨typeIs_str _ _ _, (fun _ e => nomatch e), ?_⟩ hk hl hd)
  rw [htrees]
  refine Calls.callWith_builtin rfl (Calls.evalArgs_plain (Calls.spliced_cons (wpAny_mono (h _ Z) (fun v s₂ h₂ => Calls.spliced_nil ?_) fun _ _ e => e)))
  obtain ⟨u, rfl, Z, k⟩ := h₂
  refine PySem.SC.count ?_
  have e : Txt.count (S xs) (S [0]) = cnt 0 xs := by
    rw [show S [0] = (⟨#[0]⟩ : Str) from rfl, count_cnt]; simp [S]
  rw [e]
  exact k _ _ (Z.toks _)
end
end Mine
end

section
open PySem PySem.W PyProof.Rows
namespace Mine

def but (a : Addr) (g : View) : View := fun b => if b = a then none else g b
theorem but_le (a : Addr) (g : View) : Le (but a g) g := fun b o e => by unfold but at e; split at e; cases e; exact e
theorem but_self (a : Addr) (g : View) : but a g a = none := by simp [but]
theorem le_but {a : Addr} {g k : View} (h : Le g k) (n : g a = none) : Le g (but a k) := fun b o e => by
  unfold but
  rw [if_neg fun q => by rw [q, n] at e; cases e]; exact h _ _ e

section
variable {prog : Program} {w : World} {A : Around} {E : Value → Shared → Prop} {env : Env} {F : Fx} {g : View} {ms : List (Addr × Thing)} {s : Shared} {vs : List (Str × Value)}

theorem r_callL {DL : Addr} {th : Thing} {f : Addr} {nm qual : Str} {d : Stmt} {dflt : Value} {args : Args} {binds : List (Str × Value)} {R : Result → Shared → Prop} {g : View}
    (X : FnAt s.heap f nm qual d dflt) (hlim : s.heap.NoLimit) (hroom : A.depth < recursionLimit) (hg : Le g s.heap.get?) (hO : Own s.heap DL th) (hgL : g DL = none)
    (hbind : ∀ doc pm cd ct an, BindsTo s (mkFd nm qual d dflt doc pm cd ct an) args binds)
    (h : ∀ F doc pm cd ct an A' s₁, F.n = s.heap.objs.size → F.k = but DL s.heap.get? → F.os = s.os → F.gens = s.gens → A'.handled = A.handled → A'.depth = A.depth + 1 → A'.units = A.units + 3 → St F g [(F.n, .vars binds.reverse), (DL, th)] s₁ →
      wpAny (model prog w) A' (execs (defBody d) (callEnv (mkFd nm qual d dflt doc pm cd ct an) F.n f)) (fun fl s' => R (.ok (.ret (match fl with | .ret v => v | _ => .none))) s') (fun _ _ => False) s₁)
    (hcell : ((defScope d).names.all fun x => x.2 != .cell) = true := by rfl) (hloc : (binds.map (·.1)).all (fun x => (defScope d).names.lookup x == some .local) = true := by rfl)
    (hco : (defScope d).isCoroutine = false := by rfl) (hgen : (defScope d).isGenerator = false := by rfl) (hk : (defScope d).kind = .function := by rfl) :
    codeAny (model prog w) A (.call (.ref f) args) R s := by
  refine r_call X hlim hroom hg hbind (fun F doc pm cd ct an A' s₁ f1 f2 f3 f4 a1 a2 a3 Z => ?_) hcell hloc hco hgen hk
  have hlt := hO.lt
  refine h ⟨F.n, but DL s.heap.get?, F.os, F.gens⟩ doc pm cd ct an A' s₁ f1 rfl f3 f4 a1 a2 a3 ?_
  refine ⟨Z.os, Z.gens, Z.sz, (but_le _ _).trans (f2 ▸ Z.kp), Z.dat, fun p hp => ?_, ?_⟩
  · rcases List.mem_cons.mp hp with rfl | hp
    · have z := Z.now _ (.head _)
      refine ⟨z.1, z.2.1, ?_⟩
      have := z.2.2
      rw [f2] at this
      show but DL s.heap.get? F.n = none
      unfold but; split
      · rfl
      · exact this
    · rw [List.mem_singleton.mp hp]
      obtain ⟨o, e, t⟩ := hO
      exact ⟨⟨o, Z.kp _ _ (f2 ▸ e), t⟩, hgL, but_self _ _⟩
  · simp only [List.map_cons, List.map_nil, List.nodup_cons, List.mem_singleton, List.not_mem_nil, not_false_eq_true, List.nodup_nil, and_true]
    intro q
    have q' : s.heap.objs.size = DL := f1.symm.trans q
    rw [← q'] at hlt
    exact Nat.lt_irrefl _ hlt

abbrev envSp (doc pm cd ct : Value) (an : Option Addr) (L f : Addr) : Env := callEnv (mkFd "_split_line" "HtmlDiff._split_line" dSplit .none doc pm cd ct an) L f
abbrev sv0 (txt : List Nat) (tt : Tok) (ts : Tok) (c : Nat) (tc : Tok) (DL : Addr) (nv : Value) (x : Addr) : List (Str × Value) :=
  [("text", .str (S txt) tt), ("size", .int (txt.length : Int) ts), ("max", .int (c : Int) tc), ("data_list", .ref DL), ("line_num", nv), ("self", .ref x)]
abbrev sv1 (i : Nat) (ti : Tok) (n : Nat) (tn : Tok) (mk : List Nat) (tm : Tok) (txt : List Nat) (tt : Tok) (ts : Tok) (c : Nat) (tc : Tok) (DL : Addr) (nv : Value) (x : Addr) : List (Str × Value) :=
  ("i", .int (i : Int) ti) :: ("n", .int (n : Int) tn) :: ("mark", .str (S mk) tm) :: sv0 txt tt ts c tc DL nv x
def spWhile : Stmt := (defBody dSplit).getD 7 (.Pass default)

theorem drop_cons {l : List Nat} {i : Nat} (h : i < l.length) : l.drop i = l[i] :: l.drop (i + 1) := List.drop_eq_getElem_cons h

inductive SpJ (F : Fx) (g : View) (ms : List (Addr × Thing)) (txt : List Nat) (tt ts : Tok) (c : Nat) (tc : Tok) (DL : Addr) (nv : Value) (x : Addr) (m : Nat) (s' : Shared) : Prop
  | mk (i n : Nat) (mark : List Nat) (ti tn tm : Tok) (hm : m = txt.length - i) (hi : i ≤ txt.length) (hw : Wf (txt.drop i)) (e1 : i + (scan c n mark (txt.drop i)).1 = (scan c 0 [] txt).1) (e2 : (scan c n mark (txt.drop i)).2 = (scan c 0 [] txt).2)
      (Z : St F g ((F.n, .vars (sv1 i ti n tn mark tm txt tt ts c tc DL nv x)) :: ms) s') : SpJ F g ms txt tt ts c tc DL nv x m s'

theorem sp_while {doc pm cd ct : Value} {an : Option Addr} {f x DL : Addr} {nv : Value} {txt : List Nat} {tt ts tc ti tn tm : Tok} {c : Nat} (hb : txt.length ≤ 2 ^ 19) (hwf : Wf txt)
    (Z : St F g ((F.n, .vars (sv1 0 ti 0 tn [] tm txt tt ts c tc DL nv x)) :: ms) s) {Q : Flow → Shared → Prop}
    (hK : ∀ n ti tn tm s', St F g ((F.n, .vars (sv1 (scan c 0 [] txt).1 ti n tn (scan c 0 [] txt).2 tm txt tt ts c tc DL nv x)) :: ms) s' → Q .next s') :
    wpAny (model prog w) A (exec spWhile (envSp doc pm cd ct an F.n f)) Q (fun _ _ => False) s := by
  refine wpAny_While (codeAny_whileLoop (SpJ F g ms txt tt ts c tc DL nv x) ?_ txt.length ⟨0, 0, [], ti, tn, tm, rfl, Nat.zero_le _, hwf, by simp, by simp, Z⟩)
  rintro m s₁ ⟨i, n, mark, ti, tn, tm, rfl, hi, hw, e1, e2, Z⟩
  refine isTrue_and (wpAny_isTrue_Compare1 (r_ld Z rfl (r_ld Z rfl (PyProof.Rows.lt_int (wpAny_truthy_bool ?_)))))
  refine split_dec (fun q1 => ?_) fun q1 => ?_
  rotate_left
  · simp only [Bool.false_eq_true, if_false]
    have := scan_stop (c := c) (n := n) (mark := mark) (r := txt.drop i) (by lia)
    rw [this] at e1 e2
    refine wpAny_execs_nil (hK n ti tn tm _ ?_)
    rw [← e1, ← e2]; exact Z
  refine isTrue_and (wpAny_isTrue_Compare1 (r_ld Z rfl (r_ld Z rfl (PyProof.Rows.lt_int (wpAny_truthy_bool ?_)))))
  refine split_dec (fun q2 => ?_) fun q2 => ?_
  rotate_left
  · simp only [Bool.false_eq_true, if_false]
    have : txt.drop i = [] := List.drop_eq_nil_of_le (by lia)
    rw [this] at e1 e2
    simp only [scan] at e1 e2
    refine wpAny_execs_nil (hK n ti tn tm _ ?_)
    rw [← e1, ← e2]; exact Z
  refine isTrue_and_nil ?_
  simp only [if_true]
  have q1' : n < c := by lia
  have q2' : i < txt.length := by lia
  have hd := drop_cons q2'
  rw [hd] at e1 e2 hw
  have hget : txt[i]? = some txt[i] := List.getElem?_eq_getElem q2'
  refine wpAny_execs_cons (wpAny_If (wpAny_isTrue_Compare1 (Subscript_ (r_ld Z rfl (r_ld Z rfl (r_stritem Z (by lia) hget fun t3 s₂ Z => ?_))))))
  refine r_str Z fun t4 s₃ Z => eq_str (wpAny_truthy_bool ?_)
  rw [S_0, S_beq]
  refine split_bool (fun q3 => ?_) fun q3 => ?_
  · have hx : txt[i] = 0 := by simpa using q3
    rw [hx] at e1 e2 hw
    obtain ⟨y, ys, hys, hwy⟩ : ∃ y ys, txt.drop (i + 1) = y :: ys ∧ Wf ys := by
      generalize txt.drop (i + 1) = z at hw
      cases hw with
      | mark h => exact ⟨_, _, rfl, h⟩
      | other h _ => exact absurd rfl h
    have hl2 : i + 1 < txt.length := by
      have := congrArg List.length hys
      simp at this; lia
    have hd2 := drop_cons hl2
    rw [hd2] at hys
    injection hys with hy1 hy2
    subst hy1; subst hy2
    rw [hd2] at e1 e2
    simp only [scan, q1', if_true] at e1 e2
    refine r_seqA (fun K => ∀ ti s', St F g ((F.n, .vars (sv1 (i + 1) ti n tn mark tm txt tt ts c tc DL nv x)) :: ms) s' → K s') (fun K kc => ?_) ?_
    · refine wpAny_AugAssign_Name (r_load Z rfl (r_int Z fun t s₂ Z => iadd_int ?_))
      refine r_store (Z.toks _) fun s₃ Z => ⟨rfl, kc _ _ (Z.weak ⟨rfl, rfl, rfl, rfl, rfl, rfl, rfl, rfl, rfl, trivial⟩)⟩
    intro ti s₄ Z
    have hget2 : txt[i + 1]? = some txt[i + 1] := List.getElem?_eq_getElem hl2
    refine r_seqA (fun K => ∀ tm s', St F g ((F.n, .vars (sv1 (i + 1) ti n tn [txt[i + 1]] tm txt tt ts c tc DL nv x)) :: ms) s' → K s') (fun K kc => ?_) ?_
    · refine wpAny_Assign_Name (Subscript_ (r_ld Z rfl (r_ld Z rfl (r_stritem Z (by lia) hget2 fun t3 s₂ Z => ?_))))
      refine r_store Z fun s₃ Z => ⟨rfl, kc _ _ (Z.weak ⟨rfl, rfl, rfl, rfl, rfl, rfl, rfl, rfl, rfl, trivial⟩)⟩
    intro tm s₅ Z
    refine wpAny_execs_cons (wpAny_AugAssign_Name (r_load Z rfl (r_int Z fun t s₂ Z => iadd_int ?_)))
    refine r_store (Z.toks _) fun s₃ Z => wpAny_execs_nil (wpAny_execs_nil ?_)
    refine ⟨txt.length - (i + 2), by lia, i + 2, n, [txt[i + 1]], _, tn, tm, rfl, by lia, hwy, ?_, e2, by exact Z.weak ⟨rfl, rfl, rfl, rfl, rfl, rfl, rfl, rfl, rfl, trivial⟩⟩
    rw [← e1]
    show i + 2 + (scan c n [txt[i + 1]] (txt.drop (i + 1 + 1))).1 = _
    lia
  · have hx : txt[i] ≠ 0 := by simpa using q3
    have hw' : Wf (txt.drop (i + 1)) := by
      generalize txt.drop (i + 1) = z at hw
      generalize txt[i] = u at hw hx
      cases hw with
      | mark h => exact absurd rfl hx
      | other _ h => exact h
    refine wpAny_execs_cons (wpAny_If (wpAny_isTrue_Compare1 (Subscript_ (r_ld Z rfl (r_ld Z rfl (r_stritem Z (by lia) hget fun t3 s₂ Z => ?_))))))
    refine r_str Z fun t4 s₃ Z => eq_str (wpAny_truthy_bool ?_)
    rw [S_1, S_beq]
    refine split_bool (fun q4 => ?_) fun q4 => ?_
    · have hx1 : txt[i] = 1 := by simpa using q4
      have es : scan c n mark (txt[i] :: txt.drop (i + 1)) = ((scan c n [] (txt.drop (i + 1))).1 + 1, (scan c n [] (txt.drop (i + 1))).2) := by
        conv => lhs; unfold scan
        rw [if_pos q1', if_neg hx, if_pos hx1]
      rw [es] at e1 e2
      refine r_seqA (fun K => ∀ ti s', St F g ((F.n, .vars (sv1 (i + 1) ti n tn mark tm txt tt ts c tc DL nv x)) :: ms) s' → K s') (fun K kc => ?_) ?_
      · refine wpAny_AugAssign_Name (r_load Z rfl (r_int Z fun t s₂ Z => iadd_int ?_))
        refine r_store (Z.toks _) fun s₃ Z => ⟨rfl, kc _ _ (Z.weak ⟨rfl, rfl, rfl, rfl, rfl, rfl, rfl, rfl, rfl, trivial⟩)⟩
      intro ti s₄ Z
      refine wpAny_execs_cons (wpAny_Assign_Name (r_str Z fun t5 s₅ Z => r_store Z fun s₃ Z => wpAny_execs_nil (wpAny_execs_nil (wpAny_execs_nil ?_))))
      rw [S_empty] at Z
      refine ⟨txt.length - (i + 1), by lia, i + 1, n, [], ti, tn, _, rfl, by lia, hw', ?_, e2, by exact Z.weak ⟨rfl, rfl, rfl, rfl, rfl, rfl, rfl, rfl, rfl, trivial⟩⟩
      rw [← e1]
      show i + 1 + (scan c n [] (txt.drop (i + 1))).1 = i + ((scan c n [] (txt.drop (i + 1))).1 + 1)
      lia
    · have hx1 : txt[i] ≠ 1 := by simpa using q4
      have es : scan c n mark (txt[i] :: txt.drop (i + 1)) = ((scan c (n + 1) mark (txt.drop (i + 1))).1 + 1, (scan c (n + 1) mark (txt.drop (i + 1))).2) := by
        conv => lhs; unfold scan
        rw [if_pos q1', if_neg hx, if_neg hx1]
      rw [es] at e1 e2
      refine r_seqA (fun K => ∀ ti s', St F g ((F.n, .vars (sv1 (i + 1) ti n tn mark tm txt tt ts c tc DL nv x)) :: ms) s' → K s') (fun K kc => ?_) ?_
      · refine wpAny_AugAssign_Name (r_load Z rfl (r_int Z fun t s₂ Z => iadd_int ?_))
        refine r_store (Z.toks _) fun s₃ Z => ⟨rfl, kc _ _ (Z.weak ⟨rfl, rfl, rfl, rfl, rfl, rfl, rfl, rfl, rfl, trivial⟩)⟩
      intro ti s₄ Z
      refine wpAny_execs_cons (wpAny_AugAssign_Name (r_load Z rfl (r_int Z fun t s₂ Z => iadd_int ?_)))
      refine r_store (Z.toks _) fun s₃ Z => wpAny_execs_nil (wpAny_execs_nil (wpAny_execs_nil ?_))
      refine ⟨txt.length - (i + 1), by lia, i + 1, n + 1, mark, ti, _, tm, rfl, by lia, hw', ?_, e2, by exact Z.weak ⟨rfl, rfl, rfl, rfl, rfl, rfl, rfl, rfl, rfl, trivial⟩⟩
      rw [← e1]
      show i + 1 + (scan c (n + 1) mark (txt.drop (i + 1))).1 = i + ((scan c (n + 1) mark (txt.drop (i + 1))).1 + 1)
      lia
end
end Mine
end

section
open PySem PySem.W PyProof.Rows
namespace Mine

structure Base (B : View) (K : Frag) (D : Ad) (D2 : Ad2) : Prop where
  txt : ∀ h : Heap, Le B h.get? → Txt D h
  ctxt : ∀ h : Heap, Le B h.get? → CTxt K D D2 h

theorem count_wt {l : List Stretch} (hg : ∀ x ∈ l, GoodSt x) {n : Nat} (hn : l.length ≤ n) : (textOf l).length ≤ 7 * n := by
  have := text_wt l; have := good_wt hg; lia

theorem lenOf_text : ∀ l : List Stretch, lenOf l ≤ (textOf l).length
  | [] => by simp [lenOf]
  | (m, sg) :: r => by
    have ih := lenOf_text r
    simp only [lenOf, textOf, List.length_append]
    split
    · lia
    · simp only [List.length_append, List.length_cons, List.length_nil]; lia
theorem S_isEmpty (m : List Nat) : m = [] ∨ m ≠ [] := by cases m <;> simp

def SplitPost (s : Shared) (g : View) (DL : Addr) (its : List Value) (out : List Side) (R : Result → Shared → Prop) : Prop :=
  ∀ s' g' its', s'.os = s.os → s'.gens = s.gens → s.heap.objs.size ≤ s'.heap.objs.size → Le (but DL s.heap.get?) s'.heap.get? → Up s.heap.objs.size g g' → Le g' s'.heap.get? → g' DL = none →
    Own s'.heap DL (.list (its ++ its')) → All2 (SideAt g') its' out → R (.ok (.ret .none)) s'

section
variable {prog : Program} {w : World} {B : View} {K : Frag} {D : Ad} {D2 : Ad2}

theorem r_truthyStr {A : Around} {E : Value → Shared → Prop} {F : Fx} {g : View} {ms : List (Addr × Thing)} {s : Shared} {m : List Nat} {t : Tok} {Q : Bool → Shared → Prop} (Z : St F g ms s) (hs : m.length ≤ 2 ^ 20) (h : ∀ s', St F g ms s' → Q (decide (m ≠ [])) s') : wpAny (model prog w) A (truthy (.str (S m) t)) Q E s := by
  refine PySem.P.truthy_str (by rw [S_len]; lia) ?_
  have hb : (((S m).length : Int) != 0) = decide (m ≠ []) := by
    rw [S_len, Bool.eq_iff_iff]; simp
  rw [hb]; exact h _ (Z.toks _)

theorem split_spec (hB : Base B K D D2) (c : Nat) (hc : 0 < c) (x DL : Addr) (hBL : B DL = none) (N : Nat) : ∀ (st : List Stretch) (n : Num) (nv : Value) (t : Tok) (its : List Value) (A : Around) (R : Result → Shared → Prop) (g : View) (s : Shared),
    lenOf st < N → A.depth + N + 1 < recursionLimit → A.handled = none → Le B s.heap.get? → Le g s.heap.get? → g DL = none → Own s.heap DL (.list its) → InstG D.html g x c → NumV n nv → n.short → (∀ x ∈ st, GoodSt x) → st.length ≤ 1000 →
    its.length + N ≤ 1000 → SplitPost s g DL its (splitSide c (n, st)) R →
    codeAny (model prog w) A (.call (.ref D2.split) ⟨[.ref x, .ref DL, nv, .str (S (textOf st)) t], []⟩) R s := by
  induction N with
  | zero => intro st n nv t its A R g s hN; lia
  | succ N ih =>
  intro st n nv t its A R g s hN hroom hh hBs hg hgL hO hI Xn hn hgood hlen hits h
  refine r_callL (g := g) (binds := [("self", .ref x), ("data_list", .ref DL), ("line_num", nv), ("text", .str (S (textOf st)) t)]) (hB.ctxt _ hBs).fnSplit (hB.txt _ hBs).lim (by lia) hg hO hgL (fun doc pm cd ct an => BindsTo.of_eq rfl)
    (fun F doc pm cd ct an A' s₁ f1 f2 f3 f4 a1 a2 a3 Z => ?_)
  replace hh : A'.handled = none := a1.trans hh
  have hBk : Le B F.k := f2 ▸ le_but hBs hBL
  have TT : ∀ {g ms s'}, St F g ms s' → Txt D s'.heap := fun Z => hB.txt _ (hBk.trans Z.kp)
  have CC : ∀ {g ms s'}, St F g ms s' → CTxt K D D2 s'.heap := fun Z => hB.ctxt _ (hBk.trans Z.kp)
  have htl := count_wt hgood hlen
  -- the plain end
  have fin : ∀ {vs : List (Str × Value)} {s₂ v g'}, Up F.n g g' → TupAt g' v [nv, .str (S (textOf st)) t] → splitSide c (n, st) = [(n, st)] → St F g' [(F.n, .vars vs), (DL, .list (its ++ [v]))] s₂ → R (.ok (.ret .none)) s₂ := by
    intro vs s₂ v g' U X e Z
    refine h s₂ g' [v] (Z.os.trans f3) (Z.gens.trans f4) (f1 ▸ Z.sz) (f2 ▸ Z.kp) (f1 ▸ U) Z.dat (Z.now (DL, .list (its ++ [v])) (by simp)).2.1 (Z.own 1 rfl) ?_
    rw [e]
    exact .cons ⟨nv, t, Xn, X⟩ .nil
  change St F g [(F.n, .vars [("text", .str (S (textOf st)) t), ("line_num", nv), ("data_list", .ref DL), ("self", .ref x)]), (DL, .list its)] s₁ at Z
  refine wpAny_execs_cons (wpAny_If (isTrue_not (isTrue_plain (r_ld Z rfl (r_truthyNum Z Xn hn fun s₂ Z => ?_)))))
  cases htr : n.tr with
  | false =>
    simp only [Bool.not_false, if_true]
    refine wpAny_execs_cons (r_appendS (F := F) (r_ld Z rfl ⟨DL, _, rfl, Z.own 1 rfl, r_tuple2 (r_ld Z rfl (r_ld Z rfl (r_newTuple Z (by simp) fun v g' s₃ U X Z => ⟨g', _, 1, _, Z, rfl, by lia, fun s₄ Z => ?_⟩)))⟩))
    refine wpAny_execs_cons (wpAny_Return_none ?_)
    exact fin U X (by simp [splitSide, htr]) Z
  | true =>
    simp only [Bool.not_true, Bool.false_eq_true, if_false]
    refine wpAny_execs_nil ?_
    refine r_seqA (φ := fun Kc => ∀ ts s', St F g [(F.n, .vars (("size", .int ((textOf st).length : Int) ts) :: [("text", .str (S (textOf st)) t), ("line_num", nv), ("data_list", .ref DL), ("self", .ref x)])), (DL, .list its)] s' → Kc s') ?_ ?_
    · intro Kc kc
      refine wpAny_Assign_Name (r_b1 (TT Z).nLen (r_ld Z rfl (r_len_str Z (by lia) fun ts s₃ Z => r_store Z fun s₄ Z => ⟨rfl, kc ts _ Z⟩)))
    rintro ts s₃ Z
    refine r_seqA (φ := fun Kc => ∀ tc s', St F g [(F.n, .vars (sv0 (textOf st) t ts c tc DL nv x)), (DL, .list its)] s' → Kc s') ?_ ?_
    · intro Kc kc
      refine wpAny_Assign_Name (Attribute_name (r_ld Z rfl (r_wrapcol Z (CC Z) (hI.mono Z.dat) fun tc s₄ Z => r_store Z fun s₅ Z => ⟨rfl, kc tc _ (Z.weak ⟨rfl, rfl, rfl, rfl, rfl, rfl, trivial⟩)⟩)))
    rintro tc s₄ Z
    have hcnt := cnt_text hgood
    -- the test
    refine wpAny_execs_cons (wpAny_If (wpAny_mono (Q := fun b s' => b = decide (lenOf st ≤ c) ∧ St F g [(F.n, .vars (sv0 (textOf st) t ts c tc DL nv x)), (DL, .list its)] s') ?_ (fun b s₅ h₅ => ?_) fun _ _ e => e))
    · refine isTrue_or (wpAny_isTrue_Compare1 (r_ld Z rfl (r_ld Z rfl (PyProof.Rows.le_int (wpAny_truthy_bool ?_)))))
      refine split_dec (fun q => ?_) fun q => ?_
      · refine ⟨(decide_eq_true ?_).symm, Z⟩
        have := lenOf_text st
        lia
      refine isTrue_or (wpAny_isTrue_Compare1 (wpAny_BinOp (r_ld Z rfl (wpAny_BinOp (r_count Z rfl fun s₀ Z => r_str Z fun u s₅ Z => ⟨u, by rw [S_0], Z, fun t6 s₆ Z => r_int Z fun t7 s₇ Z => mul_int ?_⟩)))))
      refine sub_int (r_ld ((Z.toks _).toks _) rfl (PyProof.Rows.le_int (wpAny_truthy_bool ?_)))
      rw [hcnt]
      refine split_dec (fun q => ?_) fun q => ?_
      · exact ⟨(decide_eq_true (by lia)).symm, (Z.toks _).toks _⟩
      · exact isTrue_or_nil ⟨(decide_eq_false (by lia)).symm, (Z.toks _).toks _⟩
    obtain ⟨rfl, Z⟩ := h₅
    refine split_dec (fun hle => ?_) fun hle => ?_
    · refine wpAny_execs_cons (r_appendS (F := F) (r_ld Z rfl ⟨DL, _, rfl, Z.own 1 rfl, r_tuple2 (r_ld Z rfl (r_ld Z rfl (r_newTuple Z (by simp) fun v g' s₃ U X Z => ⟨g', _, 1, _, Z, rfl, by lia, fun s₄ Z => ?_⟩)))⟩))
      refine wpAny_execs_cons (wpAny_Return_none ?_)
      exact fin U X (by simp [splitSide, htr, wrap, hle, nums]) Z
    refine wpAny_execs_nil ?_
    refine r_seqA (φ := fun Kc => ∀ ti s', St F g [(F.n, .vars (("i", .int ((0 : Nat) : Int) ti) :: sv0 (textOf st) t ts c tc DL nv x)), (DL, .list its)] s' → Kc s') ?_ ?_
    · intro Kc kc
      refine wpAny_Assign_Name (r_int Z fun t s₅ Z => r_store Z fun s₆ Z => ⟨rfl, kc _ _ Z⟩)
    rintro ti s₆ Z
    refine r_seqA (φ := fun Kc => ∀ ti tn s', St F g [(F.n, .vars (("i", .int ((0 : Nat) : Int) ti) :: ("n", .int ((0 : Nat) : Int) tn) :: sv0 (textOf st) t ts c tc DL nv x)), (DL, .list its)] s' → Kc s') ?_ ?_
    · intro Kc kc
      refine wpAny_Assign_Name (r_int Z fun t s₅ Z => r_store Z fun s₆ Z => ⟨rfl, kc _ _ _ (Z.weak ⟨rfl, rfl, rfl, rfl, rfl, rfl, rfl, rfl, trivial⟩)⟩)
    rintro ti tn s₇ Z
    refine r_seqA (φ := fun Kc => ∀ ti tn tm s', St F g [(F.n, .vars (sv1 0 ti 0 tn [] tm (textOf st) t ts c tc DL nv x)), (DL, .list its)] s' → Kc s') ?_ ?_
    · intro Kc kc
      refine wpAny_Assign_Name (r_str Z fun t' s₅ Z => r_store Z fun s₆ Z => ⟨rfl, kc ti tn t' _ ?_⟩)
      rw [S_empty] at Z
      exact Z.weak ⟨rfl, rfl, rfl, rfl, rfl, rfl, rfl, rfl, rfl, trivial⟩
    rintro ti tn tm s₈ Z
    refine r_seqA (fun K => ∀ n ti tn tm s', St F g [(F.n, .vars (sv1 (scan c 0 [] (textOf st)).1 ti n tn (scan c 0 [] (textOf st)).2 tm (textOf st) t ts c tc DL nv x)), (DL, .list its)] s' → K s') (fun K kc => ?_) ?_
    · exact sp_while (by lia) (wf_text hgood) Z fun n ti tn tm s' Z => ⟨rfl, kc n ti tn tm s' Z⟩
    intro n' ti tn tm s₉ Z
    have hle' : c < lenOf st := by lia
    obtain ⟨k1, k2, k3, k4⟩ := scan_cut c st 0 hgood hc (by lia)
    rw [Nat.sub_zero] at k1 k2
    have hcl := cut_len c st (by lia)
    have hcg := cut_good c st hgood
    have hcc := cut_count c st
    generalize hi : (scan c 0 [] (textOf st)).1 = i at *
    generalize hm : (scan c 0 [] (textOf st)).2 = m at *
    refine r_seqA (φ := fun Kc => ∀ t1 s', St F g [(F.n, .vars (("line1", .str (S ((textOf st).take i)) t1) :: sv1 i ti n' tn m tm (textOf st) t ts c tc DL nv x)), (DL, .list its)] s' → Kc s') ?_ ?_
    · intro Kc kc
      refine wpAny_Assign_Name (r_strslice (F := F) (r_ld Z rfl (wpAny_evalPart_none (wpAny_evalPart_some (r_ld Z rfl ⟨S (textOf st), t, none, some ((i : Int), ti), g, _, rfl, rfl, rfl, by rw [S_len]; lia, Z, fun t1 s₁₀ Z => ?_⟩)))))
      refine r_store Z fun s₁₁ Z => ⟨rfl, kc t1 _ ?_⟩
      simp only [Option.map_none, Option.map_some] at Z
      rw [slice_to _ _ k3] at Z
      exact Z
    rintro t1 s₁₀ Z
    refine r_seqA (φ := fun Kc => ∀ t2 s', St F g [(F.n, .vars (("line1", .str (S ((textOf st).take i)) t1) :: ("line2", .str (S ((textOf st).drop i)) t2) :: sv1 i ti n' tn m tm (textOf st) t ts c tc DL nv x)), (DL, .list its)] s' → Kc s') ?_ ?_
    · intro Kc kc
      refine wpAny_Assign_Name (r_strslice (F := F) (r_ld Z rfl (wpAny_evalPart_some (r_ld Z rfl (wpAny_evalPart_none ⟨S (textOf st), t, some ((i : Int), ti), none, g, _, rfl, rfl, rfl, by rw [S_len]; lia, Z, fun t1 s₁₀ Z => ?_⟩)))))
      refine r_store Z fun s₁₁ Z => ⟨rfl, kc t1 _ ?_⟩
      simp only [Option.map_none, Option.map_some] at Z
      rw [slice_from _ _ k3] at Z
      exact Z.weak ⟨rfl, rfl, rfl, rfl, rfl, rfl, rfl, rfl, rfl, rfl, rfl, trivial⟩
    rintro t2 s₁₁ Z
    have hml : m.length ≤ 1 := by rcases k4 with e | ⟨y, e⟩ <;> rw [e] <;> simp
    refine r_seqA (φ := fun Kc => ∀ t1 t2 s', St F g [(F.n, .vars (("line1", .str (S (textOf (cut c st).1)) t1) :: ("line2", .str (S (textOf (cut c st).2)) t2) :: sv1 i ti n' tn m tm (textOf st) t ts c tc DL nv x)), (DL, .list its)] s' → Kc s') ?_ ?_
    · intro Kc kc
      refine wpAny_If (isTrue_plain (r_ld Z rfl (r_truthyStr Z (by lia) fun s₁₂ Z => ?_)))
      refine split_dec (fun q => ?_) fun q => ?_
      · refine r_seqA (φ := fun Kc => ∀ t1 s', St F g [(F.n, .vars (("line1", .str (S (textOf (cut c st).1)) t1) :: ("line2", .str (S ((textOf st).drop i)) t2) :: sv1 i ti n' tn m tm (textOf st) t ts c tc DL nv x)), (DL, .list its)] s' → Kc s') ?_ ?_
        · intro Kc kc
          refine wpAny_Assign_Name (wpAny_BinOp (r_ld Z rfl (r_str Z fun t3 s₁₂ Z => add_str (fun t4 tk => ?_) ?_)))
          · rw [S_1, S_append]
            have e : (textOf st).take i ++ [1] = textOf (cut c st).1 := by rw [← k1]; simp [shutM, q]
            rw [e]
            exact r_store (Z.toks _) fun s₁₃ Z => ⟨rfl, kc t4 _ (Z.weak ⟨rfl, rfl, rfl, rfl, rfl, rfl, rfl, rfl, rfl, rfl, rfl, trivial⟩)⟩
          · rw [S_1, S_len, S_len, sizeLine_eq]; simp; lia
        rintro t1 s₁₂ Z
        refine wpAny_execs_cons (wpAny_Assign_Name (wpAny_BinOp (wpAny_BinOp (r_str Z fun t3 s₁₂ Z => r_ld Z rfl (add_str (fun t4 tk => ?_) ?_)))))
        · rw [S_0, S_append]
          refine r_ld (Z.toks _) rfl (add_str (fun t5 tk => ?_) ?_)
          · rw [S_append]
            have e : [0] ++ m ++ (textOf st).drop i = textOf (cut c st).2 := by rw [← k2]; simp [openM, q]
            rw [e]
            exact r_store ((Z.toks _).toks _) fun s₁₃ Z => wpAny_execs_nil ⟨rfl, kc t1 t5 _ (Z.weak ⟨rfl, rfl, rfl, rfl, rfl, rfl, rfl, rfl, rfl, rfl, rfl, trivial⟩)⟩
          · rw [S_len, S_len, sizeLine_eq]; simp; lia
        · rw [S_0, S_len, S_len, sizeLine_eq]; simp; lia
      · have q' : m = [] := by simpa using q
        refine wpAny_execs_nil ⟨rfl, kc t1 t2 _ ?_⟩
        have e1 : (textOf st).take i = textOf (cut c st).1 := by rw [← k1]; simp [shutM, q']
        have e2 : (textOf st).drop i = textOf (cut c st).2 := by rw [← k2]; simp [openM, q']
        rw [e1, e2] at Z
        exact Z
    rintro t1 t2 s₁₂ Z
    refine wpAny_execs_cons (r_appendS (F := F) (r_ld Z rfl ⟨DL, _, rfl, Z.own 1 rfl, r_tuple2 (r_ld Z rfl (r_ld Z rfl (r_newTuple Z (by simp) fun v g' s₃ U X Z => ⟨g', _, 1, _, Z, rfl, by lia, fun s₁₃ Z => ?_⟩)))⟩))
    have Z0 := Z
    refine wpAny_execs_cons (wpAny_Expr_any (r_split3 (K := K) (D := D) (D2 := D2) (r_ld Z rfl ⟨x, c, rfl, CC Z, hI.mono (U.1.trans Z.dat), r_ld Z rfl (r_str Z fun t3 s₁₄ Z => r_ld Z rfl ⟨CC Z, ?_⟩)⟩)) (by rfl) (by rfl))
    rw [S_gt]
    refine ih _ (.str [62]) _ _ _ _ _ g' _ (by lia) (by lia) hh (hBk.trans Z.kp) Z.dat (Z.now (DL, .list (its ++ [v])) (by simp)).2.1 (Z.own 1 rfl) (hI.mono U.1) ⟨t3, rfl⟩ (by show (_ : Nat) ≤ _; simp) hcg.2 (by lia) (by simp; lia) ?_
    intro s₁₅ g'' its' o1 o2 o3 o4 U' o6 o7 o8 o9
    refine wpAny_execs_nil ?_
    have hFn : F.n ≤ s₁₄.heap.objs.size := Z.sz
    have U2 : Up F.n g g'' := U.trans (U'.low hFn)
    refine h s₁₅ g'' (v :: its') (o1.trans (Z.os.trans f3)) (o2.trans (Z.gens.trans f4)) (f1 ▸ Nat.le_trans hFn o3) ?_ (f1 ▸ U2) o6 o7 ?_ ?_
    · intro a o e
      refine o4 a o ?_
      have hne : a ≠ DL := fun q => by rw [q, but_self] at e; cases e
      unfold but; rw [if_neg hne]
      exact Z.kp a o (f2 ▸ e)
    · rw [List.append_assoc] at o8; exact o8
    · have e : splitSide c (n, st) = (n, (cut c st).1) :: splitSide c (.str [62], (cut c st).2) := by
        have e1 : wrap c st = (cut c st).1 :: wrap c (cut c st).2 := by
          conv => lhs; unfold wrap
          rw [dif_neg (by lia)]
        have e2 : ∀ l : List (List Stretch), nums (.str [62]) l = l.map fun q => (.str [62], q) := fun l => by cases l <;> rfl
        show (if n.tr then nums n (wrap c st) else [(n, st)]) = (n, (cut c st).1) :: nums (.str [62]) (wrap c (cut c st).2)
        rw [if_pos htr, e1, e2]; rfl
      rw [e]
      exact .cons ((show SideAt g' v (n, (cut c st).1) from ⟨nv, t1, Xn, X⟩).mono U'.1) o9
end
end Mine
end

section
open PySem PySem.W PyProof.Rows
namespace Mine

/-! rows as they flow -/
structure RowG where
  a : Side
  b : Side
  fl : Flag
def GoodG (r : RowG) : Prop := GoodSide r.a.2 ∧ GoodSide r.b.2 ∧ r.a.1.short ∧ r.b.1.short
def RowOk (g : View) (v : Value) (r : RowG) : Prop := (∃ va vb, SideAt g va r.a ∧ SideAt g vb r.b ∧ TupAt g v [va, vb, flagV r.fl]) ∧ GoodG r
theorem RowOk.mono {g g' : View} {v r} (x : RowOk g v r) (k : Le g g') : RowOk g' v r := let ⟨⟨va, vb, h1, h2, h3⟩, h⟩ := x; ⟨⟨va, vb, h1.mono k, h2.mono k, h3.mono k⟩, h⟩
def blank : Side := (.str [], [([], [32])])
def zipPad (fl : Flag) : List Side → List Side → List RowG
  | [], [] => []
  | a :: as, [] => ⟨a, blank, fl⟩ :: zipPad fl as []
  | [], b :: bs => ⟨blank, b, fl⟩ :: zipPad fl [] bs
  | a :: as, b :: bs => ⟨a, b, fl⟩ :: zipPad fl as bs
def tr (c : Nat) (r : RowG) : List RowG := if r.fl = none then [r] else zipPad r.fl (splitSide c r.a) (splitSide c r.b)

def GK (lo hi : Nat) (x y : Array GenState) : Prop := y.size = x.size ∧ ∀ j, (j < lo ∨ hi ≤ j) → y[j]? = x[j]?
theorem GK.refl (lo hi : Nat) (x : Array GenState) : GK lo hi x x := ⟨rfl, fun _ _ => rfl⟩
theorem GK.trans {lo hi : Nat} {x y z : Array GenState} (h : GK lo hi x y) (h' : GK lo hi y z) : GK lo hi x z := ⟨h'.1.trans h.1, fun j q => (h'.2 j q).trans (h.2 j q)⟩
theorem GK.wide {lo hi lo' hi' : Nat} {x y : Array GenState} (h : GK lo hi x y) (h1 : lo' ≤ lo) (h2 : hi ≤ hi') : GK lo' hi' x y := ⟨h.1, fun j q => h.2 j (by lia)⟩

abbrev Fx.gen (F : Fx) (G : Array GenState) : Fx := ⟨F.n, F.k, F.os, G⟩

abbrev InvT := List Value → List RowG → Array GenState → View → List (Addr × Thing) → Prop
structure Src (prog : Program) (w : World) (B : View) (n₀ lo hi d : Nat) (DL : Addr) (it : Addr) (T : RowG → List RowG) (Inv : InvT) : Prop where
  next : ∀ {its rows} {A : Around} {F : Fx} {g ms os} {s : Shared} {Q : Option Value → Shared → Prop} {E : Value → Shared → Prop}, A.handled = none → A.depth + d < recursionLimit → Le B F.k → F.n ≤ n₀ → its.length ≤ 1000 → Inv its rows F.gens g os →
    St F g ((DL, .list its) :: (ms ++ os)) s →
    (rows = [] → ∀ gens' g' s', GK lo hi F.gens gens' → (∀ j, lo ≤ j → j < hi → gens'[j]? = some .finished) → Up F.n g g' → St (F.gen gens') g' ((DL, .list its) :: ms) s' → Q none s') →
    (∀ r rest, rows = r :: rest → ∀ v gens' g' os' s', GK lo hi F.gens gens' → Up F.n g g' → RowOk g' v r → Inv its rest gens' g' os' → St (F.gen gens') g' ((DL, .list its) :: (ms ++ os')) s' → Q (some v) s') →
    wpAny (model prog w) A (pyNext (.ref it)) Q E s
  iter : ∀ {its rows} {A : Around} {F : Fx} {g ms os} {s : Shared} {Q : Value → Shared → Prop} {E : Value → Shared → Prop}, Inv its rows F.gens g os → St F g ((DL, .list its) :: (ms ++ os)) s → Q (.ref it) s → wpAny (model prog w) A (pyIter (.ref it)) Q E s
  owned : ∀ {its rows} {A : Around} {F : Fx} {g ms os} {s : Shared} {Q : Unit → Shared → Prop} {E : Value → Shared → Prop} {elts x1 pos} {T : Addr}, Inv its rows F.gens g os → St F g ((DL, .list its) :: (ms ++ os)) s → Q () s →
    wpAny (model prog w) A (letOwnedTupleGo (.Tuple elts x1 pos) (.ref it) (.ref T)) Q E s
  mono : ∀ {its rows gens g g' os}, Inv its rows gens g os → Le g g' → Inv its rows gens g' os
  gens : ∀ {its rows gens gens' g os}, Inv its rows gens g os → (∀ j, lo ≤ j → j < hi → gens'[j]? = gens[j]?) → Inv its rows gens' g os
  push : ∀ {its rows gens g os v r}, Inv its rows gens g os → RowOk g v r → Inv (its ++ [v]) (rows ++ T r) gens g os

theorem St.toEnd {F : Fx} {g : View} {p x : Addr × Thing} {ms : List (Addr × Thing)} {s : Shared} (Z : St F g (x :: p :: ms) s) : St F g (p :: (ms ++ [x])) s :=
  Z.perm ((List.Perm.swap p x ms).trans (.cons _ ((List.perm_append_singleton x ms).symm)))
theorem St.ofEnd {F : Fx} {g : View} {p x : Addr × Thing} {ms : List (Addr × Thing)} {s : Shared} (Z : St F g (p :: (ms ++ [x])) s) : St F g (x :: p :: ms) s :=
  Z.perm ((List.Perm.cons _ (List.perm_append_singleton x ms)).trans (List.Perm.swap x p ms))

/-! the bottom: the iterator of the growing list -/
def Inv0 (DL it : Addr) : InvT := fun its rows _ g os => ∃ i, os = [(it, .iter DL i)] ∧ i ≤ its.length ∧ All2 (RowOk g) (its.drop i) rows
theorem src0 {prog : Program} {w : World} {B : View} {n₀ lo : Nat} {DL it : Addr} (hDL : n₀ ≤ DL) (d : Nat) : Src prog w B n₀ lo lo d DL it (fun r => [r]) (Inv0 DL it) where
  next := by
    rintro its rows A F g ms os s Q E hh hd hB hn hl ⟨i, rfl, hi, hr⟩ Z k1 k2
    have Z' := Z.ofEnd
    obtain ⟨o, e, hc, hdt⟩ := Z'.own 0 rfl
    have hlist := own_isList (Z'.own 1 rfl)
    rcases Nat.lt_or_ge i its.length with hlt | hge
    · have hdr : its.drop i = its[i] :: its.drop (i + 1) := List.drop_eq_getElem_cons hlt
      rw [hdr] at hr
      cases hr with
      | cons h1 h2 =>
      refine wpAny_pyNext_list_item ⟨o, e, hc, hdt⟩ hlist (x := its[i]) (by rw [List.getElem?_toArray]; exact List.getElem?_eq_getElem hlt) fun h' hit hsb => ?_
      have Z2 := Z'.change 0 (t' := .iter DL (i + 1)) rfl hsb (let ⟨o, e, hc, hd⟩ := hit; ⟨o, e, hc, hd⟩)
      exact k2 _ _ rfl _ F.gens g _ _ (GK.refl _ _ _) (Up.refl _ _) h1 ⟨i + 1, rfl, hlt, h2⟩ Z2.toEnd
    · have hi' : i = its.length := by lia
      subst hi'
      rw [List.drop_length] at hr
      cases hr
      refine wpAny_pyNext_list_end hh ⟨o, e, hc, hdt⟩ hlist (by rw [List.getElem?_toArray]; exact List.getElem?_eq_none (Nat.le_refl _)) fun h' hsb => ?_
      have Z2 := (Z'.perm (List.Perm.swap (DL, .list its) (it, .iter DL its.length) ms)).dropIter (Nat.le_trans hn hDL) 0 rfl hsb
      exact k1 rfl F.gens g _ (GK.refl _ _ _) (fun j h1 h2 => absurd h1 (by lia)) (Up.refl _ _) Z2
  iter := by
    rintro its rows A F g ms os s Q E ⟨i, rfl, hi, hr⟩ Z h
    obtain ⟨o, e, hc, hdt⟩ := Z.ofEnd.own 0 rfl
    exact wpAny_pyIter_listiter ⟨o, e, hc, hdt⟩ h
  owned := by
    rintro its rows A F g ms os s Q E elts x1 pos T ⟨i, rfl, hi, hr⟩ Z h
    obtain ⟨o, e, hc, hdt⟩ := Z.ofEnd.own 0 rfl
    exact wpAny_letOwnedTupleGo_listiter ⟨o, e, hc, hdt⟩ h
  mono := by
    rintro its rows gens g g' os ⟨i, h1, h2, h3⟩ k
    exact ⟨i, h1, h2, h3.imp fun _ _ z => z.mono k⟩
  gens := fun h _ => h
  push := by
    rintro its rows gens g os v r ⟨i, h1, h2, h3⟩ h
    refine ⟨i, h1, by simp; lia, ?_⟩
    rw [List.drop_append_of_le_length h2]
    exact h3.append (.cons h .nil)

/-! waking a generator -/
open PySem.W.X in
theorem next_gen {prog : Program} {w : World} {A : Around} {E : Value → Shared → Prop} {s : Shared} {a : Addr} {g : Nat} {gs : GenState} {c₀ : Code} {t₀ : Sem Fin} {fs₀ : List Frame} {Q : Option Value → Shared → Prop} (hh : A.handled = none)
    (hl : s.heap.NoLimit) (hroom : A.depth < recursionLimit) (hg : s.heap.IsGen a g) (hgs : s.gens[g]? = some gs)
    (hst : (gs = .fresh c₀ ∧ t₀ = denote table c₀ ∧ fs₀ = []) ∨ (∃ k₀ l₀ p₀ cl, gs = .suspended k₀ l₀ c₀ p₀ fs₀ cl ∧ t₀ = k₀ (.send .none)))
    (x : SegX (model prog w) A.in1 c₀ t₀ fs₀ (s.setGen g .running) (fun e s₁ => match e with
      | .ret r => r = .ok (.ret .none) ∧ ∀ h' : Heap, Le s₁.heap.get? h'.get? → s₁.heap.objs.size ≤ h'.objs.size → Q none { s₁.setGen g .finished with heap := h' }
      | .susp v g₁ l₁ k₁ c₁ p₁ fs₁ => Q (some v) (s₁.setGen g (End.susp v g₁ l₁ k₁ c₁ p₁ fs₁).genState))) :
    wpAny (model prog w) A (pyNext (.ref a)) Q E s := by
  unfold pyNext
  refine wpAny_bind (wpAny_attempt (wpAny_callSpecial?_slot (name := Str.ofString "__next__") hg.typeIs slot_gen_next
    (wpAny_call_entry slot_gen_next hg.typeIs entry_gen_next ?_ (args_gen_next _))))
  show wpAny _ _ (Builtin.Generator.genWake (.ref a) (.send .none)) _ _ s
  unfold Builtin.Generator.genWake
  refine wpAny_bind (wpAny_holding (wpAny_genNumber hg (wpAny_bind (wpAny_genState hgs ?_))))
  have main : ∀ {l : List Value} {α : Type} {k : GenResult → Sem α} {Q' : α → Shared → Prop} {E' : Value → Shared → Prop},
      (∀ v (s₁ : Shared) gs', Q (some v) (s₁.setGen g gs') → wpAny (model prog w) A.in1 (k (.yielded v)) Q' E' (s₁.setGen g gs')) →
      (∀ s₁ : Shared, (∀ h' : Heap, Le s₁.heap.get? h'.get? → s₁.heap.objs.size ≤ h'.objs.size → Q none { s₁.setGen g .finished with heap := h' }) → wpAny (model prog w) A.in1 (k (.returned .none)) Q' E' (s₁.setGen g .finished)) →
      wpAny (model prog w) A.in1 (.resume g (.send .none) l k) Q' E' s := by
    intro l α k Q' E' h1 h2
    refine wake_any α prog w hgs (c₀ := c₀) (t₀ := t₀) (fs₀ := fs₀) ?_ (fun Γ => Γ.In A.in1) (fun _ h => h) (x.mono fun e s₁ he Γ p hC => ?_)
    · rcases hst with ⟨rfl, rfl, rfl⟩ | h
      · exact .inl ⟨rfl, rfl, rfl, rfl⟩
      · exact .inr h
    · cases e with
      | ret r =>
        obtain ⟨rfl, hq⟩ := he
        exact h2 s₁ hq Γ p hC
      | susp v g₁ l₁ k₁ c₁ p₁ fs₁ => exact h1 v s₁ _ he Γ p hC
  cases gs with
  | running => rcases hst with ⟨h, _⟩ | ⟨_, _, _, _, h, _⟩ <;> cases h
  | finished => rcases hst with ⟨h, _⟩ | ⟨_, _, _, _, h, _⟩ <;> cases h
  | _ =>
    refine wpAny_bind (wpAny_roomToWake hl hroom ?_)
    show wpAny _ _ (.resume g (.send .none) [] _) _ _ s
    refine main (fun v s₁ gs' hv => ?_) (fun s₁ hp => ?_)
    · exact wpAny_pure ⟨v, rfl, wpAny_pure hv⟩
    · show wpAny _ _ (newExc (.type "StopIteration") [] >>= _) _ _ _
      refine wpAny_bind ?_
      simp only [newExc, newTuple]
      refine wpAny_bind (wpAny_newObj_type ?_ (by size_fits))
      refine wpAny_bind (m := firstArgMember _ _) (wpAny_of_eq (a := Value.none) (by first | rfl | (simp only [firstArgMember]; rfl)) ?_)
      refine wpAny_newObj_type ?_ (by size_fits)
      simp only [raiseNew]
      refine wpAny_bind (wpAny_bind (wpAny_handled ?_))
      rw [show A.in1.handled = none from hh]
      refine wpAny_throw ?_
      refine wpAny_bind (wpAny_isInstance (T := "StopIteration") (b := true) ⟨_, Heap.get?_push_size _ rfl, rfl⟩ isSubtype_stop ?_)
      refine wpAny_pure (hp _ (fun b o hb => Heap.get?_push_of_some _ (Heap.get?_push_of_some _ hb)) ?_)
      rw [Heap.size_push, Heap.size_push]
      exact Nat.le_trans (Nat.le_succ _) (Nat.le_succ _)
end Mine
end

section
open PySem PySem.W PyProof.Rows PySem.W.X
namespace Mine

abbrev none2 : Value → Shared → Prop := fun _ _ => False

section
variable {prog : Program} {w : World} {A : Around} {c : Code} {fs : List Frame} {s : Shared} {P : End → Shared → Prop} {env : Env} {α β : Type}
  {gd : Bool → Bool} {lv : List Value → List Value}

theorem sx_wrap {m : Sem α} {K : α → Sem Fin} {H : Value → Sem Fin} (h : wpAny (model prog w) (A.over c fs) m (fun a s' => SegX (model prog w) A c (K a) fs s' P) none2 s) :
    SegX (model prog w) A c (m.wrap K H gd lv) fs s P := by
  rintro Γ p rfl hΓ
  obtain ⟨e, s', hr, hq⟩ := runs_wrap_of_wp (Φ := fun e s' => e.quiet = true ∧ P e s') K H gd lv m (h (Γ.over fs) p (hΓ.over fs)) (fun a p' s' h' => h' Γ p' rfl hΓ) (fun x p' s' h' => h'.elim)
  exact ⟨e, s', hr, hq⟩
theorem sx_bw {m : Sem α} {G : α → Sem β} {K : β → Sem Fin} {H : Value → Sem Fin} (h : wpAny (model prog w) (A.over c fs) m (fun a s' => SegX (model prog w) A c ((G a).wrap K H gd lv) fs s' P) none2 s) :
    SegX (model prog w) A c ((m >>= G).wrap K H gd lv) fs s P := by
  rw [Sem.bind_eq_wrap', Sem.wrap_wrap]; exact sx_wrap h
theorem sx_at {p' : Pos} {k : Unit → Sem Fin} (h : SegX (model prog w) A c (k ()) fs s P) : SegX (model prog w) A c (.at p' k) fs s P :=
  sx_wrap (m := standAt p') (K := k) (H := .raise) (gd := id) (lv := id) (wpAny_standAt h)
theorem sx_execs_nil {K : Flow → Sem Fin} {H : Value → Sem Fin} (h : SegX (model prog w) A c (K .next) fs s P) : SegX (model prog w) A c ((execs [] env).wrap K H gd lv) fs s P := h
theorem sx_execs_cons {st : Stmt} {rest : List Stmt} {K : Flow → Sem Fin} {H : Value → Sem Fin}
    (h : SegX (model prog w) A c ((exec st env).wrap (fun f => match f with | .next => (execs rest env).wrap K H gd lv | f => K f) H gd lv) fs s P) :
    SegX (model prog w) A c ((execs (st :: rest) env).wrap K H gd lv) fs s P := by rw [execs_cons_wrap]; exact h
/-- a plain statement -/
theorem sx_seq {st : Stmt} {rest : List Stmt} {K : Flow → Sem Fin} {H : Value → Sem Fin} {P' : Shared → Prop} (h1 : wpAny (model prog w) (A.over c fs) (exec st env) (fun f s' => f = .next ∧ P' s') none2 s)
    (h2 : ∀ s', P' s' → SegX (model prog w) A c ((execs rest env).wrap K H gd lv) fs s' P) : SegX (model prog w) A c ((execs (st :: rest) env).wrap K H gd lv) fs s P := by
  refine sx_execs_cons (sx_wrap (wpAny_mono h1 (fun f s' h => ?_) fun _ _ e => e))
  obtain ⟨rfl, h⟩ := h
  exact h2 s' h
theorem sx_If {test : Expr} {body orelse : List Stmt} {pos : Pos} {K : Flow → Sem Fin} {H : Value → Sem Fin}
    (h : wpAny (model prog w) (A.over c fs) (isTrue test env (eval test env)) (fun b s' => if b then SegX (model prog w) A c ((execs body env).wrap K H gd lv) fs s' P else SegX (model prog w) A c ((execs orelse env).wrap K H gd lv) fs s' P) none2 s) :
    SegX (model prog w) A c ((exec (.If test body orelse pos) env).wrap K H gd lv) fs s P := by
  rw [arm_exec_If]
  refine sx_bw (wpAny_standAt (sx_bw (wpAny_mono h (fun b s' hb => ?_) fun _ _ e => e)))
  cases b <;> exact hb
theorem sx_Continue {pos : Pos} {K : Flow → Sem Fin} {H : Value → Sem Fin} (h : SegX (model prog w) A c (K .cont) fs s P) : SegX (model prog w) A c ((exec (.Continue pos) env).wrap K H gd lv) fs s P := by
  refine sx_wrap (wpAny_mono (Q := fun f s' => f = .cont ∧ s' = s) ?_ (fun f s' hf => ?_) fun _ _ e => e)
  · intro Γ p hΓ; exact ⟨rfl, rfl⟩
  · obtain ⟨rfl, rfl⟩ := hf; exact h
theorem sx_Yield {e : Expr} {ypos pos : Pos} {K : Flow → Sem Fin} {H : Value → Sem Fin} (hfs : splitAtGen fs = none) (hfg : fs.any Frame.guarded = false)
    (h : wpAny (model prog w) (A.over c fs) (eval e env) (fun v s' => ∀ l k p, (∀ A' s'' P', SegX (model prog w) A' c (K .next) fs s'' P' → SegX (model prog w) A' c (k (.send .none)) fs s'' P') → P (.susp v false l k c p fs) s') none2 s)
    (hco : env.scope.isCoroutine = false := by rfl) (hi : interactive env = false := by rfl) :
    SegX (model prog w) A c ((exec (.Expr (.Yield (some e) ypos) pos) env).wrap K H id id) fs s P := by
  rw [exec_Expr env _ pos hi rfl]
  show SegX (model prog w) A c (.at pos fun _ => ((eval e env >>= fun v => (standAt ypos >>= fun _ => yieldOut env v)) >>= fun x =>
    dropValue (.Yield (some e) ypos) pos x).wrap K H id id) fs s P
  have hy : ∀ v, yieldOut env v = yieldValue v := fun v => by simp only [yieldOut, hco, Bool.false_eq_true, if_false]
  simp only [hy]
  refine sx_at ?_
  rw [Sem.bind_eq_wrap', Sem.bind_eq_wrap', Sem.wrap_wrap, Sem.wrap_wrap]
  refine sx_wrap (wpAny_mono h (fun v s' h' => ?_) fun _ _ x => x)
  refine sx_at (s_yield prog w A c fs P s' v _ _ hfs hfg fun p => h' _ _ p fun A' s'' P' hx => hx)

theorem sx_runOwn {c' : Code} {K : Flow → Sem Fin} {H : Value → Sem Fin}
    (h : ∀ p, SegX (model prog w) A c' (denote table c') (.ret (fun r => ((match r with | .ok f => (.pure f : Sem Flow) | .error e => .raise e).onRaise fun (x : Value) => do
        if (← field x 1) == Value.none then unsupported "frame.own-activation:exception-without-traceback"
        setFlight x env.frame).wrap K H gd lv) none (gd false) (lv []) c p [] :: fs) s P) :
    SegX (model prog w) A c ((runOwn c' env).wrap K H gd lv) fs s P := s_call prog w A c fs P s c' none (gd false) (lv []) _ h

def HN (env : Env) : Value → Sem Fin := fun e => (do noteFrame e env; theTreesLotGoes e : Sem Unit).bind fun _ => .raise e
def KW (test : Expr) (body orelse : List Stmt) (env : Env) : Flow → Sem Fin := fun f => match f with
  | .next | .cont => .pure (.again (.whileLoop test body orelse env))
  | .brk => .pure (.done .next)
  | .ret v => .pure (.done (.ret v))
def KF (target : Expr) (it : Value) (body orelse : List Stmt) (env : Env) : Flow → Sem Fin := fun f => match f with
  | .next | .cont => .pure (.again (.forLoop target it body orelse env))
  | .brk => .pure (.done .next)
  | .ret v => .pure (.done (.ret v))

theorem sx_whileLoop {test : Expr} {body : List Stmt}
    (h : wpAny (model prog w) (A.over (.whileLoop test body [] env) fs) (isTrue test env (eval test env)) (fun b s' =>
        if b = true then SegX (model prog w) A (.whileLoop test body [] env) ((execs body env).wrap (KW test body [] env) (HN env) id id) fs s' P
        else SegX (model prog w) A (.whileLoop test body [] env) (.pure (.done .next)) fs s' P) none2 s) :
    SegX (model prog w) A (.whileLoop test body [] env) (denote table (.whileLoop test body [] env)) fs s P := by
  show SegX _ A _ ((whileTurn test body [] env).onRaise (fun x => do noteFrame x env; theTreesLotGoes x)) fs s P
  unfold whileTurn
  rw [Sem.onRaise_eq_wrap]
  refine sx_bw (wpAny_mono h (fun b s' hb => ?_) fun _ _ e => e)
  cases b with
  | true =>
    rw [if_pos rfl] at hb
    show SegX _ A _ (Sem.wrap _ _ _ _ (if true = true then _ else _)) fs s' P
    rw [if_pos rfl, Sem.bind_eq_wrap', Sem.wrap_wrap]
    exact s_eq prog w A _ fs P s' _ _ (Sem.wrap_congr (execs body env) _ _ (fun f => by cases f <;> rfl) (fun e => rfl)) hb
  | false =>
    rw [if_neg Bool.false_ne_true] at hb
    exact hb

theorem sx_forLoop {target : Expr} {it : Value} {body : List Stmt}
    (h : wpAny (model prog w) (A.over (.forLoop target it body [] env) fs) (pyNext it) (fun r s₁ => match r with
      | none => SegX (model prog w) A (.block [] env) (.pure (.done .next)) fs s₁ P
      | some v => wpAny (model prog w) (A.over (.forLoop target it body [] env) fs) (letOwnedTupleGo target it v) (fun _ s₂ => wpAny (model prog w) (A.over (.forLoop target it body [] env) fs) (assign target env v) (fun _ s₃ =>
          SegX (model prog w) A (.forLoop target it body [] env) ((execs body env).wrap (KF target it body [] env) (HN env) id id) fs s₃ P) none2 s₂) none2 s₁) none2 s) :
    SegX (model prog w) A (.forLoop target it body [] env) (denote table (.forLoop target it body [] env)) fs s P := by
  show SegX _ A _ ((forTurn target it body [] env).onRaise (fun x => do noteFrame x env; theTreesLotGoes x)) fs s P
  unfold forTurn
  rw [Sem.onRaise_eq_wrap]
  refine sx_bw (wpAny_standAt (sx_bw (wpAny_onRaise (wpAny_mono h (fun r s₁ h₁ => ?_) fun _ _ e => e.elim))))
  cases r with
  | none =>
    refine s_again prog w A _ fs P s₁ (.block [] env) rfl ?_
    exact h₁
  | some v =>
    refine sx_bw (wpAny_mono h₁ (fun _ s₂ h₂ => sx_bw (wpAny_mono h₂ (fun _ s₃ h₃ => ?_) fun _ _ e => e)) fun _ _ e => e)
    rw [Sem.bind_eq_wrap', Sem.wrap_wrap]
    exact s_eq prog w A _ fs P s₃ _ _ (Sem.wrap_congr (execs body env) _ _ (fun f => by cases f <;> rfl) (fun e => rfl)) h₃

def HL (env : Env) : Value → Sem Fin := fun e => (leaving env e).wrap (fun _ => .raise e) .raise id id
def KL : Flow → Sem Fin := fun f => .pure (.done (.ret (match f with | .ret v => v | _ => .none)))
theorem sx_func {body : List Stmt} (h : SegX (model prog w) A (.func body env) ((execs body env).wrap KL (HL env) id id) fs s P) :
    SegX (model prog w) A (.func body env) (denote table (.func body env)) fs s P := by
  show SegX _ A _ (.point [] fun _ => ((execs body env).onRaise (leaving env)) >>= _) fs s P
  refine sx_wrap (m := point) (K := fun _ => ((execs body env).onRaise (leaving env)) >>= _) (H := .raise) (gd := id) (lv := fun _ => []) (wpAny_point ?_)
  rw [Sem.onRaise_eq_wrap, Sem.bind_eq_wrap', Sem.wrap_wrap]
  rw [Sem.wrap_congr (execs body env) _ _ (K' := KL) (H' := HL env) (fun f => by cases f <;> rfl) (fun e => by rw [Sem.bind_eq_wrap, Sem.wrap_wrap]; rfl)]
  exact h
end
end Mine
end

section
open PySem PySem.W PyProof.Rows PySem.W.X
namespace Mine

def forTarget : Stmt → Expr | .For t _ _ _ _ => t | _ => .Name "" default
def forIter : Stmt → Expr | .For _ i _ _ _ => i | _ => .Name "" default
def whTest : Stmt → Expr | .While t _ _ _ => t | _ => .Name "" default
def whBody : Stmt → List Stmt | .While _ b _ _ => b | _ => []
def wrFor : Stmt := (defBody dWrap).getD 0 (.Pass default)
def wrWhile : Stmt := (forBody wrFor).getD 5 (.Pass default)
abbrev envWr (doc pm cd ct : Value) (an : Option Addr) (L f : Addr) : Env := callEnv (mkFd "_line_wrapper" "HtmlDiff._line_wrapper" dWrap .none doc pm cd ct an) L f
abbrev forC (env : Env) (it : Addr) : Code := .forLoop (forTarget wrFor) (.ref it) (forBody wrFor) [] env
abbrev whC (env : Env) : Code := .whileLoop (whTest wrWhile) (whBody wrWhile) [] env

def FrA (prog : Program) (w : World) (env : Env) (fr : Frame) : Prop := ∃ k p, fr = .ret k none false [] (.func (defBody dWrap) env) p [] ∧
  ∀ A s P, P (.ret (.ok (.ret .none))) s → SegX (model prog w) A (.func (defBody dWrap) env) (k (.ok .next)) [] s P
def FrB (prog : Program) (w : World) (env : Env) (it : Addr) (fr : Frame) : Prop := ∃ k p, fr = .ret k none false [] (forC env it) p [] ∧
  ∀ A fs s P, SegX (model prog w) A (forC env it) (denote table (forC env it)) fs s P → SegX (model prog w) A (forC env it) (k (.ok .next)) fs s P
def ResF (prog : Program) (w : World) (env : Env) (it : Addr) (gs : GenState) : Prop := ∃ k l p fr1 cl, gs = .suspended k l (forC env it) p [fr1] cl ∧ FrA prog w env fr1 ∧
  ∀ A s P, SegX (model prog w) A (forC env it) (denote table (forC env it)) [fr1] s P → SegX (model prog w) A (forC env it) (k (.send .none)) [fr1] s P
def ResW (prog : Program) (w : World) (env : Env) (it : Addr) (gs : GenState) : Prop := ∃ k l p fr2 fr1 cl, gs = .suspended k l (whC env) p [fr2, fr1] cl ∧ FrA prog w env fr1 ∧ FrB prog w env it fr2 ∧
  ∀ A s P, SegX (model prog w) A (whC env) (denote table (whC env)) [fr2, fr1] s P → SegX (model prog w) A (whC env) (k (.send .none)) [fr2, fr1] s P

theorem over1 {prog w env fr1} {A : Around} {it} (h1 : FrA prog w env fr1) : (A.over (forC env it) [fr1]).handled = A.handled ∧ (A.over (forC env it) [fr1]).depth = A.depth + 1 := by
  obtain ⟨k1, p1, rfl, _⟩ := h1
  exact ⟨rfl, rfl⟩
theorem over2 {prog w env fr1 fr2} {A : Around} {it} (h1 : FrA prog w env fr1) (h2 : FrB prog w env it fr2) : (A.over (whC env) [fr2, fr1]).handled = A.handled ∧ (A.over (whC env) [fr2, fr1]).depth = A.depth + 1 := by
  obtain ⟨k1, p1, rfl, _⟩ := h1
  obtain ⟨k2, p2, rfl, _⟩ := h2
  exact ⟨rfl, rfl⟩

section
variable {prog : Program} {w : World} {A : Around} {E : Value → Shared → Prop} {env : Env} {F : Fx} {g : View} {ms : List (Addr × Thing)} {s : Shared} {vs : List (Str × Value)}

theorem r_truthyList {i : Nat} {D : Addr} {ys : List Value} {Q : Bool → Shared → Prop} (Z : St F g ms s) (hi : ms[i]? = some (D, .list ys)) (hsz : ys.length ≤ 2 ^ 20) (h : ∀ s', St F g ms s' → Q (!ys.isEmpty) s') :
    wpAny (model prog w) A (truthy (.ref D)) Q E s := by
  refine wpAny_truthy_list (own_isList (Z.own i hi)) (by simp; lia) ?_
  have := h _ (Z.toks (s.toks + 1 + 1))
  have e : ys.toArray.isEmpty = ys.isEmpty := by simp
  rw [e]; exact this

theorem r_pop0 {x : Str} {i k : Nat} {D : Addr} {y : Value} {ys : List Value} {p cp apos pos : Pos} {Q : Value → Shared → Prop} (Z : St F g ((env.locals, .vars vs) :: ms) s) (hv : vs.lookup x = some (.ref D))
    (hi : ((env.locals, .vars vs) :: ms)[i]? = some (D, .list (y :: ys))) (hsz : ys.length < 2 ^ 20) (h : ∀ s', St F g (((env.locals, .vars vs) :: ms).set i (D, .list ys)) s' → Q y s')
    (hk : env.scope.kind = .function := by rfl) (hl : env.kindOf x = some .local := by rfl) (hd : (x == ("__debug__" : Str)) = false := by decide)
    (hbase : attributeBase (.Name x p) "pop" env (eval (.Name x p) env) = eval (.Name x p) env := by rfl)
    (hfew : ((backTo pos (starEach [.Constant (.int 0) k cp] env)).all (fun x => !x.1) && (backToKw pos (keywordEach [] env)).all (fun x => x.1.isSome)
      && decide (([.Constant (.int 0) k cp] : List Expr).length + ([] : List Keyword).length + (if ([] : List Keyword).isEmpty then 0 else 1) < 30)) = true := by rfl)
    (hline : (apos.endLine == pos.line) = true := by rfl)
    (htrees : backTo pos (starEach [.Constant (.int 0) k cp] env) = [(false, eval (.Constant (.int 0) k cp) env)] := by rfl) :
    wpAny (model prog w) A (eval (.Call (.Attribute (.Name x p) "pop" apos) [.Constant (.int 0) k cp] [] pos) env) Q E s := by
  refine wpAny_Call_method hbase hfew hline PySem.F.plainAttrs_list PySem.F.slot_list_pop PySem.F.type_list_pop (r_ld Z hv ⟨(own_isList (Z.own i hi)).typeIs, (fun a' ea => ?_), ?_⟩ hk hl hd)
  · cases ea
    obtain ⟨o, e, n, rfl⟩ := Z.own i hi
    exact ⟨_, e, rfl⟩
  rw [htrees]
  refine PySem.P.pop_at_list (r_int Z fun t s₁ Z => ?_)
  obtain ⟨o, e, n, rfl⟩ := Z.own i hi
  refine ⟨(y :: ys).toArray, n, 0, t, 0, y, by rw [sizeLine_eq]; simp; lia, rfl, e, by decide, ?_, by simp, ?_⟩
  · unfold seqIndex?; simp
  · refine h _ (Z.change i hi (Heap.SameBut.update ..) ⟨_, Heap.get?_update_self _ e rfl, ?_⟩)
    show ∃ n', _ = _
    simp only [Obj.mapSeq]
    have : (y :: ys).toArray.eraseIdxIfInBounds 0 = ys.toArray := by simp [Array.eraseIdxIfInBounds]
    exact ⟨_, congrArg (fun z => ({ cls := .type "list", data := .seq z _ } : Obj)) this⟩
end

theorem blankAt {g : View} {v : Value} {t u : Tok} (X : TupAt g v [.str (Str.ofString "") t, .str (Str.ofString " ") u]) : SideAt g v blank := by
  refine ⟨_, u, ⟨t, rfl⟩, ?_⟩
  rw [S_empty, S_blank] at X
  exact X
theorem goodBlank : GoodSide blank.2 ∧ blank.1.short := by
  refine ⟨⟨fun x hx => ?_, by decide⟩, by show (_ : Nat) ≤ _; simp⟩
  rw [List.mem_singleton.mp hx]
  exact ⟨.inl rfl, by decide, fun c hc => by rw [List.mem_singleton.mp hc]; lia⟩

section
variable {prog : Program} {w : World} {A : Around} {F : Fx} {g : View} {ms : List (Addr × Thing)} {s : Shared} {P : End → Shared → Prop} {doc pm cd ct : Value} {an : Option Addr} {L f : Addr}

abbrev wv (FL TL : Addr) (flag : Flag) (x : Addr) : List (Str × Value) := [("fromlist", .ref FL), ("tolist", .ref TL), ("flag", flagV flag), ("self", .ref x)]
def GoodS (y : Side) : Prop := GoodSide y.2 ∧ y.1.short

theorem zip_cons (flag : Flag) (a b : List Side) (h : ¬ (a = [] ∧ b = [])) : zipPad flag a b = ⟨a.headD blank, b.headD blank, flag⟩ :: zipPad flag a.tail b.tail := by
  cases a <;> cases b <;> simp_all [zipPad]
theorem All2.tail {α β : Type} {R : α → β → Prop} {l : List α} {m : List β} (h : All2 R l m) : All2 R l.tail m.tail := by
  cases h with
  | nil => exact .nil
  | cons _ h => exact h
theorem good_headD {a : List Side} (h : ∀ y ∈ a, GoodS y) : GoodS (a.headD blank) := by
  cases a with
  | nil => exact goodBlank
  | cons y r => exact h y (.head _)
theorem good_tail {a : List Side} (h : ∀ y ∈ a, GoodS y) : ∀ y ∈ a.tail, GoodS y := fun y hy => h y (List.mem_of_mem_tail hy)

theorem wh_from {FL TL x : Addr} {flag : Flag} {a : List Side} {fl tl : List Value} (Z : St F g ((L, .vars (wv FL TL flag x)) :: (FL, .list fl) :: (TL, .list tl) :: ms) s) (ha : All2 (SideAt g) fl a) (la : a.length ≤ 1000) :
    wpAny (model prog w) A (exec ((whBody wrWhile).getD 0 (.Pass default)) (envWr doc pm cd ct an L f)) (fun fl' s' => fl' = .next ∧ ∃ g' va, Up F.n g g' ∧ SideAt g' va (a.headD blank) ∧ St F g' ((L, .vars (("fromdata", va) :: wv FL TL flag x)) :: (FL, .list fl.tail) :: (TL, .list tl) :: ms) s') none2 s := by
  have hla := ha.length
  refine wpAny_If (isTrue_plain (r_ld Z rfl (r_truthyList (i := 1) Z rfl (by lia) fun s₁ Z => ?_)))
  cases ha with
  | nil =>
    simp only [List.isEmpty_nil, Bool.not_true, Bool.false_eq_true, if_false]
    refine wpAny_execs_cons (wpAny_Assign_Name (r_tuple2 (r_str Z fun t1 s₂ Z => r_str Z fun t2 s₃ Z => r_newTuple Z (by simp) fun v g' s₄ U X Z => r_store Z fun s₅ Z => wpAny_execs_nil ⟨rfl, g', v, U, blankAt X, Z⟩)))
  | @cons va sa fl' a' h1 h2 =>
    simp only [List.isEmpty_cons, Bool.not_false, if_true]
    simp only [List.length_cons] at hla la
    refine wpAny_execs_cons (wpAny_Assign_Name (r_pop0 (i := 1) Z rfl rfl (by lia) fun s₂ Z => r_store Z fun s₃ Z => wpAny_execs_nil ⟨rfl, g, va, Up.refl _ _, h1, Z⟩))
theorem wh_to {FL TL x : Addr} {flag : Flag} {b : List Side} {va : Value} {fl tl : List Value} (Z : St F g ((L, .vars (("fromdata", va) :: wv FL TL flag x)) :: (FL, .list fl) :: (TL, .list tl) :: ms) s) (ha : All2 (SideAt g) tl b) (la : b.length ≤ 1000) :
    wpAny (model prog w) A (exec ((whBody wrWhile).getD 1 (.Pass default)) (envWr doc pm cd ct an L f)) (fun fl' s' => fl' = .next ∧ ∃ g' vb, Up F.n g g' ∧ SideAt g' vb (b.headD blank) ∧ St F g' ((L, .vars (("todata", vb) :: ("fromdata", va) :: wv FL TL flag x)) :: (FL, .list fl) :: (TL, .list tl.tail) :: ms) s') none2 s := by
  have hla := ha.length
  refine wpAny_If (isTrue_plain (r_ld Z rfl (r_truthyList (i := 2) Z rfl (by lia) fun s₁ Z => ?_)))
  cases ha with
  | nil =>
    simp only [List.isEmpty_nil, Bool.not_true, Bool.false_eq_true, if_false]
    refine wpAny_execs_cons (wpAny_Assign_Name (r_tuple2 (r_str Z fun t1 s₂ Z => r_str Z fun t2 s₃ Z => r_newTuple Z (by simp) fun v g' s₄ U X Z => r_store Z fun s₅ Z => wpAny_execs_nil ⟨rfl, g', v, U, blankAt X, Z⟩)))
  | @cons va sa fl' a' h1 h2 =>
    simp only [List.isEmpty_cons, Bool.not_false, if_true]
    simp only [List.length_cons] at hla la
    refine wpAny_execs_cons (wpAny_Assign_Name (r_pop0 (i := 2) Z rfl rfl (by lia) fun s₂ Z => r_store Z fun s₃ Z => wpAny_execs_nil ⟨rfl, g, va, Up.refl _ _, h1, Z⟩))

theorem wh_head (hh : A.handled = none) {fr1 fr2 : Frame} {it x FL TL : Addr} (h1 : FrA prog w (envWr doc pm cd ct an L f) fr1) (h2 : FrB prog w (envWr doc pm cd ct an L f) it fr2)
    {flag : Flag} {a b : List Side} {fl tl : List Value} (Z : St F g ((L, .vars (wv FL TL flag x)) :: (FL, .list fl) :: (TL, .list tl) :: ms) s)
    (ha : All2 (SideAt g) fl a) (hb : All2 (SideAt g) tl b) (hga : ∀ y ∈ a, GoodS y) (hgb : ∀ y ∈ b, GoodS y) (la : a.length ≤ 1000) (lb : b.length ≤ 1000)
    (kE : zipPad flag a b = [] → ∀ s', St F g ((L, .vars [("self", .ref x)]) :: ms) s' → SegX (model prog w) A (forC (envWr doc pm cd ct an L f) it) (denote table (forC (envWr doc pm cd ct an L f) it)) [fr1] s' P)
    (kY : ∀ r rest, zipPad flag a b = r :: rest → ∀ v l k p g' s' fl' tl' a' b', ResW prog w (envWr doc pm cd ct an L f) it (End.susp v false l k (whC (envWr doc pm cd ct an L f)) p [fr2, fr1]).genState → Up F.n g g' → RowOk g' v r →
      All2 (SideAt g') fl' a' → All2 (SideAt g') tl' b' → (∀ y ∈ a', GoodS y) → (∀ y ∈ b', GoodS y) → a'.length ≤ 1000 → b'.length ≤ 1000 → zipPad flag a' b' = rest →
      St F g' ((L, .vars (wv FL TL flag x)) :: (FL, .list fl') :: (TL, .list tl') :: ms) s' → P (End.susp v false l k (whC (envWr doc pm cd ct an L f)) p [fr2, fr1]) s') :
    SegX (model prog w) A (whC (envWr doc pm cd ct an L f)) (denote table (whC (envWr doc pm cd ct an L f))) [fr2, fr1] s P := by
  have hla := ha.length
  have hlb := hb.length
  obtain ⟨k1, p1, rfl, kk1⟩ := id h1
  obtain ⟨k2, p2, rfl, kk2⟩ := id h2
  refine sx_whileLoop ?_
  refine isTrue_or (isTrue_plain (r_ld Z rfl (r_truthyList (i := 1) Z rfl (by lia) fun s₁ Z => ?_)))
  have go : ∀ s₂, ¬ (a = [] ∧ b = []) → St F g ((L, .vars (wv FL TL flag x)) :: (FL, .list fl) :: (TL, .list tl) :: ms) s₂ →
      SegX (model prog w) A (whC (envWr doc pm cd ct an L f)) ((execs (whBody wrWhile) (envWr doc pm cd ct an L f)).wrap (KW (whTest wrWhile) (whBody wrWhile) [] (envWr doc pm cd ct an L f)) (HN (envWr doc pm cd ct an L f)) id id)
        [.ret k2 none false [] (forC (envWr doc pm cd ct an L f) it) p2 [], .ret k1 none false [] (.func (defBody dWrap) (envWr doc pm cd ct an L f)) p1 []] s₂ P := by
    intro s₂ hne Z
    refine sx_seq (wh_from Z ha la) ?_
    rintro s₃ ⟨g₁, va, U1, Xa, Z⟩
    refine sx_seq (wh_to Z (hb.imp fun _ _ z => z.mono U1.1) lb) ?_
    rintro s₄ ⟨g₂, vb, U2, Xb, Z⟩
    refine sx_execs_cons (sx_Yield rfl rfl ?_)
    refine r_tuple3 (r_ld Z rfl (r_ld Z rfl (r_ld Z rfl (r_newTuple Z (by simp) fun v g₃ s₅ U3 X Z => ?_))))
    intro l k p hk
    refine kY _ _ (zip_cons flag a b hne) v l k p g₃ s₅ fl.tail tl.tail a.tail b.tail ?_ ((U1.trans U2).trans U3) ?_ ?_ ?_ (good_tail hga) (good_tail hgb) (by simp; lia) (by simp; lia) rfl (Z.weak ⟨rfl, rfl, rfl, rfl, trivial⟩)
    · refine ⟨k, l, p, _, _, _, rfl, h1, h2, fun A' s'' P' hx => hk A' s'' P' ?_⟩
      exact s_again prog w A' _ _ P' s'' (whC (envWr doc pm cd ct an L f)) rfl hx
    · exact ⟨⟨va, vb, Xa.mono (U2.1.trans U3.1), Xb.mono U3.1, X⟩, (good_headD hga).1, (good_headD hgb).1, (good_headD hga).2, (good_headD hgb).2⟩
    · exact ha.tail.imp fun _ _ z => z.mono ((U1.1.trans U2.1).trans U3.1)
    · exact hb.tail.imp fun _ _ z => z.mono ((U1.1.trans U2.1).trans U3.1)
  have hea : fl.isEmpty = a.isEmpty := by cases ha <;> rfl
  have heb : tl.isEmpty = b.isEmpty := by cases hb <;> rfl
  rw [hea]
  cases hA : a with
  | cons y r =>
    simp only [List.isEmpty_cons, Bool.not_false, if_true]
    exact go _ (fun q => by rw [hA] at q; cases q.1) Z
  | nil =>
    simp only [List.isEmpty_nil, Bool.not_true, Bool.false_eq_true, if_false]
    refine isTrue_or (isTrue_plain (r_ld Z rfl (r_truthyList (i := 2) Z rfl (by lia) fun s₁ Z => ?_)))
    rw [heb]
    cases hBb : b with
    | cons y r =>
      simp only [List.isEmpty_cons, Bool.not_false, if_true]
      exact go _ (fun q => by rw [hBb] at q; cases q.2) Z
    | nil =>
      simp only [List.isEmpty_nil, Bool.not_true, Bool.false_eq_true, if_false]
      refine isTrue_or_nil ?_
      simp only [Bool.false_eq_true, if_false]
      refine s_pop prog w A _ _ P _ (.ok .next) _ rfl _ _ _ _ _ _ _ (kk2 A _ _ P (kE (by rw [hA, hBb]; simp [zipPad]) _ ?_))
      exact ((Z.drop 1).drop 1).weak ⟨rfl, trivial⟩
end
end Mine
end

section
open PySem PySem.W PyProof.Rows PySem.W.X
namespace Mine

theorem wrap_good (c : Nat) (hc : 0 < c) : ∀ (N : Nat) (l : List Stretch), lenOf l < N → GoodSide l → (∀ y ∈ wrap c l, GoodSide y) ∧ (wrap c l).length ≤ lenOf l + 1 ∧ wrap c l ≠ []
  | 0, l, h, _ => by lia
  | N + 1, l, h, hg => by
    unfold wrap
    split
    · refine ⟨fun y hy => ?_, by simp, by simp⟩
      rw [List.mem_singleton.mp hy]; exact hg
    · rename_i q
      have h1 := cut_len c l (by lia)
      have h2 := cut_good c l hg.1
      have h3 := cut_count c l
      have hl := hg.2
      have ih := wrap_good c hc N (cut c l).2 (by lia) ⟨h2.2, by lia⟩
      refine ⟨fun y hy => ?_, by simp only [List.length_cons]; lia, by simp⟩
      rcases List.mem_cons.mp hy with rfl | hy
      · exact ⟨h2.1, by lia⟩
      · exact ih.1 y hy
theorem lenOf_good {l : List Stretch} (h : GoodSide l) : lenOf l ≤ 300 := by
  have : ∀ l : List Stretch, (∀ x ∈ l, GoodSt x) → lenOf l ≤ 3 * l.length := by
    intro l h
    induction l with
    | nil => simp [lenOf]
    | cons x r ih =>
      obtain ⟨m, sg⟩ := x
      have h0 := (h (m, sg) (.head _)).2.1
      have := ih fun x hx => h x (.tail _ hx)
      simp only [lenOf, List.length_cons] at *
      lia
  have h1 := this l h.1
  have h2 := h.2
  lia
theorem nums_mem {α : Type} {n : Num} {ps : List α} {y : Num × α} (h : y ∈ nums n ps) : (y.1 = n ∨ y.1 = .str [62]) ∧ y.2 ∈ ps := by
  cases ps with
  | nil => cases h
  | cons p r =>
    rcases List.mem_cons.mp h with rfl | h
    · exact ⟨.inl rfl, .head _⟩
    · obtain ⟨q, hq, rfl⟩ := List.mem_map.mp h
      exact ⟨.inr rfl, .tail _ hq⟩
theorem nums_length {α : Type} (n : Num) (ps : List α) : (nums n ps).length = ps.length := by cases ps <;> simp [nums]
theorem splitSide_good (c : Nat) (hc : 0 < c) (x : Side) (h : GoodS x) : (∀ y ∈ splitSide c x, GoodS y) ∧ (splitSide c x).length ≤ 302 ∧ splitSide c x ≠ [] := by
  have hl := lenOf_good h.1
  have w := wrap_good c hc (lenOf x.2 + 1) x.2 (by lia) h.1
  unfold splitSide
  split
  · refine ⟨fun y hy => ?_, by rw [nums_length]; lia, fun q => ?_⟩
    · have := nums_mem hy
      refine ⟨w.1 _ this.2, ?_⟩
      rcases this.1 with e | e
      · rw [e]; exact h.2
      · rw [e]; show (_ : Nat) ≤ _; simp
    · have := congrArg List.length q
      rw [nums_length] at this
      exact w.2.2 (List.length_eq_zero_iff.mp this)
  · refine ⟨fun y hy => ?_, by simp, by simp⟩
    rw [List.mem_singleton.mp hy]; exact h

theorem St.splitBack {F : Fx} {g g' : View} {ms : List (Addr × Thing)} {s s' : Shared} {i : Nat} {FL : Addr} {its its' : List Value} (Z : St F g ms s) (hi : ms[i]? = some (FL, .list its))
    (o1 : s'.os = s.os) (o2 : s'.gens = s.gens) (o3 : s.heap.objs.size ≤ s'.heap.objs.size) (o4 : Le (but FL s.heap.get?) s'.heap.get?) (U : Up s.heap.objs.size g g') (o6 : Le g' s'.heap.get?) (o7 : g' FL = none) (o8 : Own s'.heap FL (.list its')) :
    St F g' (ms.set i (FL, .list its')) s' := by
  have na := Z.now _ (mem_of_idx hi)
  have keep : ∀ a o, a ≠ FL → s.heap.get? a = some o → s'.heap.get? a = some o := fun a o hne e => o4 a o (by unfold but; rw [if_neg hne]; exact e)
  refine ⟨o1.trans Z.os, o2.trans Z.gens, Nat.le_trans Z.sz o3, fun a o e => keep a o (fun q => by rw [q, na.2.2] at e; cases e) (Z.kp a o e), o6, fun p hp => ?_, ?_⟩
  · obtain ⟨j, hj⟩ := List.getElem?_of_mem hp
    rw [List.getElem?_set] at hj
    split at hj
    · split at hj
      · cases hj; exact ⟨o8, o7, na.2.2⟩
      · cases hj
    · rename_i hij
      have pm := mem_of_idx hj
      have z := Z.now p pm
      have hne : p.1 ≠ FL := fun q => by
        have h1 : (ms.map (·.1))[i]? = some FL := by rw [List.getElem?_map, hi]; rfl
        have h2 : (ms.map (·.1))[j]? = some FL := by rw [List.getElem?_map, hj, ← q]; rfl
        have hil : i < (ms.map (·.1)).length := (List.getElem?_eq_some_iff.mp h1).1
        exact hij (List.getElem?_inj hil Z.nd |>.mp (h1.trans h2.symm))
      refine ⟨let ⟨o, e, t⟩ := z.1; ⟨o, keep _ _ hne e, t⟩, ?_, z.2.2⟩
      cases q : g' p.1 with
      | none => rfl
      | some o =>
        rcases U.2 _ _ q with e | e
        · rw [z.2.1] at e; cases e
        · exact absurd z.1.lt (Nat.not_lt.mpr e)
  · rw [set_map_fst hi]; exact Z.nd

section
variable {prog : Program} {w : World} {A : Around} {E : Value → Shared → Prop} {env : Env} {F : Fx} {g : View} {ms : List (Addr × Thing)} {s : Shared}
theorem r_unpack {v : Value} {its : List Value} {n : Nat} {Q : List Value → Shared → Prop} {L : Addr} {t₀ : Thing} (S : St F g ((L, t₀) :: ms) s) (hL : F.n ≤ L) (hh : A.handled = none) (X : TupAt s.heap.get? v its) (hn : n = its.length)
    (h : ∀ s', St F g ((L, t₀) :: ms) s' → Q its s') : wpAny (model prog w) A (unpackItems v n none) Q E s := by
  obtain ⟨a, rfl, e⟩ := X
  have hn' : n = its.toArray.size := by simpa using hn
  rw [hn']
  refine wpAny_unpackItems_tuple (items := its.toArray) hh ⟨_, e, rfl, _, rfl⟩ fun h' hs => ?_
  have hlt : ∀ b o, s.heap.get? b = some o → b ≠ s.heap.objs.size := fun b o e => Nat.ne_of_lt (Heap.lt_size e)
  have le : Le s.heap.get? h'.get? := fun b o e => hs b o (hlt b o e) e
  have S' := S.extL hL s.toks le
  have := h _ S'
  simpa using this
end

def GMode (prog : Program) (w : World) (env : Env) (it x L : Addr) (gs : GenState) (pend : List RowG) (own : List (Addr × Thing)) (g : View) : Prop :=
  (ResF prog w env it gs ∧ pend = [] ∧ own = [(L, .vars [("self", .ref x)])]) ∨
  (∃ FL TL flag fl tl a b, ResW prog w env it gs ∧ pend = zipPad flag a b ∧ All2 (SideAt g) fl a ∧ All2 (SideAt g) tl b ∧ (∀ y ∈ a, GoodS y) ∧ (∀ y ∈ b, GoodS y) ∧ a.length ≤ 1000 ∧ b.length ≤ 1000 ∧
    own = [(L, .vars (wv FL TL flag x)), (FL, .list fl), (TL, .list tl)])

section
variable {prog : Program} {w : World} {A : Around} {F : Fx} {g : View} {ms os : List (Addr × Thing)} {s : Shared} {P : End → Shared → Prop} {doc pm cd ct : Value} {an : Option Addr} {L f : Addr}
  {B : View} {K : Frag} {D : Ad} {D2 : Ad2} {n₀ lo i d : Nat} {DL it x : Addr} {T : RowG → List RowG} {Inv : InvT} {its : List Value} {rows : List RowG} {c : Nat}

theorem for_head (Sr : Src prog w B n₀ lo i d DL it T Inv) (hB : Base B K D D2) (hh : A.handled = none) (hd : A.depth + 1 + d < recursionLimit) (hd' : A.depth + 1 + 303 < recursionLimit) {fr1 : Frame} (h1 : FrA prog w (envWr doc pm cd ct an L f) fr1)
    (hn : F.n ≤ n₀) (hL : n₀ ≤ L) (hBk : Le B F.k) (hits : its.length ≤ 1000) (hI : InstG D.html g x c) (hc : 0 < c) (hInv : Inv its rows F.gens g os)
    (Z : St F g ((L, .vars [("self", .ref x)]) :: (DL, .list its) :: (ms ++ os)) s)
    (kE : rows = [] → ∀ gens' g' s', GK lo i F.gens gens' → (∀ j, lo ≤ j → j < i → gens'[j]? = some .finished) → Up F.n g g' → St (F.gen gens') g' ((L, .vars [("self", .ref x)]) :: (DL, .list its) :: ms) s' → P (.ret (.ok (.ret .none))) s')
    (kY : ∀ r rest, rows = r :: rest → ∀ r1 rest1, tr c r = r1 :: rest1 → ∀ v l k cc p fs gens' g' os' own' s', GMode prog w (envWr doc pm cd ct an L f) it x L (End.susp v false l k cc p fs).genState rest1 own' g' → GK lo i F.gens gens' → Up F.n g g' → RowOk g' v r1 →
      Inv its rest gens' g' os' → St (F.gen gens') g' (own' ++ (DL, .list its) :: (ms ++ os')) s' → P (End.susp v false l k cc p fs) s') :
    SegX (model prog w) A (forC (envWr doc pm cd ct an L f) it) (denote table (forC (envWr doc pm cd ct an L f) it)) [fr1] s P := by
  obtain ⟨k1, p1, rfl, kk1⟩ := id h1
  refine sx_forLoop ?_
  have hh' : (A.over (forC (envWr doc pm cd ct an L f) it) [.ret k1 none false [] (.func (defBody dWrap) (envWr doc pm cd ct an L f)) p1 []]).handled = none := hh
  have hdep : (A.over (forC (envWr doc pm cd ct an L f) it) [.ret k1 none false [] (.func (defBody dWrap) (envWr doc pm cd ct an L f)) p1 []]).depth = A.depth + 1 := rfl
  generalize hA' : A.over (forC (envWr doc pm cd ct an L f) it) [.ret k1 none false [] (.func (defBody dWrap) (envWr doc pm cd ct an L f)) p1 []] = A' at *
  refine Sr.next (ms := (L, .vars [("self", .ref x)]) :: ms) hh' (by lia) hBk hn hits hInv (Z.perm (List.Perm.swap _ _ _)) ?_ ?_
  · intro hr gens' g' s' G1 G2 U Z'
    exact s_pop prog w A _ _ P _ (.ok .next) _ rfl _ _ _ _ _ _ _ (kk1 A s' P (kE hr gens' g' s' G1 G2 U (Z'.perm (List.Perm.swap _ _ _))))
  · intro r rest hr v gens' g' os' s' G1 U X hInv' Z'
    obtain ⟨⟨va, vb, Xa, Xb, Xt⟩, hg1, hg2, hg3, hg4⟩ := id X
    obtain ⟨ta, rfl, hta⟩ := id Xt
    refine Sr.owned (F := F.gen gens') (ms := (L, .vars [("self", .ref x)]) :: ms) hInv' Z' ?_
    replace Z' : St (F.gen gens') g' ((L, .vars [("self", .ref x)]) :: (DL, .list its) :: (ms ++ os')) s' := Z'.perm (List.Perm.swap _ _ _)
    refine r_untup Z' (Nat.le_trans hn hL) hh' (Xt.mono Z'.dat) rfl rfl fun s₁ Z _ => ?_
    refine wpAny_assignInOrder_more (r_assign (env := envWr doc pm cd ct an L f) Z fun s₂ Z => ?_)
    refine wpAny_assignInOrder_more (r_assign (env := envWr doc pm cd ct an L f) Z fun s₃ Z => ?_)
    refine wpAny_assignInOrder_more (r_assign (env := envWr doc pm cd ct an L f) Z fun s₄ Z => wpAny_assignInOrder_none ?_)
    refine sx_execs_cons (sx_If (wpAny_isTrue_Compare1 (r_ld Z rfl (wpAny_Constant_none (is_none_gen (wpAny_truthy_bool ?_))))))
    cases hfl : r.fl with
    | none =>
      have e0 : (flagV none == Value.none) = true := rfl
      rw [e0, if_pos rfl]
      refine sx_execs_cons (sx_Yield rfl rfl ?_)
      rw [hA']
      refine r_tuple3 (r_ld Z rfl (r_ld Z rfl (r_ld Z rfl (r_newTuple Z (by simp) fun v' g'' s₅ U' X' Z => ?_))))
      intro l k p hk
      refine kY r rest hr r [] (by simp [tr, hfl]) v' l k _ p _ gens' g'' os' [(L, .vars [("self", .ref x)])] s₅ (.inl ⟨⟨k, l, p, _, _, rfl, h1, fun A'' s'' P' hx => hk A'' s'' P' ?_⟩, rfl, rfl⟩) G1 (U.trans U')
        ⟨⟨va, vb, Xa.mono U'.1, Xb.mono U'.1, X'⟩, hg1, hg2, hg3, hg4⟩ (Sr.mono hInv' U'.1) (Z.weak ⟨rfl, trivial⟩)
      exact sx_execs_cons (sx_Continue (s_again prog w A'' _ _ P' s'' (forC (envWr doc pm cd ct an L f) it) rfl hx))
    | some b =>
      have e0 : (flagV (some b) == Value.none) = false := rfl
      rw [e0, if_neg (by decide)]
      refine sx_execs_nil ?_
      obtain ⟨nva, ta', Xna, Xta⟩ := id Xa
      obtain ⟨nvb, tb', Xnb, Xtb⟩ := id Xb
      have hFL : (F.gen gens').n ≤ L := Nat.le_trans hn hL
      refine sx_seq (P' := fun s' => ∃ g'', Up F.n g' g'' ∧ St (F.gen gens') g'' ((L, .vars [("totext", .str (S (textOf r.b.2)) tb'), ("toline", nvb), ("fromtext", .str (S (textOf r.a.2)) ta'), ("fromline", nva), ("flag", flagV r.fl), ("self", .ref x)]) :: (DL, .list its) :: (ms ++ os')) s') ?_ ?_
      · rw [hA']
        refine Assign_Tuple (r_tuple2 (r_ld Z rfl (r_ld Z rfl (r_newTuple Z (by simp) fun v2 g2 s₅ U2 X2 Z => ?_))))
        refine r_untup Z hFL hh' (X2.mono Z.dat) rfl rfl fun s₆ Z _ => ?_
        refine wpAny_assignInOrder_more (r_untup (x1 := 0) Z hFL hh' ((Xta.mono U2.1).mono Z.dat) rfl rfl fun s₇ Z _ => ?_)
        refine wpAny_assignInOrder_more (r_assign (env := envWr doc pm cd ct an L f) Z fun s₂ Z => ?_)
        refine wpAny_assignInOrder_more (r_assign (env := envWr doc pm cd ct an L f) Z fun s₃ Z => wpAny_assignInOrder_none ?_)
        refine wpAny_assignInOrder_more (r_untup (x1 := 0) Z hFL hh' ((Xtb.mono U2.1).mono Z.dat) rfl rfl fun s₇ Z _ => ?_)
        refine wpAny_assignInOrder_more (r_assign (env := envWr doc pm cd ct an L f) Z fun s₂ Z => ?_)
        refine wpAny_assignInOrder_more (r_assign (env := envWr doc pm cd ct an L f) Z fun s₃ Z => wpAny_assignInOrder_none (wpAny_assignInOrder_none ?_))
        exact ⟨rfl, g2, U2, Z.weak ⟨rfl, rfl, rfl, rfl, rfl, rfl, trivial⟩⟩
      rintro s₅ ⟨g₂, U2, Z⟩
      refine sx_seq (P' := fun s' => ∃ g'' FL TL, Up F.n g' g'' ∧ St (F.gen gens') g'' ((L, .vars [("fromlist", .ref FL), ("tolist", .ref TL), ("totext", .str (S (textOf r.b.2)) tb'), ("toline", nvb), ("fromtext", .str (S (textOf r.a.2)) ta'), ("fromline", nva), ("flag", flagV r.fl), ("self", .ref x)]) :: (FL, .list []) :: (TL, .list []) :: (DL, .list its) :: (ms ++ os')) s') ?_ ?_
      · rw [hA']
        refine Assign_Tuple_swapped (names := ["fromlist", "tolist"]) (r_tuple2 (r_list0 (r_newList Z (by simp) fun FL s₆ hFL' Z => r_list0 (r_newList Z (by simp) fun TL s₇ hTL' Z => r_newTuple Z (by simp) fun v2 g3 s₈ U3 X3 Z => ?_))))
        refine r_unpack Z hFL hh' (X3.mono Z.dat) rfl fun s₉ Z => ?_
        refine wpAny_assignInOrder_more (bindName_ (r_store (env := envWr doc pm cd ct an L f) Z fun s₂ Z => ?_))
        refine wpAny_assignInOrder_more (bindName_ (r_store (env := envWr doc pm cd ct an L f) Z fun s₃ Z => wpAny_assignInOrder_none ?_))
        refine ⟨rfl, g3, FL, TL, U2.trans U3, ?_⟩
        have Z' := Z.weak (vs' := [("fromlist", .ref FL), ("tolist", .ref TL), ("totext", .str (S (textOf r.b.2)) tb'), ("toline", nvb), ("fromtext", .str (S (textOf r.a.2)) ta'), ("fromline", nva), ("flag", flagV r.fl), ("self", .ref x)]) ⟨rfl, rfl, rfl, rfl, rfl, rfl, rfl, rfl, trivial⟩
        refine Z'.perm (.cons _ ?_)
        show ((((DL, Thing.list its) :: (ms ++ os')) ++ [(FL, Thing.list [])]) ++ [(TL, Thing.list [])]).Perm _
        rw [List.append_assoc]
        exact List.perm_append_comm
      rintro s₆ ⟨g₃, FL, TL, U3, Z⟩
      have CC : ∀ {g ms s'}, St (F.gen gens') g ms s' → CTxt K D D2 s'.heap := fun Z => hB.ctxt _ (hBk.trans Z.kp)
      have hBn : ∀ {a : Addr}, (F.gen gens').k a = none → B a = none := fun {a} q => by
        cases e : B a with
        | none => rfl
        | some o => exact absurd (hBk _ _ e) (by rw [show F.k a = none from q]; simp)
      have la := lenOf_good hg1
      have lb := lenOf_good hg2
      have ga := splitSide_good c hc r.a ⟨hg1, hg3⟩
      have gb := splitSide_good c hc r.b ⟨hg2, hg4⟩
      refine sx_seq (P' := fun s' => ∃ g'' fl, Up F.n g' g'' ∧ All2 (SideAt g'') fl (splitSide c r.a) ∧ St (F.gen gens') g'' ((L, .vars [("fromlist", .ref FL), ("tolist", .ref TL), ("totext", .str (S (textOf r.b.2)) tb'), ("toline", nvb), ("fromtext", .str (S (textOf r.a.2)) ta'), ("fromline", nva), ("flag", flagV r.fl), ("self", .ref x)]) :: (FL, .list fl) :: (TL, .list []) :: (DL, .list its) :: (ms ++ os')) s') ?_ ?_
      · rw [hA']
        have nF := Z.now (FL, .list []) (by simp)
        refine wpAny_Expr_any (r_split3 (K := K) (D := D) (D2 := D2) (r_ld Z rfl ⟨x, c, rfl, CC Z, hI.mono ((U.1.trans U3.1).trans Z.dat), r_ld Z rfl (r_ld Z rfl (r_ld Z rfl ⟨CC Z, ?_⟩))⟩)) (by rfl) (by rfl)
        refine split_spec hB c hc x FL (hBn nF.2.2) 301 r.a.2 r.a.1 nva ta' [] A' _ g₃ _ (by lia) (by lia) hh' (hBk.trans Z.kp) Z.dat nF.2.1 nF.1 (hI.mono (U.1.trans U3.1)) Xna hg3 hg1.1 (by have := hg1.2; lia) (by simp) ?_
        intro s₇ g₄ its' o1 o2 o3 o4 U4 o6 o7 o8 o9
        exact ⟨rfl, g₄, its', U3.trans (U4.low Z.sz), o9, Z.splitBack (i := 1) rfl o1 o2 o3 o4 U4 o6 o7 o8⟩
      rintro s₇ ⟨g₄, fl, U4, hfl4, Z⟩
      refine sx_seq (P' := fun s' => ∃ g'' tl, Up F.n g' g'' ∧ All2 (SideAt g'') fl (splitSide c r.a) ∧ All2 (SideAt g'') tl (splitSide c r.b) ∧ St (F.gen gens') g'' ((L, .vars (wv FL TL r.fl x)) :: (FL, .list fl) :: (TL, .list tl) :: (DL, .list its) :: (ms ++ os')) s') ?_ ?_
      · rw [hA']
        have nF := Z.now (TL, .list []) (by simp)
        refine wpAny_Expr_any (r_split3 (K := K) (D := D) (D2 := D2) (r_ld Z rfl ⟨x, c, rfl, CC Z, hI.mono ((U.1.trans U4.1).trans Z.dat), r_ld Z rfl (r_ld Z rfl (r_ld Z rfl ⟨CC Z, ?_⟩))⟩)) (by rfl) (by rfl)
        refine split_spec hB c hc x TL (hBn nF.2.2) 301 r.b.2 r.b.1 nvb tb' [] A' _ g₄ _ (by lia) (by lia) hh' (hBk.trans Z.kp) Z.dat nF.2.1 nF.1 (hI.mono (U.1.trans U4.1)) Xnb hg4 hg2.1 (by have := hg2.2; lia) (by simp) ?_
        intro s₈ g₅ its' o1 o2 o3 o4 U5 o6 o7 o8 o9
        exact ⟨rfl, g₅, its', U4.trans (U5.low Z.sz), hfl4.imp fun _ _ z => z.mono U5.1, o9, (Z.splitBack (i := 2) rfl o1 o2 o3 o4 U5 o6 o7 o8).weak ⟨rfl, rfl, rfl, rfl, trivial⟩⟩
      rintro s₈ ⟨g₅, tl, U5, hfl5, htl5, Z⟩
      refine sx_execs_cons ?_
      show SegX _ _ _ ((exec (.While (whTest wrWhile) (whBody wrWhile) [] _) _).wrap _ _ _ _) _ _ _
      rw [arm_exec_While]
      refine sx_bw (wpAny_standAt (sx_runOwn fun p2 => ?_))
      have hne : ¬ (splitSide c r.a = [] ∧ splitSide c r.b = []) := fun q => ga.2.2 q.1
      have htr : tr c r = zipPad r.fl (splitSide c r.a) (splitSide c r.b) := by simp [tr, hfl]
      refine wh_head (it := it) hh h1 ⟨_, p2, rfl, fun A'' fs'' s'' P'' hx => s_again prog w A'' _ _ P'' s'' (forC (envWr doc pm cd ct an L f) it) rfl hx⟩ Z hfl5 htl5 ga.1 gb.1 (by lia) (by lia) ?_ ?_
      · intro q
        rw [zip_cons _ _ _ hne] at q
        cases q
      · intro r1 rest1 hz v l k p g₆ s₉ fl' tl' a' b' hW U6 X6 hfl' htl' hga' hgb' la' lb' hz' Z
        refine kY r rest hr r1 rest1 (htr.trans hz) v l k _ p _ gens' g₆ os' _ s₉ (.inr ⟨FL, TL, r.fl, fl', tl', a', b', hW, hz'.symm, hfl', htl', hga', hgb', la', lb', rfl⟩) G1 (U.trans (U5.trans U6)) X6 (Sr.mono hInv' (U5.trans U6).1) Z
end
end Mine
end

section
open PySem PySem.W PyProof.Rows PySem.W.X
namespace Mine

def GenObj (g : View) (a : Addr) (i : Nat) : Prop := ∃ o nm qn, g a = some o ∧ o.cls = .type "generator" ∧ o.data = .fields #[.int i 0, nm, qn] ∧ o.slots = #[]
theorem GenObj.mono {g g' : View} {a i} (h : GenObj g a i) (k : Le g g') : GenObj g' a i := let ⟨o, nm, qn, e, r⟩ := h; ⟨o, nm, qn, k _ _ e, r⟩
theorem GenObj.isGen {g : View} {h : Heap} {a i} (x : GenObj g a i) (k : Le g h.get?) : h.IsGen a i := let ⟨o, nm, qn, e, r⟩ := x; ⟨o, nm, qn, k _ _ e, r⟩

theorem GMode.mono {prog w env it x L gs pend own g g'} (h : GMode prog w env it x L gs pend own g) (k : Le g g') : GMode prog w env it x L gs pend own g' := by
  rcases h with h | ⟨FL, TL, flag, fl, tl, a, b, h1, h2, h3, h4, h5⟩
  · exact .inl h
  · exact .inr ⟨FL, TL, flag, fl, tl, a, b, h1, h2, h3.imp fun _ _ z => z.mono k, h4.imp fun _ _ z => z.mono k, h5⟩

def InvG (prog : Program) (w : World) (C : Addr) (env : Env) (i : Nat) (it x L a : Addr) (c : Nat) (Inv : InvT) : InvT := fun its rows gens g os =>
  ∃ gs own os' pend rows', gens[i]? = some gs ∧ os = own ++ os' ∧ rows = pend ++ rows'.flatMap (tr c) ∧ Inv its rows' gens g os' ∧ InstG C g x c ∧ GenObj g a i ∧
    ((gs = .fresh (.func (defBody dWrap) env) ∧ pend = [] ∧ own = [(L, .vars [("diffs", .ref it), ("self", .ref x)])]) ∨ GMode prog w env it x L gs pend own g)

theorem perm_out {α : Type} (own : List α) (p : α) (ms os : List α) : (own ++ p :: (ms ++ os)).Perm (p :: (ms ++ (own ++ os))) := by
  refine List.perm_middle.trans (.cons _ ?_)
  rw [← List.append_assoc, ← List.append_assoc]
  exact List.Perm.append_right _ List.perm_append_comm

theorem St.gen {F : Fx} {g : View} {ms : List (Addr × Thing)} {s : Shared} (Z : St F g ms s) (i : Nat) (x : GenState) : St (F.gen (F.gens.setIfInBounds i x)) g ms (s.setGen i x) :=
  ⟨Z.os, by show s.gens.setIfInBounds i x = _; rw [Z.gens], Z.sz, Z.kp, Z.dat, Z.now, Z.nd⟩

theorem set_ne {G : Array GenState} {i j : Nat} {x : GenState} (h : j ≠ i) : (G.setIfInBounds i x)[j]? = G[j]? := by
  rw [Array.getElem?_setIfInBounds, if_neg (fun q => h q.symm)]
theorem set_at {G : Array GenState} {i : Nat} {x y : GenState} (h : G[i]? = some y) : (G.setIfInBounds i x)[i]? = some x := by
  have : i < G.size := by
    rcases Nat.lt_or_ge i G.size with q | q
    · exact q
    · rw [Array.getElem?_eq_none q] at h; cases h
  rw [Array.getElem?_setIfInBounds, if_pos rfl, if_pos this]

theorem owned_gen {prog : Program} {w : World} {A : Around} {E : Value → Shared → Prop} {s : Shared} {elts : List Expr} {x1} {pos : Pos} {I T : Addr} {i : Nat} {Q : Unit → Shared → Prop} (hit : s.heap.IsGen I i) (hQ : Q () s) :
    wpAny (model prog w) A (letOwnedTupleGo (.Tuple elts x1 pos) (.ref I) (.ref T)) Q E s := by
  obtain ⟨o, nm, qn, ho, hc, hd, _⟩ := hit
  unfold letOwnedTupleGo
  refine wpAny_bind (wpAny_load ho ?_)
  rw [hc, hd]
  show wpAny _ A (if (["enumerate", "zip", "dict_itemiterator", "dict_reverseitemiterator", "odict_iterator", "itertools.zip_longest", "itertools.pairwise"].contains "generator" &&
      (#[.int i 0, nm, qn] : Array Value)[0]? == some (rawInt T)) = true then _ else _) Q E s
  rw [if_neg (by
    intro h
    rw [show (["enumerate", "zip", "dict_itemiterator", "dict_reverseitemiterator", "odict_iterator", "itertools.zip_longest", "itertools.pairwise"].contains "generator") = false from by decide, Bool.false_and] at h
    cases h)]
  exact wpAny_pure hQ

section
variable {prog : Program} {w : World} {doc pm cd ct : Value} {an : Option Addr} {L f : Addr}
  {B : View} {K : Frag} {D : Ad} {D2 : Ad2} {n₀ lo i d : Nat} {DL it x a : Addr} {T : RowG → List RowG} {Inv : InvT} {c : Nat}

theorem src_step {d' : Nat} (Sr : Src prog w B n₀ lo i d DL it T Inv) (hB : Base B K D D2) (hlo : lo ≤ i) (hc : 0 < c) (hL : n₀ ≤ L) (hd1 : d + 2 ≤ d') (hd2 : 305 ≤ d') :
    Src prog w B n₀ lo (i + 1) d' DL a (fun r => (T r).flatMap (tr c)) (InvG prog w D.html (envWr doc pm cd ct an L f) i it x L a c Inv) where
  next := by
    rintro its rows A F g ms os s Q E hh hd hBk hn hits ⟨gs, own, os', pend, rows', hgs, rfl, hrows, hInv, hI, hG, hmode⟩ Z k1 k2
    have Zr := Z.gen i .running
    have hgsS : s.gens[i]? = some gs := by rw [Z.gens]; exact hgs
    have hInvR : Inv its rows' (F.gens.setIfInBounds i .running) g os' := Sr.gens hInv fun j h1 h2 => set_ne (by lia)
    have hGK : GK lo (i + 1) F.gens (F.gens.setIfInBounds i .running) := ⟨by simp, fun j q => set_ne (by lia)⟩
    have Zo : St (F.gen (F.gens.setIfInBounds i .running)) g (own ++ (DL, .list its) :: (ms ++ os')) (s.setGen i .running) := Zr.perm (perm_out own _ ms os').symm
    have hlim := (hB.txt _ (hBk.trans Z.kp)).lim
    have hin1h : A.in1.handled = none := hh
    have hin1d : A.in1.depth = A.depth := rfl
    -- the ends
    have fin : rows = [] → ∀ gens' g' (s' : Shared), GK lo i (F.gens.setIfInBounds i .running) gens' → (∀ j, lo ≤ j → j < i → gens'[j]? = some .finished) → Up F.n g g' →
        St (F.gen gens') g' ((L, .vars [("self", .ref x)]) :: (DL, .list its) :: ms) s' →
        ((Except.ok (Flow.ret Value.none) : Result) = .ok (.ret .none) ∧ ∀ h' : Heap, Le s'.heap.get? h'.get? → s'.heap.objs.size ≤ h'.objs.size → Q none { s'.setGen i .finished with heap := h' }) := by
      intro hr gens' g' s' G1 G2 U Z'
      refine ⟨rfl, fun h' le sz => ?_⟩
      have hat : gens'[i]? = some .running := (G1.2 i (.inr (Nat.le_refl _))).trans (set_at hgs)
      have Z2 := ((Z'.drop 0).gen i .finished)
      refine k1 hr (gens'.setIfInBounds i .finished) g' _ ?_ ?_ U (Z2.ext rfl rfl sz le)
      · refine hGK.trans ((G1.wide (Nat.le_refl _) (Nat.le_succ _)).trans ⟨by simp, fun j q => set_ne (by lia)⟩)
      · intro j h1 h2
        by_cases q : j = i
        · subst q; exact set_at hat
        · rw [set_ne q]; exact G2 j h1 (by lia)
    have yld : ∀ v l k cc p fs gens' g' os'' own' (s' : Shared) r1 pend' rows'', rows = r1 :: (pend' ++ rows''.flatMap (tr c)) → GMode prog w (envWr doc pm cd ct an L f) it x L (End.susp v false l k cc p fs).genState pend' own' g' →
        GK lo i (F.gens.setIfInBounds i .running) gens' → Up F.n g g' → RowOk g' v r1 → Inv its rows'' gens' g' os'' → St (F.gen gens') g' (own' ++ (DL, .list its) :: (ms ++ os'')) s' →
        Q (some v) (s'.setGen i (End.susp v false l k cc p fs).genState) := by
      intro v l k cc p fs gens' g' os'' own' s' r1 pend' rows'' hr hm G1 U X hInv' Z'
      have hat : gens'[i]? = some .running := (G1.2 i (.inr (Nat.le_refl _))).trans (set_at hgs)
      refine k2 r1 _ hr v (gens'.setIfInBounds i (End.susp v false l k cc p fs).genState) g' (own' ++ os'') _ ?_ U X ?_ ((Z'.perm (perm_out own' _ ms os'')).gen i _)
      · refine hGK.trans ((G1.wide (Nat.le_refl _) (Nat.le_succ _)).trans ⟨by simp, fun j q => set_ne (by lia)⟩)
      · exact ⟨_, own', os'', pend', rows'', set_at hat, rfl, rfl, Sr.gens hInv' fun j h1 h2 => set_ne (by lia), hI.mono U.1, hG.mono U.1, .inr hm⟩
    -- the for head, from any state
    have forH : ∀ {fr1 : Frame} {s₁ : Shared}, FrA prog w (envWr doc pm cd ct an L f) fr1 → rows = rows'.flatMap (tr c) →
        St (F.gen (F.gens.setIfInBounds i .running)) g ((L, .vars [("self", .ref x)]) :: (DL, .list its) :: (ms ++ os')) s₁ →
        SegX (model prog w) A.in1 (forC (envWr doc pm cd ct an L f) it) (denote table (forC (envWr doc pm cd ct an L f) it)) [fr1] s₁ (fun e s₁ => match e with
          | .ret r => r = .ok (.ret .none) ∧ ∀ h' : Heap, Le s₁.heap.get? h'.get? → s₁.heap.objs.size ≤ h'.objs.size → Q none { s₁.setGen i .finished with heap := h' }
          | .susp v g₁ l₁ k₁ c₁ p₁ fs₁ => Q (some v) (s₁.setGen i (End.susp v g₁ l₁ k₁ c₁ p₁ fs₁).genState)) := by
      intro fr1 s₁ h1 hr Z1
      refine for_head (F := F.gen (F.gens.setIfInBounds i .running)) (ms := ms) (os := os') Sr hB hin1h (by lia) (by lia) h1 hn hL hBk hits hI hc hInvR Z1 ?_ ?_
      · intro hr' gens' g' s' G1 G2 U Z'
        exact fin (by rw [hr, hr']; rfl) gens' g' s' G1 G2 U Z'
      · intro r rest hr' r1 rest1 ht v l k cc p fs gens' g' os'' own' s' hm G1 U X hInv' Z'
        refine yld v l k cc p fs gens' g' os'' own' s' r1 rest1 rest ?_ hm G1 U X hInv' Z'
        rw [hr, hr', List.flatMap_cons, ht]; rfl
    rcases hmode with ⟨rfl, rfl, rfl⟩ | ⟨⟨k, l, p, fr1, cl, rfl, h1, hk⟩, rfl, rfl⟩ | ⟨FL, TL, flag, fl, tl, sa, sb, ⟨k, l, p, fr2, fr1, cl, rfl, h1, h2, hk⟩, rfl, hfl, htl, hga, hgb, la, lb, rfl⟩
    · refine next_gen hh hlim (by lia) (hG.isGen Z.dat) hgsS (.inl ⟨rfl, rfl, rfl⟩) (sx_func (sx_execs_cons ?_))
      show SegX _ _ _ ((exec (.For (forTarget wrFor) (forIter wrFor) (forBody wrFor) [] _) _).wrap _ _ _ _) _ _ _
      rw [arm_exec_For]
      refine sx_bw (wpAny_standAt (sx_bw (r_ld (env := envWr doc pm cd ct an L f) Zo rfl (sx_bw (wpAny_of_eq rfl (sx_bw (wpAny_standAt (sx_bw (wpAny_holding ?_)))))))))
      refine Sr.iter (F := F.gen (F.gens.setIfInBounds i .running)) (ms := (L, .vars [("diffs", .ref it), ("self", .ref x)]) :: ms) hInvR (Zo.perm (List.Perm.swap _ _ _)) ?_
      refine sx_runOwn fun p2 => ?_
      refine forH ⟨_, p2, rfl, fun A'' s'' P'' hx => ?_⟩ hrows (Zo.weak ⟨rfl, trivial⟩)
      exact s_end prog w A'' _ P'' s'' (.ok (.ret .none)) _ rfl hx
    · exact next_gen hh hlim (by lia) (hG.isGen Z.dat) hgsS (.inr ⟨k, l, p, cl, rfl, rfl⟩) (hk _ _ _ (forH h1 hrows Zo))
    · refine next_gen hh hlim (by lia) (hG.isGen Z.dat) hgsS (.inr ⟨k, l, p, cl, rfl, rfl⟩) (hk _ _ _ ?_)
      refine wh_head (it := it) hin1h h1 h2 Zo hfl htl hga hgb la lb ?_ ?_
      · intro hz s' Z'
        exact forH h1 (by rw [hrows, hz]; rfl) Z'
      · intro r1 rest1 hz v l' k' p' g' s' fl' tl' a' b' hW U X hfl' htl' hga' hgb' la' lb' hz' Z'
        refine yld v l' k' _ p' _ _ g' os' _ s' r1 (zipPad flag a' b') rows' ?_ (.inr ⟨FL, TL, flag, fl', tl', a', b', hW, rfl, hfl', htl', hga', hgb', la', lb', rfl⟩) (GK.refl _ _ _) U X (Sr.mono hInvR U.1) Z'
        rw [hrows, hz, hz']; rfl
  iter := by
    rintro its rows A F g ms os s Q E ⟨gs, own, os', pend, rows', hgs, rfl, hrows, hInv, hI, hG, hmode⟩ Z h
    exact wpAny_pyIter_gen (hG.isGen Z.dat) h
  owned := by
    rintro its rows A F g ms os s Q E elts x1 pos T ⟨gs, own, os', pend, rows', hgs, rfl, hrows, hInv, hI, hG, hmode⟩ Z h
    exact owned_gen (hG.isGen Z.dat) h
  mono := by
    rintro its rows gens g g' os ⟨gs, own, os', pend, rows', hgs, rfl, hrows, hInv, hI, hG, hmode⟩ k
    exact ⟨gs, own, os', pend, rows', hgs, rfl, hrows, Sr.mono hInv k, hI.mono k, hG.mono k, hmode.imp id fun h => h.mono k⟩
  gens := by
    rintro its rows gens gens' g os ⟨gs, own, os', pend, rows', hgs, rfl, hrows, hInv, hI, hG, hmode⟩ k
    exact ⟨gs, own, os', pend, rows', (k i hlo (Nat.lt_succ_self _)).trans hgs, rfl, hrows, Sr.gens hInv fun j h1 h2 => k j h1 (by lia), hI, hG, hmode⟩
  push := by
    rintro its rows gens g os v r ⟨gs, own, os', pend, rows', hgs, rfl, hrows, hInv, hI, hG, hmode⟩ h
    refine ⟨gs, own, os', pend, rows' ++ T r, hgs, rfl, ?_, Sr.push hInv h, hI, hG, hmode⟩
    rw [hrows, List.flatMap_append, List.append_assoc]
end
end Mine
end

section
open PySem PySem.W PyProof.Rows PySem.W.X
namespace Mine

structure Mk (K : Frag) (D : Ad) (D2 : Ad2) (h : Heap) : Prop where
  kin : K.In h
  makes : makesIn K D.html = true
  keep : keepIn K (.ref D.html) = true
  fInit : findIn K (.ref D.html) "__init__" = some (some (.ref D2.init))
  tInit : typeIn K (.ref D2.init) = some (.type "function")
  seta : findIn K (.ref D.html) "__setattr__" = some (some (.builtin "object.__setattr__"))
  over : plainOver K D.html = true
  dict : hasDictIn K D.html = true
  t1 : takerIn K D.html "_tabsize" = some none
  t2 : takerIn K D.html "_wrapcolumn" = some none
  t3 : takerIn K D.html "_linejunk" = some none
  t4 : takerIn K D.html "_charjunk" = some none
  init : ∃ T o v0 v1 v2 v3 n, FnAt h D2.init "__init__" "HtmlDiff.__init__" dInit (.ref T) ∧ h.get? T = some o ∧ o.data = .seq #[v0, v1, v2, v3] n

section
variable {prog : Program} {w : World} {A : Around} {E : Value → Shared → Prop} {env : Env} {F : Fx} {g : View} {ms : List (Addr × Thing)} {s : Shared} {K : Frag} {D : Ad} {D2 : Ad2}

theorem putL_len (name : Str) (hsh : Int) (key v : Value) : ∀ l : List DictEntry, (putL name hsh key v l).length ≤ l.length + 1
  | [] => by simp [putL]
  | e :: r => by
    have := putL_len name hsh key v r
    unfold putL; split <;> simp <;> lia
theorem osa_S {i : Nat} {dx x : Addr} {es : List DictEntry} {n : Nat} {name : Str} {tk : Tok} {v : Value} {R : Result → Shared → Prop} (Z : St F g ms s) (hi : ms[i]? = some (dx, .raw (· = dictOf es n))) (hx : s.heap.get? x = some (instObj D.html dx))
    (X : K.In s.heap) (hp : plainOver K D.html = true) (hh : hasDictIn K D.html = true) (ht : takerIn K D.html name = some none) (hl : (getL name es).isSome = true) (hz : (putL name 0 .none v es).length ≤ 900)
    (h : ∀ k s', St F g (ms.set i (dx, .raw (· = dictOf (putL name (PyData.keyHash w.params name) (.str name k) v es) (putN name es n)))) s' → R (.ok (.ret .none)) s') :
    codeAny (model prog w) A (.call (.builtin "object.__setattr__") ⟨[.ref x, .str name tk, v], []⟩) R s := by
  obtain ⟨od, D0, hod⟩ := Z.own i hi
  have hod' : od = dictOf es n := hod
  subst hod'
  have I : InstAt s.heap x (instObj D.html dx) D.html (some (dictOf es n)) := ⟨hx, rfl, rfl, D0⟩
  refine osa_open X I hp ht fun b => ?_
  obtain ⟨cd, hc, hd'⟩ := any_some hh
  have hlen : ∀ (a b : Int) (c d : Value) (l : List DictEntry), (putL name a c v l).length = (putL name b d v l).length := by
    intro a b c d l
    induction l with
    | nil => rfl
    | cons e r ih => unfold putL; split <;> simp [ih]
  have e' := putName_dict name (PyData.keyHash w.params name) (.str name s.toks) v es n
  have D' : (s.heap.update dx (Obj.putName name (PyData.keyHash w.params name) (.str name s.toks) v)).get? dx = some (dictOf (putL name (PyData.keyHash w.params name) (.str name s.toks) v es) (putN name es n)) := by
    rw [← e']
    exact Heap.get?_update_self _ D0 (by rw [e']; rfl)
  refine wpAny_bind (wpAny_pure (wpAny_bind (wpAny_bind (wpAny_loadPart hx (wpAny_bind ((looks_clsIn X hc).here ?_))))))
  rw [hd']
  refine wpAny_pure (a := some dx) (wpAny_bind (wpAny_pure (wpAny_bind ?_)))
  unfold nsSet
  refine wpAny_bind (wpAny_bind (wpAny_askSetting (wpAny_pure (wpAny_bind (wpAny_mkText (wpAny_bind (wpAny_loadPart D0 ?_)))))))
  have c : (!es.toArray.any (·.key.isStr name) && es.toArray.any (·.refKey)) = false := by
    rw [← Array.any_toList, ← Array.any_toList]
    unfold getL at hl
    split at hl
    · rename_i en he
      have he' : List.find? (fun x => x.key.isStr name) es = some en := he
      rw [List.any_eq_true.mpr ⟨en, List.mem_of_find?_eq_some he', List.find?_some he'⟩]; rfl
    · split at hl
      · cases hl
      · rename_i z; rw [Bool.not_eq_true] at z
        rw [show es.toArray.toList = es from rfl, z, Bool.and_false]
  dsimp only [dictOf]
  rw [aRefKeyMayBeTheName_at, c]
  refine wpAny_updatePart D0 ?_
  refine wpAny_bind (wpAny_lookBehind D' (pastItsLine_dict (by rw [List.size_toArray, sizeLine_eq, hlen _ 0 _ .none]; lia)) ?_)
  refine wpAny_pure ?_
  exact h s.toks _ ((Z.change i hi (t' := .raw (· = dictOf (putL name (PyData.keyHash w.params name) (.str name s.toks) v es) (putN name es n))) (Heap.SameBut.update ..) ⟨_, D', rfl⟩).toks _)

theorem r_setAttr {i : Nat} {dx x : Addr} {es : List DictEntry} {n : Nat} {name : Str} {v : Value} {Q : Unit → Shared → Prop} (Z : St F g ms s) (hi : ms[i]? = some (dx, .raw (· = dictOf es n))) (hx : s.heap.get? x = some (instObj D.html dx))
    (X : K.In s.heap) (hs : findIn K (.ref D.html) "__setattr__" = some (some (.builtin "object.__setattr__"))) (hp : plainOver K D.html = true) (hh : hasDictIn K D.html = true) (ht : takerIn K D.html name = some none) (hl : (getL name es).isSome = true) (hz : (putL name 0 .none v es).length ≤ 900)
    (h : ∀ k s', St F g (ms.set i (dx, .raw (· = dictOf (putL name (PyData.keyHash w.params name) (.str name k) v es) (putN name es n)))) s' → Q () s') :
    wpAny (model prog w) A (setAttr (.ref x) name v) Q E s := by
  obtain ⟨od, D0, hod⟩ := Z.own i hi
  have hod' : od = dictOf es n := hod
  subst hod'
  have I : InstAt s.heap x (instObj D.html dx) D.html (some (dictOf es n)) := ⟨hx, rfl, rfl, D0⟩
  exact set_plain X I hs (osa_S (s := { s with toks := s.toks + 1 }) (Z.toks _) hi hx X hp hh ht hl hz h)

abbrev envIn (dflt doc pm cd ct : Value) (an : Option Addr) (L f : Addr) : Env := callEnv (mkFd "__init__" "HtmlDiff.__init__" dInit dflt doc pm cd ct an) L f

theorem make_spec {R : Result → Shared → Prop} {c : Nat} {t8 tc : Tok} (M : Mk K D D2 s.heap) (hlim : s.heap.NoLimit) (hroom : A.depth + 1 < recursionLimit) (hg : Le g s.heap.get?)
    (h : ∀ x g' s', s'.os = s.os → s'.gens = s.gens → s.heap.objs.size ≤ s'.heap.objs.size → Le s.heap.get? s'.heap.get? → Up s.heap.objs.size g g' → Le g' s'.heap.get? → InstG D.html g' x c → R (.ok (.ret (.ref x))) s') :
    codeAny (model prog w) A (.call (.ref D.html) ⟨[.int 8 t8, .int (c : Int) tc], []⟩) R s := by
  obtain ⟨hp, gn, dr, tk, oss⟩ := s
  refine make_core (makes_of M.kin M.makes) (looks_findIn M.kin M.fInit) (fun self => bind_fn M.kin self M.tInit) (.inl rfl) ?_
  have k1 : Le hp.get? ((hp.push emptyDict).push (instObj D.html hp.objs.size)).get? := fun b o e => Heap.get?_push_of_some _ (Heap.get?_push_of_some _ e)
  have hsz : ((hp.push emptyDict).push (instObj D.html hp.objs.size)).objs.size = hp.objs.size + 1 + 1 := by rw [Heap.size_push, Heap.size_push]
  have hx : ((hp.push emptyDict).push (instObj D.html hp.objs.size)).get? (hp.objs.size + 1) = some (instObj D.html hp.objs.size) := by heap_get
  have hdx : ((hp.push emptyDict).push (instObj D.html hp.objs.size)).get? hp.objs.size = some emptyDict := by heap_get
  have hnone : ∀ a, hp.objs.size ≤ a → g a = none := fun a ha => by
    cases q : g a with
    | none => rfl
    | some o => exact absurd (Heap.lt_size (hg _ _ q)) (Nat.not_lt.mpr ha)
  have hg1 : Le (put g (hp.objs.size + 1) (instObj D.html hp.objs.size)) ((hp.push emptyDict).push (instObj D.html hp.objs.size)).get? := fun a o e => by
    unfold put at e
    split at e
    · rename_i q; cases e; rw [q]; exact hx
    · exact k1 _ _ (hg _ _ e)
  obtain ⟨T, o, v0, v1, v2, v3, n, hfn, hT, hTd⟩ := M.init
  refine r_callL (DL := hp.objs.size) (th := .raw (· = dictOf [] 0)) (g := put g (hp.objs.size + 1) (instObj D.html hp.objs.size)) (binds := [("self", .ref (hp.objs.size + 1)), ("tabsize", .int 8 t8), ("wrapcolumn", .int (c : Int) tc), ("linejunk", v2), ("charjunk", v3)])
    (hfn.mono k1) (hlim.keeps k1) hroom hg1 ⟨_, hdx, rfl⟩ ?_ (fun doc pm cd ct an => BindsTo.of_defaults (T := T) rfl (k1 _ _ hT) hTd rfl rfl) (fun F doc pm cd ct an A' s₁ f1 f2 f3 f4 a1 a2 a3 Z => ?_)
  · unfold put
    rw [if_neg (Nat.ne_of_lt (Nat.lt_succ_self _))]; exact hnone _ (Nat.le_refl _)
  have kk : Le hp.get? F.k := by
    rw [f2]
    intro a o e
    unfold but
    rw [if_neg (Nat.ne_of_lt (Heap.lt_size e))]; exact k1 _ _ e
  have hFn : F.n = hp.objs.size + 1 + 1 := f1.trans hsz
  have kx : F.k (hp.objs.size + 1) = some (instObj D.html hp.objs.size) := by
    rw [f2]; unfold but
    rw [if_neg (Nat.ne_of_gt (Nat.lt_succ_self _))]; exact hx
  have KK : ∀ {g ms s'}, St F g ms s' → K.In s'.heap := fun Z => M.kin.keeps (kk.trans Z.kp)
  have XX : ∀ {g ms s'}, St F g ms s' → s'.heap.get? (hp.objs.size + 1) = some (instObj D.html hp.objs.size) := fun Z => Z.kp _ _ kx
  change St F _ [(F.n, .vars [("charjunk", v3), ("linejunk", v2), ("wrapcolumn", .int (c : Int) tc), ("tabsize", .int 8 t8), ("self", .ref (hp.objs.size + 1))]), (hp.objs.size, .raw (· = dictOf [] 0))] s₁ at Z
  refine wpAny_execs_cons (plainObj_wpAny_Assign_Attribute (r_ld Z rfl (r_ld Z rfl (r_setAttr (i := 1) Z rfl (XX Z) (KK Z) M.seta M.over M.dict M.t1 rfl (by simp [putL]) fun k1 s₂ Z => ?_))))
  refine wpAny_execs_cons (plainObj_wpAny_Assign_Attribute (r_ld Z rfl (r_ld Z rfl (r_setAttr (i := 1) Z rfl (XX Z) (KK Z) M.seta M.over M.dict M.t2 rfl ?_ fun k2 s₃ Z => ?_))))
  · show (_ : Nat) ≤ _; exact Nat.le_trans (putL_len _ _ _ _ _) (show (1 : Nat) + 1 ≤ 900 by decide)
  refine wpAny_execs_cons (plainObj_wpAny_Assign_Attribute (r_ld Z rfl (r_ld Z rfl (r_setAttr (i := 1) Z rfl (XX Z) (KK Z) M.seta M.over M.dict M.t3 rfl ?_ fun k3 s₄ Z => ?_))))
  · show (_ : Nat) ≤ _; exact Nat.le_trans (putL_len _ _ _ _ _) (Nat.le_trans (Nat.succ_le_succ (putL_len _ _ _ _ _)) (show (1 : Nat) + 1 + 1 ≤ 900 by decide))
  refine wpAny_execs_cons (plainObj_wpAny_Assign_Attribute (r_ld Z rfl (r_ld Z rfl (r_setAttr (i := 1) Z rfl (XX Z) (KK Z) M.seta M.over M.dict M.t4 rfl ?_ fun k4 s₅ Z => ?_))))
  · show (_ : Nat) ≤ _; exact Nat.le_trans (putL_len _ _ _ _ _) (Nat.le_trans (Nat.succ_le_succ (Nat.le_trans (putL_len _ _ _ _ _) (Nat.succ_le_succ (putL_len _ _ _ _ _)))) (show (1 : Nat) + 1 + 1 + 1 ≤ 900 by decide))
  refine wpAny_execs_nil ⟨rfl, ?_⟩
  have nD := Z.now _ (.tail _ (.head _))
  obtain ⟨od, hod, hod2⟩ := nD.1
  have U : Up hp.objs.size g (put (put g (hp.objs.size + 1) (instObj D.html hp.objs.size)) hp.objs.size od) := by
    refine ⟨(put_le (hnone _ (Nat.le_succ _)) _).trans (put_le nD.2.1 _), fun a o e => ?_⟩
    unfold put at e
    split at e
    · rename_i q; right; rw [q]; exact Nat.le_refl _
    · split at e
      · rename_i q; right; rw [q]; exact Nat.le_succ _
      · left; exact e
  have hdat : Le (put (put g (hp.objs.size + 1) (instObj D.html hp.objs.size)) hp.objs.size od) s₅.heap.get? := fun a o e => by
    unfold put at e
    split at e
    · rename_i q; cases e; rw [q]; exact hod
    · exact Z.dat _ _ e
  refine h _ _ s₅ (Z.os.trans f3) (Z.gens.trans f4) ?_ (kk.trans Z.kp) U hdat ?_
  · show hp.objs.size ≤ _
    have := Z.sz
    rw [hFn] at this
    lia
  · obtain ⟨es, nn, e1, w1, w2⟩ : ∃ es nn, od = dictOf es nn ∧ getL "_wrapcolumn" es = some (some (.int (c : Int) tc)) ∧ getL "_split_line" es = some none ∧ getL "_line_wrapper" es = some none := ⟨_, _, hod2, rfl, rfl, rfl⟩
    refine ⟨hp.objs.size, es, nn, tc, ?_, by rw [put_self, e1], w1, w2⟩
    show put _ _ _ _ = _
    unfold put
    rw [if_neg (Nat.ne_of_gt (Nat.lt_succ_self _)), if_pos rfl]
end
end Mine
end

section
open PySem PySem.W PyProof.Rows PySem.W.X
namespace Mine

section
variable {prog : Program} {w : World} {A : Around} {E : Value → Shared → Prop} {env : Env} {F : Fx} {g : View} {ms : List (Addr × Thing)} {s : Shared} {K : Frag} {D : Ad} {D2 : Ad2}

theorem wrap_spec {R : Result → Shared → Prop} {x : Addr} {itv : Value} (Z : St F g ms s) (X : FnAt s.heap D2.wrap "_line_wrapper" "HtmlDiff._line_wrapper" dWrap .none) (hlim : s.heap.NoLimit) (hroom : A.depth < recursionLimit)
    (h : ∀ doc pm cd ct an L a g' s', F.n ≤ L → Up F.n g g' → GenObj g' a F.gens.size →
      St (F.gen (F.gens.push (.fresh (.func (defBody dWrap) (envWr doc pm cd ct an L D2.wrap))))) g' (ms ++ [(L, .vars [("diffs", itv), ("self", .ref x)])]) s' → R (.ok (.ret (.ref a))) s') :
    codeAny (model prog w) A (.call (.ref D2.wrap) ⟨[.ref x, itv], []⟩) R s := by
  obtain ⟨o, doc, pm, cd, ct, an, e, p, hcd⟩ := X
  refine codeAny_call_generator hroom e p rfl rfl rfl hcd ?_
  have hb : bindArgs (mkFd "_line_wrapper" "HtmlDiff._line_wrapper" dWrap .none doc pm cd ct an) ⟨[.ref x, itv], []⟩ = (pure [("self", .ref x), ("diffs", itv)] : Sem (List (Str × Value))) := rfl
  refine wpAny_of_eq hb ?_
  refine wpAny_newFunctionEnv (s := s) ?_ ?_ (fun h' hn' hs' => ?_) rfl
  · intro y hy q
    have : ((defScope dWrap).names.all fun x => x.2 != .cell) = true := by rfl
    have := List.all_eq_true.mp this y hy
    rw [q] at this; cases this
  · intro y hy
    rcases List.mem_cons.mp hy with rfl | hy
    · rfl
    · rw [List.mem_singleton.mp hy]; rfl
  have Z1 := Z.allocM (o := { cls := .type "frame", data := .dict #[] }) (t := .raw fun _ => True) rfl trivial
  have Z2 := Z1.change ms.length (a := s.heap.objs.size) (t := .raw fun _ => True) (t' := .vars [("diffs", itv), ("self", .ref x)]) (h' := h') (by simp) hs' (ns_own hn' fun _ _ e => e)
  rw [show (ms ++ [(s.heap.objs.size, Thing.raw fun _ => True)]).set ms.length (s.heap.objs.size, .vars [("diffs", itv), ("self", .ref x)]) = ms ++ [(s.heap.objs.size, .vars [("diffs", itv), ("self", .ref x)])] by simp [List.set_append]] at Z2
  have keep : Le s.heap.get? h'.get? := fun b o e => hs'.extBut b o (Nat.ne_of_lt (Heap.lt_size e)) (Heap.get?_push_of_some _ e)
  refine ⟨hlim.keeps keep, ?_⟩
  have Z3 : St (F.gen (F.gens.push (.fresh (.func (defBody dWrap) (envWr doc pm cd ct an s.heap.objs.size D2.wrap))))) g (ms ++ [(s.heap.objs.size, .vars [("diffs", itv), ("self", .ref x)])])
      { s with heap := h', gens := s.gens.push (.fresh (.func (defBody dWrap) (envWr doc pm cd ct an s.heap.objs.size D2.wrap))), toks := s.toks + 2 + 1 + 1 } :=
    ⟨Z2.os, by show s.gens.push _ = _; rw [Z.gens], Z2.sz, Z2.kp, Z2.dat, Z2.now, Z2.nd⟩
  have Z4 := Z3.allocI (o := { cls := .type "generator", data := .fields #[.int s.gens.size 0, .str "_line_wrapper" (s.toks + 2), .str "HtmlDiff._line_wrapper" (s.toks + 2 + 1)] }) rfl
  refine h doc pm cd ct an s.heap.objs.size h'.objs.size _ _ Z.sz Z4.1 ?_ Z4.2
  exact ⟨_, _, _, put_self _ _ _, rfl, by rw [← Z.gens], rfl⟩

/-- `HtmlDiff(8, column)._line_wrapper(flow)` -/
theorem r_wrapcall {o e₁ : Expr} {apos pos : Pos} {Q : Value → Shared → Prop}
    (h : wpAny (model prog w) A (eval o env) (fun ov s₁ => ∃ x c, ov = .ref x ∧ CTxt K D D2 s₁.heap ∧ InstG D.html s₁.heap.get? x c ∧
      wpAny (model prog w) A (eval e₁ env) (fun a s₂ => CTxt K D D2 s₂.heap ∧
        codeAny (model prog w) A (.call (.ref D2.wrap) ⟨[.ref x, a], []⟩) (fun r s' => match r with | .ok (.ret v) => Q v s' | .ok _ => False | .error e => E e s') s₂) E s₁) E s)
    (hbase : attributeBase o "_line_wrapper" env (eval o env) = eval o env := by rfl)
    (hform : methodCallForm (([e₁] : List Expr).length + ([] : List Keyword).length) (backTo pos (starEach [e₁] env)) (backToKw pos (keywordEach [] env)) = true := by rfl)
    (hline : (apos.endLine == pos.line) = true := by rfl)
    (htrees : backTo pos (starEach [e₁] env) = [(false, eval e₁ env)] := by rfl) :
    wpAny (model prog w) A (eval (.Call (.Attribute o "_line_wrapper" apos) [e₁] [] pos) env) Q E s := by
  rw [arm_eval_Call, hbase]
  refine wpAny_bind (wpAny_mono h (fun ov s₁ h₁ => ?_) fun _ _ e => e)
  obtain ⟨x, c, rfl, T, ⟨dx, es, n, t, h1, h2, h3, _, h4⟩, hc⟩ := h₁
  refine wpAny_bind (wpAny_standAt ?_)
  have hpos : methodCallPos true o env apos pos = pure pos := by unfold methodCallPos; simp [hline]
  unfold methodCall
  rw [hform]
  refine wpAny_bind (wpAny_holding (method_fn (od := some (dictOf es n)) T.kin ⟨h1, rfl, rfl, h2⟩ T.cls.ga T.cls.gat T.cls.fWrap T.cls.tWrap (by show (lookIn "_line_wrapper" (dictOf es n)).map _ = _; rw [lookIn_dict, h4]; rfl) ?_))
  refine wpAny_bind (wpAny_of_eq hpos ?_)
  rw [htrees]
  unfold callWith
  refine wpAny_bind (wpAny_holding (Calls.evalArgs_plain (Calls.spliced_cons (wpAny_mono hc (fun a s₂ h₂ => Calls.spliced_nil (wpAny_bind (wpAny_standAt ?_))) fun _ _ e => e))))
  obtain ⟨T4, hcall⟩ := h₂
  obtain ⟨o', doc, pm, cd, ct, an, e1, e2, _⟩ := T4.fnWrap
  refine wpAny_bind (m := keeperOf (.ref D2.wrap)) ?_
  unfold keeperOf
  refine wpAny_bind (wpAny_load e1 ?_)
  rw [e2]
  refine wpAny_pure ?_
  refine wpAny_bind (m := callMarked plainCall (.ref D2.wrap) [.ref x, a] []) ?_
  unfold callMarked
  refine Calls.wpAny_keep (wpAny_call (codeAny_mono hcall fun r s' hr => ?_))
  cases r with
  | error e => exact hr
  | ok fl => cases fl <;> first | exact hr.elim | exact wpAny_bind (wpAny_holding (wpAny_point (wpAny_pure hr)))
end
end Mine
end

section
namespace Mine

def consHd {α : Type} (c : α) : List (List α) → List (List α)
  | h :: t => (c :: h) :: t
  | [] => [[c]]
def segG (P : Nat → Bool) : Nat → List Nat → List (List Nat)
  | _, [] => [[]]
  | pos, c :: cs => if P (pos + 1) then [c] :: segG P (pos + 1) cs else consHd c (segG P (pos + 1) cs)
def glue (m : List Nat) : List (List Nat) → List (List Stretch) → List (List Stretch)
  | [], S => S
  | [g], S => consHd (m, g) S
  | g :: g' :: G, S => [(m, g)] :: glue m (g' :: G) S
def segS (P : Nat → Bool) : Nat → List Stretch → List (List Stretch)
  | _, [] => [[]]
  | pos, (m, sg) :: tl => glue m (segG P pos sg) (segS P (pos + sg.length) tl)

theorem consHd_ne {α : Type} (c : α) (L : List (List α)) : consHd c L ≠ [] := by cases L <;> simp [consHd]
theorem consHd_app {α : Type} (c : α) (L M : List (List α)) (h : L ≠ []) : consHd c (L ++ M) = consHd c L ++ M := by
  cases L with
  | nil => exact absurd rfl h
  | cons a b => rfl
theorem segG_ne (P : Nat → Bool) (pos : Nat) (sg : List Nat) : segG P pos sg ≠ [] := by
  cases sg with
  | nil => simp [segG]
  | cons c cs => unfold segG; split; · simp
                 · exact consHd_ne _ _
theorem glue_ne (m : List Nat) {G : List (List Nat)} (S : List (List Stretch)) (h : G ≠ []) : glue m G S ≠ [] := by
  cases G with
  | nil => exact absurd rfl h
  | cons g r =>
    cases r with
    | nil => exact consHd_ne _ _
    | cons g' r => simp [glue]
theorem segS_ne (P : Nat → Bool) (pos : Nat) (l : List Stretch) : segS P pos l ≠ [] := by
  cases l with
  | nil => simp [segS]
  | cons x tl => obtain ⟨m, sg⟩ := x; exact glue_ne m _ (segG_ne P pos sg)
theorem glue_one (m : List Nat) : ∀ {G : List (List Nat)}, G ≠ [] → glue m G [[]] = G.map fun g => [(m, g)]
  | [], h => absurd rfl h
  | [g], _ => rfl
  | g :: g' :: G, _ => by
    have := glue_one m (G := g' :: G) (by simp)
    simp only [glue, List.map_cons] at *
    rw [this]
theorem glue_left (m : List Nat) (S : List (List Stretch)) : ∀ (G1 : List (List Nat)) {G2 : List (List Nat)}, G2 ≠ [] → glue m (G1 ++ G2) S = (G1.map fun g => [(m, g)]) ++ glue m G2 S
  | [], _, _ => rfl
  | g :: G1, G2, h => by
    have ih := glue_left m S G1 h
    cases hx : G1 ++ G2 with
    | nil => simp at hx; exact absurd hx.2 h
    | cons a b =>
      rw [hx] at ih
      simp only [List.cons_append, hx, glue, List.map_cons, ih]
theorem glue_right (m : List Nat) {A : List (List Stretch)} (B : List (List Stretch)) (hA : A ≠ []) : ∀ {G : List (List Nat)}, G ≠ [] → glue m G (A ++ B) = glue m G A ++ B
  | [], h => absurd rfl h
  | [g], _ => consHd_app _ _ _ hA
  | g :: g' :: G, _ => by
    have := glue_right m B hA (G := g' :: G) (by simp)
    simp only [glue, this, List.cons_append]

theorem segG_congr {P P' : Nat → Bool} : ∀ (sg : List Nat) (pos : Nat), (∀ k, pos < k → k ≤ pos + sg.length → P k = P' k) → segG P pos sg = segG P' pos sg
  | [], _, _ => rfl
  | c :: cs, pos, h => by
    have ih := segG_congr cs (pos + 1) fun k h1 h2 => h k (by lia) (by simp; lia)
    have h0 := h (pos + 1) (by lia) (by simp)
    unfold segG
    rw [ih, h0]
theorem segS_congr {P P' : Nat → Bool} : ∀ (l : List Stretch) (pos : Nat), (∀ k, pos < k → k ≤ pos + lenOf l → P k = P' k) → segS P pos l = segS P' pos l
  | [], _, _ => rfl
  | (m, sg) :: tl, pos, h => by
    have ih := segS_congr tl (pos + sg.length) fun k h1 h2 => h k (by lia) (by simp only [lenOf]; lia)
    have h0 := segG_congr (P := P) (P' := P') sg pos fun k h1 h2 => h k h1 (by simp only [lenOf]; lia)
    unfold segS
    rw [ih, h0]
theorem segG_shift {P : Nat → Bool} (a : Nat) : ∀ (sg : List Nat) (pos : Nat), segG P (a + pos) sg = segG (fun k => P (a + k)) pos sg
  | [], _ => rfl
  | c :: cs, pos => by
    have ih := segG_shift (P := P) a cs (pos + 1)
    unfold segG
    rw [← ih, Nat.add_assoc]
theorem segS_shift {P : Nat → Bool} (a : Nat) : ∀ (l : List Stretch) (pos : Nat), segS P (a + pos) l = segS (fun k => P (a + k)) pos l
  | [], _ => rfl
  | (m, sg) :: tl, pos => by
    have ih := segS_shift (P := P) a tl (pos + sg.length)
    unfold segS
    rw [segG_shift, ← ih, Nat.add_assoc]

theorem segG_split {P : Nat → Bool} : ∀ (sg : List Nat) (pos c : Nat), 0 < c → c ≤ sg.length → P (pos + c) = true →
    segG P pos sg = segG (fun k => P k && decide (k < pos + c)) pos (sg.take c) ++ segG P (pos + c) (sg.drop c)
  | [], pos, c, h1, h2, _ => by simp at h2; lia
  | x :: xs, pos, c, h1, h2, h3 => by
    cases c with
    | zero => lia
    | succ c =>
      by_cases hc : c = 0
      · subst hc
        simp only [Nat.zero_add] at h3 ⊢
        simp [segG, h3, consHd]
      · have ih := segG_split (P := P) xs (pos + 1) c (by lia) (by simpa using h2) (by rw [← h3]; congr 1; lia)
        have e : pos + 1 + c = pos + (c + 1) := by lia
        rw [e] at ih
        have hlt : decide (pos + 1 < pos + (c + 1)) = true := decide_eq_true (by lia)
        simp only [List.take_succ_cons, List.drop_succ_cons, segG, hlt, Bool.and_true]
        rw [ih]
        cases P (pos + 1) with
        | true => simp
        | false => simp only [Bool.false_eq_true, if_false]; exact consHd_app _ _ _ (segG_ne _ _ _)

theorem seg_split {P : Nat → Bool} : ∀ (l : List Stretch) (pos c : Nat), 0 < c → c ≤ lenOf l → P (pos + c) = true →
    segS P pos l = segS (fun k => P k && decide (k < pos + c)) pos (cut c l).1 ++ segS P (pos + c) (cut c l).2
  | [], pos, c, h1, h2, _ => by simp [lenOf] at h2; lia
  | (m, sg) :: tl, pos, c, h1, h2, h3 => by
    simp only [lenOf] at h2
    unfold cut
    by_cases hc : c ≤ sg.length
    · rw [if_pos hc]
      show glue m (segG P pos sg) _ = glue m (segG _ pos (sg.take c)) [[]] ++ glue m (segG P (pos + c) (sg.drop c)) (segS P (pos + c + (sg.drop c).length) tl)
      rw [segG_split sg pos c h1 hc h3, glue_left m _ _ (segG_ne _ _ _), glue_one m (segG_ne _ _ _)]
      have e : pos + c + (sg.drop c).length = pos + sg.length := by simp; lia
      rw [e]
    · rw [if_neg hc]
      have ih := seg_split (P := P) tl (pos + sg.length) (c - sg.length) (by lia) (by lia) (by rw [← h3]; congr 1; lia)
      have e : pos + sg.length + (c - sg.length) = pos + c := by lia
      rw [e] at ih
      show glue m (segG P pos sg) (segS P (pos + sg.length) tl) = glue m (segG _ pos sg) (segS _ (pos + sg.length) _) ++ _
      rw [ih, glue_right m _ (segS_ne _ _ _) (segG_ne _ _ _)]
      rw [segG_congr (P := P) (P' := fun k => P k && decide (k < pos + c)) sg pos fun k h1 h2 => by rw [decide_eq_true (by lia), Bool.and_true]]

def inN (Q : Nat → Bool) (N : Nat) : Nat → Bool := fun k => Q k && decide (k < N)

theorem segG_none {P : Nat → Bool} : ∀ (sg : List Nat) (pos : Nat), (∀ k, pos < k → k ≤ pos + sg.length → P k = false) → segG P pos sg = [sg]
  | [], _, _ => rfl
  | c :: cs, pos, h => by
    have ih := segG_none cs (pos + 1) fun k h1 h2 => h k (by lia) (by simp; lia)
    unfold segG
    rw [ih, h (pos + 1) (by lia) (by simp)]; rfl
theorem segS_none {P : Nat → Bool} : ∀ (l : List Stretch) (pos : Nat), (∀ k, pos < k → k ≤ pos + lenOf l → P k = false) → segS P pos l = [l]
  | [], _, _ => rfl
  | (m, sg) :: tl, pos, h => by
    have ih := segS_none tl (pos + sg.length) fun k h1 h2 => h k (by lia) (by simp only [lenOf]; lia)
    unfold segS
    rw [ih, segG_none sg pos fun k h1 h2 => h k h1 (by simp only [lenOf]; lia)]; rfl

/-- cutting the pieces of a wrapped text once more -/
theorem wrap_flat (c : Nat) (hc : 0 < c) (Q : Nat → Bool) (h0 : Q 0 = true) (f : List Stretch → List (List Stretch)) (hf : ∀ p, f p = segS (inN Q (lenOf p)) 0 p) :
    ∀ (n : Nat) (l : List Stretch), lenOf l < n → (wrap c l).flatMap f = segS (inN (fun k => Q (k % c)) (lenOf l)) 0 l
  | 0, l, h => by lia
  | n + 1, l, h => by
    by_cases q : lenOf l ≤ c
    · have e : wrap c l = [l] := by unfold wrap; rw [dif_pos (.inl q)]
      rw [e, List.flatMap_singleton, hf]
      refine segS_congr l 0 fun k h1 h2 => ?_
      simp only [inN]
      by_cases hk : k < lenOf l
      · rw [Nat.mod_eq_of_lt (by lia)]
      · rw [decide_eq_false hk, Bool.and_false, Bool.and_false]
    · have e : wrap c l = (cut c l).1 :: wrap c (cut c l).2 := by
        conv => lhs; unfold wrap
        rw [dif_neg (by lia)]
      have hl := cut_len c l (by lia)
      have ih := wrap_flat c hc Q h0 f hf n (cut c l).2 (by lia)
      rw [e, List.flatMap_cons, ih, hf, hl.1, hl.2]
      rw [seg_split (P := inN (fun k => Q (k % c)) (lenOf l)) l 0 c hc (by lia) (by
        unfold inN
        simp only [Nat.zero_add, Nat.mod_self, h0, Bool.true_and]
        exact decide_eq_true (by lia))]
      congr 1
      · refine segS_congr _ 0 fun k h1 h2 => ?_
        simp only [inN, Nat.zero_add]
        by_cases hk : k < c
        · rw [Nat.mod_eq_of_lt hk, decide_eq_true (show k < lenOf l by lia), Bool.and_true]
        · rw [decide_eq_false hk, Bool.and_false, Bool.and_false]
      · rw [Nat.add_comm 0 c, segS_shift c _ 0]
        refine segS_congr _ 0 fun k h1 h2 => ?_
        simp only [inN, Nat.add_mod_left]
        congr 1
        by_cases hk : k < lenOf l - c
        · rw [decide_eq_true hk, decide_eq_true (by lia)]
        · rw [decide_eq_false hk, decide_eq_false (by lia)]

/-- wrapping is cutting at the multiples -/
theorem wrap_seg (c : Nat) (hc : 0 < c) (l : List Stretch) : wrap c l = segS (inN (fun k => k % c == 0) (lenOf l)) 0 l := by
  have h := wrap_flat c hc (fun k => k == 0) rfl (fun p => [p]) (fun p => by
    refine (segS_none p 0 fun k h1 h2 => ?_).symm
    have : (k == 0) = false := by simp; lia
    simp only [inN, this, Bool.false_and]) (lenOf l + 1) l (by lia)
  rw [← h]
  induction wrap c l with
  | nil => rfl
  | cons a b ih => rw [List.flatMap_cons, ← ih]; rfl
end Mine
end

section
namespace Mine

/-! counting the pieces -/
def cntP (P : Nat → Bool) : Nat → Nat → Nat
  | _, 0 => 0
  | pos, n + 1 => (if P (pos + 1) then 1 else 0) + cntP P (pos + 1) n
theorem consHd_len {α : Type} (c : α) {L : List (List α)} (h : L ≠ []) : (consHd c L).length = L.length := by
  cases L with
  | nil => exact absurd rfl h
  | cons a b => rfl
theorem segG_len (P : Nat → Bool) : ∀ (sg : List Nat) (pos : Nat), (segG P pos sg).length = 1 + cntP P pos sg.length
  | [], _ => rfl
  | c :: cs, pos => by
    have ih := segG_len P cs (pos + 1)
    unfold segG
    simp only [List.length_cons, cntP]
    cases P (pos + 1) with
    | true => simp only [if_true, List.length_cons, ih]; lia
    | false => simp only [Bool.false_eq_true, if_false, consHd_len c (segG_ne _ _ _), ih]; lia
theorem cntP_add (P : Nat → Bool) : ∀ (a b pos : Nat), cntP P pos (a + b) = cntP P pos a + cntP P (pos + a) b
  | 0, b, pos => by simp [cntP]
  | a + 1, b, pos => by
    have ih := cntP_add P a b (pos + 1)
    have e : a + 1 + b = a + b + 1 := by lia
    have e2 : pos + (a + 1) = pos + 1 + a := by lia
    rw [e, e2]
    simp only [cntP, ih]; lia
theorem glue_len (m : List Nat) {S : List (List Stretch)} (hS : S ≠ []) : ∀ {G : List (List Nat)}, G ≠ [] → (glue m G S).length + 1 = G.length + S.length
  | [], h => absurd rfl h
  | [g], _ => by simp only [glue, consHd_len _ hS, List.length_cons, List.length_nil]; lia
  | g :: g' :: G, _ => by
    have := glue_len m hS (G := g' :: G) (by simp)
    simp only [glue, List.length_cons] at *; lia
theorem segS_len (P : Nat → Bool) : ∀ (l : List Stretch) (pos : Nat), (segS P pos l).length = 1 + cntP P pos (lenOf l)
  | [], _ => rfl
  | (m, sg) :: tl, pos => by
    have ih := segS_len P tl (pos + sg.length)
    have := glue_len m (segS_ne P (pos + sg.length) tl) (segG_ne P pos sg)
    have hg := segG_len P sg pos
    simp only [segS, lenOf, cntP_add]
    lia
theorem cntP_mono {P P' : Nat → Bool} (h : ∀ k, P k = true → P' k = true) : ∀ (n pos : Nat), cntP P pos n ≤ cntP P' pos n
  | 0, _ => Nat.le_refl _
  | n + 1, pos => by
    have ih := cntP_mono h n (pos + 1)
    simp only [cntP]
    cases e : P (pos + 1) with
    | true => rw [h _ e]; simp only [if_true]; lia
    | false => simp only [Bool.false_eq_true, if_false]; lia
theorem cntN_mono (Q : Nat → Bool) {n m : Nat} (h : n ≤ m) : cntP (inN Q n) 0 n ≤ cntP (inN Q m) 0 m := by
  have e : m = n + (m - n) := by lia
  have h1 : cntP (inN Q n) 0 n ≤ cntP (inN Q m) 0 n := cntP_mono (fun k hk => by
    unfold inN at *
    simp only [Bool.and_eq_true, decide_eq_true_eq] at *
    exact ⟨hk.1, by lia⟩) n 0
  have h2 : cntP (inN Q m) 0 m = cntP (inN Q m) 0 n + cntP (inN Q m) (0 + n) (m - n) := by
    conv => lhs; rw [e]
    rw [cntP_add, ← e]
  lia

/-! the sides of a row, cut by a rule on places -/
def FQ (Q : Nat → Bool) (x : Side) : List Side := if x.1.tr then nums x.1 (segS (inN Q (lenOf x.2)) 0 x.2) else [x]
theorem splitSide_FQ (c : Nat) (hc : 0 < c) (x : Side) : splitSide c x = FQ (fun k => k % c == 0) x := by
  unfold splitSide FQ
  rw [wrap_seg c hc]
theorem nums_flat {Q : Nat → Bool} (n : Num) (hn : n.tr = true) : ∀ ps : List (List Stretch), (∀ p ∈ ps, segS (inN Q (lenOf p)) 0 p ≠ []) → (nums n ps).flatMap (FQ Q) = nums n (ps.flatMap fun p => segS (inN Q (lenOf p)) 0 p)
  | [], _ => rfl
  | p :: r, h => by
    have hgt : ∀ q : List Stretch, FQ Q (.str [62], q) = (segS (inN Q (lenOf q)) 0 q).map fun z => (Num.str [62], z) := fun q => by
      show (if Num.tr (.str [62]) then _ else _) = _
      rw [if_pos (by rfl)]
      cases segS (inN Q (lenOf q)) 0 q <;> rfl
    have hr : (r.map fun q => ((Num.str [62], q) : Side)).flatMap (FQ Q) = (r.flatMap fun p => segS (inN Q (lenOf p)) 0 p).map fun z => (Num.str [62], z) := by
      induction r with
      | nil => rfl
      | cons a b ih => rw [List.map_cons, List.flatMap_cons, List.flatMap_cons, List.map_append, hgt, ih fun p hp => h p (by
          rcases List.mem_cons.mp hp with rfl | hp
          · exact .head _
          · exact .tail _ (.tail _ hp))]
    have hp : FQ Q (n, p) = nums n (segS (inN Q (lenOf p)) 0 p) := by
      show (if n.tr then _ else _) = _
      rw [if_pos hn]
    have hne := h p (.head _)
    show ((n, p) :: r.map fun q => ((Num.str [62], q) : Side)).flatMap (FQ Q) = _
    rw [List.flatMap_cons, hr, hp, List.flatMap_cons]
    cases hs : segS (inN Q (lenOf p)) 0 p with
    | nil => exact absurd hs hne
    | cons a b => simp [nums]
theorem FQ_flat (c : Nat) (hc : 0 < c) (Q : Nat → Bool) (h0 : Q 0 = true) (x : Side) : (splitSide c x).flatMap (FQ Q) = FQ (fun k => Q (k % c)) x := by
  unfold splitSide
  cases htr : x.1.tr with
  | false =>
    simp only [Bool.false_eq_true, if_false, List.flatMap_singleton]
    unfold FQ
    rw [htr]; rfl
  | true =>
    simp only [if_true]
    rw [nums_flat x.1 htr _ fun p _ => segS_ne _ _ _, wrap_flat c hc Q h0 _ (fun p => rfl) (lenOf x.2 + 1) x.2 (by lia)]
    unfold FQ
    rw [htr]; rfl
theorem FQ_len (Q : Nat → Bool) (x : Side) : (FQ Q x).length = if x.1.tr then 1 + cntP (inN Q (lenOf x.2)) 0 (lenOf x.2) else 1 := by
  unfold FQ
  split
  · rw [nums_length, segS_len]
  · rfl
theorem FQ_ne (Q : Nat → Bool) (x : Side) : FQ Q x ≠ [] := by
  intro h
  have := congrArg List.length h
  rw [FQ_len] at this
  split at this <;> simp at this
theorem FQ_blank (Q : Nat → Bool) : FQ Q blank = [blank] := rfl

/-! both sides together -/
def Reg (F : Side → List Side) (m : Nat) : List Side → Prop
  | [] => True
  | [x] => (F x).length ≤ m
  | x :: y :: r => (F x).length = m ∧ Reg F m (y :: r)
theorem Reg.tail {F : Side → List Side} {m : Nat} {x : Side} {r : List Side} (h : Reg F m (x :: r)) : Reg F m r := by
  cases r with
  | nil => trivial
  | cons y r => exact h.2
theorem zip_nil_right (fl : Flag) : ∀ a b : List Side, zipPad fl (a ++ b) [] = zipPad fl a [] ++ zipPad fl b []
  | [], b => by simp [zipPad]
  | x :: a, b => by simp only [List.cons_append, zipPad, zip_nil_right fl a b]
theorem zip_nil_left (fl : Flag) : ∀ a b : List Side, zipPad fl [] (a ++ b) = zipPad fl [] a ++ zipPad fl [] b
  | [], b => by simp [zipPad]
  | x :: a, b => by simp only [List.cons_append, zipPad, zip_nil_left fl a b]
theorem zip_app (fl : Flag) : ∀ (a b A B : List Side), (a.length = b.length ∨ (A = [] ∧ a.length ≤ b.length) ∨ (B = [] ∧ b.length ≤ a.length) ∨ (A = [] ∧ B = [])) → zipPad fl (a ++ A) (b ++ B) = zipPad fl a b ++ zipPad fl A B
  | [], [], A, B, _ => by simp [zipPad]
  | x :: a, [], A, B, h => by
    rcases h with h | ⟨_, h⟩ | ⟨rfl, _⟩ | ⟨rfl, rfl⟩
    · simp at h
    · simp at h
    · exact zip_nil_right fl (x :: a) A
    · exact zip_nil_right fl (x :: a) []
  | [], y :: b, A, B, h => by
    rcases h with h | ⟨rfl, _⟩ | ⟨_, h⟩ | ⟨rfl, rfl⟩
    · simp at h
    · exact zip_nil_left fl (y :: b) B
    · simp at h
    · exact zip_nil_left fl (y :: b) []
  | x :: a, y :: b, A, B, h => by
    have ih := zip_app fl a b A B (by simpa using h)
    simp only [List.cons_append, zipPad, ih]
theorem zip_blank_r (fl : Flag) : ∀ {a : List Side}, a ≠ [] → zipPad fl a [blank] = zipPad fl a []
  | [], h => absurd rfl h
  | x :: a, _ => by simp only [zipPad]
theorem zip_blank_l (fl : Flag) : ∀ {b : List Side}, b ≠ [] → zipPad fl [blank] b = zipPad fl [] b
  | [], h => absurd rfl h
  | x :: a, _ => by simp only [zipPad]

def trQ (Q : Nat → Bool) (r : RowG) : List RowG := if r.fl = none then [r] else zipPad r.fl (FQ Q r.a) (FQ Q r.b)
theorem zip_flat (Q : Nat → Bool) (fl : Flag) (hf : fl ≠ none) (m : Nat) : ∀ (A B : List Side), Reg (FQ Q) m A → Reg (FQ Q) m B → (zipPad fl A B).flatMap (trQ Q) = zipPad fl (A.flatMap (FQ Q)) (B.flatMap (FQ Q))
  | [], [], _, _ => by simp [zipPad]
  | x :: A, [], hA, hB => by
    have ih := zip_flat Q fl hf m A [] hA.tail trivial
    have e : trQ Q ⟨x, blank, fl⟩ = zipPad fl (FQ Q x) [] := by
      show (if fl = none then _ else zipPad fl (FQ Q x) (FQ Q blank)) = _
      rw [if_neg hf, FQ_blank, zip_blank_r fl (FQ_ne Q x)]
    simp only [zipPad, List.flatMap_cons, List.flatMap_nil, ih, e]
    exact (zip_nil_right fl _ _).symm
  | [], y :: B, hA, hB => by
    have ih := zip_flat Q fl hf m [] B trivial hB.tail
    have e : trQ Q ⟨blank, y, fl⟩ = zipPad fl [] (FQ Q y) := by
      show (if fl = none then _ else zipPad fl (FQ Q blank) (FQ Q y)) = _
      rw [if_neg hf, FQ_blank, zip_blank_l fl (FQ_ne Q y)]
    simp only [zipPad, List.flatMap_cons, List.flatMap_nil, ih, e]
    exact (zip_nil_left fl _ _).symm
  | x :: A, y :: B, hA, hB => by
    have ih := zip_flat Q fl hf m A B hA.tail hB.tail
    have e : trQ Q ⟨x, y, fl⟩ = zipPad fl (FQ Q x) (FQ Q y) := by
      show (if fl = none then _ else _) = _
      rw [if_neg hf]
    simp only [zipPad, List.flatMap_cons, ih, e]
    refine (zip_app fl _ _ _ _ ?_).symm
    cases A with
    | nil =>
      cases B with
      | nil => exact .inr (.inr (.inr ⟨rfl, rfl⟩))
      | cons y' B => exact .inr (.inl ⟨rfl, by rw [hB.1]; exact hA⟩)
    | cons x' A =>
      cases B with
      | nil => exact .inr (.inr (.inl ⟨rfl, by rw [hA.1]; exact hB⟩))
      | cons y' B => exact .inl (hA.1.trans hB.1.symm)

theorem reg_wrap (Q : Nat → Bool) (c : Nat) (hc : 0 < c) : ∀ (k : Nat) (n : Num) (l : List Stretch), n.tr = true → lenOf l < k → Reg (FQ Q) (1 + cntP (inN Q c) 0 c) (nums n (wrap c l))
  | 0, n, l, _, h => by lia
  | k + 1, n, l, hn, h => by
    by_cases q : lenOf l ≤ c
    · have e : wrap c l = [l] := by unfold wrap; rw [dif_pos (.inl q)]
      rw [e]
      show (FQ Q (n, l)).length ≤ _
      rw [FQ_len, if_pos hn]
      have := cntN_mono Q q
      simp only; lia
    · have e : wrap c l = (cut c l).1 :: wrap c (cut c l).2 := by
        conv => lhs; unfold wrap
        rw [dif_neg (by lia)]
      have hl := cut_len c l (by lia)
      have ih := reg_wrap Q c hc k (.str [62]) (cut c l).2 rfl (by lia)
      have h1 : (FQ Q (n, (cut c l).1)).length = 1 + cntP (inN Q c) 0 c := by
        rw [FQ_len, if_pos hn]
        simp only [hl.1]
      rw [e]
      have hg : ∀ ps : List (List Stretch), nums (.str [62]) ps = ps.map fun q => (Num.str [62], q) := fun ps => by cases ps <;> rfl
      rw [hg] at ih
      show Reg _ _ ((n, (cut c l).1) :: (wrap c (cut c l).2).map fun q => (Num.str [62], q))
      cases hw : (wrap c (cut c l).2).map fun q => ((Num.str [62], q) : Side) with
      | nil => exact Nat.le_of_eq h1
      | cons a b => rw [hw] at ih; exact ⟨h1, ih⟩
theorem reg_split (Q : Nat → Bool) (c : Nat) (hc : 0 < c) (x : Side) : Reg (FQ Q) (1 + cntP (inN Q c) 0 c) (splitSide c x) := by
  unfold splitSide
  split
  · rename_i h
    exact reg_wrap Q c hc (lenOf x.2 + 1) x.1 x.2 h (by lia)
  · rename_i h
    show (FQ Q x).length ≤ _
    rw [FQ_len, if_neg h]; lia

theorem tr_trQ (c : Nat) (hc : 0 < c) (r : RowG) : tr c r = trQ (fun k => k % c == 0) r := by
  unfold tr trQ
  rw [splitSide_FQ c hc, splitSide_FQ c hc]
theorem tr_flat (c : Nat) (hc : 0 < c) (Q : Nat → Bool) (h0 : Q 0 = true) (r : RowG) : (tr c r).flatMap (trQ Q) = trQ (fun k => Q (k % c)) r := by
  by_cases hf : r.fl = none
  · unfold tr
    rw [if_pos hf, List.flatMap_singleton]
    unfold trQ
    rw [if_pos hf, if_pos hf]
  · have e1 : tr c r = zipPad r.fl (splitSide c r.a) (splitSide c r.b) := by unfold tr; rw [if_neg hf]
    have e2 : trQ (fun k => Q (k % c)) r = zipPad r.fl (FQ (fun k => Q (k % c)) r.a) (FQ (fun k => Q (k % c)) r.b) := by unfold trQ; rw [if_neg hf]
    rw [e1, e2, zip_flat Q r.fl hf _ _ _ (reg_split Q c hc r.a) (reg_split Q c hc r.b), FQ_flat c hc Q h0, FQ_flat c hc Q h0]
theorem three (c1 c2 c3 : Nat) (h1 : 0 < c1) (h2 : 0 < c2) (h3 : 0 < c3) (r : RowG) :
    ((tr c1 r).flatMap (tr c2)).flatMap (tr c3) = trQ (fun k => leaves [c1, c2, c3] k == 0) r := by
  have e : (fun y => (tr c2 y).flatMap (tr c3)) = trQ (fun k => k % c2 % c3 == 0) := by
    funext y
    rw [show tr c3 = trQ (fun k => k % c3 == 0) from funext (tr_trQ c3 h3)]
    exact tr_flat c2 h2 (fun k => k % c3 == 0) (by simp) y
  rw [List.flatMap_assoc, e]
  exact tr_flat c1 h1 (fun k => k % c2 % c3 == 0) (by simp) r
end Mine
end

section
namespace Mine

def outG (held : List Nat) : List Nat → List (List Nat) → List (List Nat) × List Nat
  | last, [] => ([], last)
  | last, [g] => ([], last ++ g)
  | last, g :: g' :: r => ((last ++ g ++ shut held) :: (outG held held (g' :: r)).1, (outG held held (g' :: r)).2)
theorem outG_cons (held last : List Nat) (c : Nat) (G : List (List Nat)) (h : G ≠ []) : outG held last (consHd c G) = outG held (last ++ [c]) G := by
  cases G with
  | nil => exact absurd rfl h
  | cons g r => cases r <;> simp [consHd, outG]
theorem outG_cut (held last : List Nat) (c : Nat) (G : List (List Nat)) (h : G ≠ []) : outG held last ([c] :: G) = ((last ++ [c] ++ shut held) :: (outG held held G).1, (outG held held G).2) := by
  cases G with
  | nil => exact absurd rfl h
  | cons g r => rfl

theorem signs_out (cols : List Nat) (N : Nat) (held : List Nat) : ∀ (sg : List Nat) (fr : List (List Nat)) (last : List Nat) (seen : Nat),
    sg.foldl (signStep cols N held) ⟨fr, last, seen⟩ = ⟨fr ++ (outG held last (segG (inN (fun k => leaves cols k == 0) N) seen sg)).1, (outG held last (segG (inN (fun k => leaves cols k == 0) N) seen sg)).2, seen + sg.length⟩
  | [], fr, last, seen => by simp [segG, outG]
  | c :: cs, fr, last, seen => by
    rw [List.foldl_cons]
    by_cases q : leaves cols (seen + 1) = 0 ∧ seen + 1 < N
    · have e1 : signStep cols N held ⟨fr, last, seen⟩ c = ⟨fr ++ [last ++ [c] ++ shut held], held, seen + 1⟩ := by unfold signStep; rw [if_pos q]
      have e2 : inN (fun k => leaves cols k == 0) N (seen + 1) = true := by simp [inN, q.1, q.2]
      rw [e1, signs_out cols N held cs]
      simp only [segG, e2, if_true, outG_cut held last c _ (segG_ne _ _ _), List.length_cons]
      simp only [List.append_assoc, List.cons_append, List.nil_append, PS.mk.injEq, true_and]
      lia
    · have e1 : signStep cols N held ⟨fr, last, seen⟩ c = ⟨fr, last ++ [c], seen + 1⟩ := by unfold signStep; rw [if_neg q]
      have e2 : inN (fun k => leaves cols k == 0) N (seen + 1) = false := by
        unfold inN
        rw [Bool.and_eq_false_iff]
        by_cases h1 : leaves cols (seen + 1) = 0
        · right; exact decide_eq_false fun h2 => q ⟨h1, h2⟩
        · left; simpa using h1
      rw [e1, signs_out cols N held cs]
      simp only [segG, e2, Bool.false_eq_true, if_false, outG_cons held last c _ (segG_ne _ _ _), List.length_cons, PS.mk.injEq, true_and]
      lia

def pre (last : List Nat) : List (List Nat) → List (List Nat)
  | h :: t => (last ++ h) :: t
  | [] => [last]
theorem pre_nil {L : List (List Nat)} (h : L ≠ []) : pre [] L = L := by
  cases L with
  | nil => exact absurd rfl h
  | cons a b => rfl
theorem textOf_cons (m g : List Nat) (h : List Stretch) : textOf ((m, g) :: h) = heldOf m ++ g ++ shut (heldOf m) ++ textOf h := by
  unfold heldOf shut
  by_cases q : m = []
  · subst q; simp [textOf]
  · simp [textOf, q]
theorem glue_text (m : List Nat) {S : List (List Stretch)} (hS : S ≠ []) : ∀ {G : List (List Nat)} (last : List Nat), G ≠ [] →
    (outG (heldOf m) (last ++ heldOf m) G).1 ++ pre ((outG (heldOf m) (last ++ heldOf m) G).2 ++ shut (heldOf m)) (S.map textOf) = pre last ((glue m G S).map textOf)
  | [], _, h => absurd rfl h
  | [g], last, _ => by
    cases S with
    | nil => exact absurd rfl hS
    | cons h t => simp [outG, pre, glue, consHd, textOf_cons]
  | g :: g' :: r, last, _ => by
    have ih := glue_text m hS (G := g' :: r) [] (by simp)
    have hne : (glue m (g' :: r) S).map textOf ≠ [] := by
      intro q
      exact glue_ne m S (by simp) (List.map_eq_nil_iff.mp q)
    rw [pre_nil hne, List.nil_append] at ih
    simp only [outG, glue, List.map_cons, List.cons_append]
    rw [ih]
    show _ = (last ++ textOf [(m, g)]) :: _
    rw [textOf_cons]
    simp [textOf]

theorem strs_out (cols : List Nat) (N : Nat) : ∀ (l : List Stretch) (fr : List (List Nat)) (last : List Nat) (seen : Nat),
    (l.foldl (strStep cols N) ⟨fr, last, seen⟩).all = fr ++ pre last ((segS (inN (fun k => leaves cols k == 0) N) seen l).map textOf)
  | [], fr, last, seen => by simp [segS, PS.all, pre, textOf]
  | (m, sg) :: tl, fr, last, seen => by
    rw [List.foldl_cons]
    have e : strStep cols N ⟨fr, last, seen⟩ (m, sg) = ⟨fr ++ (outG (heldOf m) (last ++ heldOf m) (segG (inN (fun k => leaves cols k == 0) N) seen sg)).1,
        (outG (heldOf m) (last ++ heldOf m) (segG (inN (fun k => leaves cols k == 0) N) seen sg)).2 ++ shut (heldOf m), seen + sg.length⟩ := by
      unfold strStep
      simp only [signs_out]
    rw [e, strs_out cols N tl]
    show _ = fr ++ pre last ((glue m (segG _ seen sg) (segS _ (seen + sg.length) tl)).map textOf)
    rw [List.append_assoc, glue_text m (segS_ne _ _ _) last (segG_ne _ _ _)]

def sideTx (y : Side) : Num × List Nat := (y.1, textOf y.2)
theorem law_pieces (n : Num) (l : List Stretch) (cols : List Nat) : lawPieces n l cols = (FQ (fun k => leaves cols k == 0) (n, l)).map sideTx := by
  unfold lawPieces FQ
  cases htr : n.tr with
  | false => simp [sideTx]
  | true =>
    have h : (psOf cols l).all = (segS (inN (fun k => leaves cols k == 0) (lenOf l)) 0 l).map textOf := by
      unfold psOf
      rw [strs_out, List.nil_append, pre_nil]
      intro q
      exact segS_ne _ _ _ (List.map_eq_nil_iff.mp q)
    simp only [if_true]
    rw [h]
    cases segS (inN (fun k => leaves cols k == 0) (lenOf l)) 0 l with
    | nil => rfl
    | cons a b => simp [numbered, nums, sideTx]
end Mine
end

section
open PySem PySem.W PyProof.Rows PySem.W.X
namespace Mine

theorem kind_iter : builtinKind "iter" = none := by decide +kernel
theorem plain_iter : plainId "iter" = true := by decide +kernel
theorem entry_iter : entryFor table "iter" = some Builtin.«iter» := entryFor_of_fast (by kernel_rfl)
theorem args_iter1 (a : Value) : argsOk "iter" ⟨[a], []⟩ := by unfold argsOk; kernel_rfl
theorem kind_next : builtinKind "next" = none := by decide +kernel
theorem plain_next : plainId "next" = true := by decide +kernel
theorem entry_next : entryFor table "next" = some Builtin.«next» := entryFor_of_fast (by kernel_rfl)
theorem args_next2 (a b : Value) : argsOk "next" ⟨[a, b], []⟩ := by unfold argsOk; kernel_rfl

section
variable {prog : Program} {w : World} {A : Around} {E : Value → Shared → Prop} {env : Env} {F : Fx} {g : View} {ms : List (Addr × Thing)} {s : Shared} {vs : List (Str × Value)}

theorem call_iter1 {x : Value} {Q : Value → Shared → Prop} (h : wpAny (model prog w) A.in1 (pyIter x) Q E s) : wpAny (model prog w) A (call (.builtin "iter") [x]) Q E s := by
  refine call_function_tree kind_iter plain_iter entry_iter (args_iter1 _) ?_
  show wpAny _ A.in1 (pyIter x >>= fun v => ret v) _ _ s
  exact wpAny_bind (wpAny_mono h (fun v s' h' => wpAny_pure h') fun _ _ e => e)

theorem call_next2 {a : Addr} {i : Nat} {d : Value} {Q : Value → Shared → Prop} (hg : s.heap.IsGen a i) (h : wpAny (model prog w) A.in1 (pyNext (.ref a)) (fun r s' => Q (r.getD d) s') E s) : wpAny (model prog w) A (call (.builtin "next") [.ref a, d]) Q E s := by
  refine call_function_tree kind_next plain_next entry_next (args_next2 _ _) ?_
  show wpAny _ A.in1 (specialOf (.ref a) "__next__" >>= _) _ _ s
  refine wpAny_bind (wpAny_specialOf hg.typeIs slot_gen_next.lookup ?_)
  show wpAny _ A.in1 (pyNext (.ref a) >>= fun r => ret (r.getD d)) _ _ s
  exact wpAny_bind (wpAny_mono h (fun v s' h' => wpAny_pure h') fun _ _ e => e)

theorem r_mulList {i : Nat} {l : Addr} {y : Value} {k : Nat} {u : Tok} {Q : Value → Shared → Prop} (Z : St F g ms s) (hi : ms[i]? = some (l, .list [y])) (hk : k ≤ 2 ^ 20)
    (h : ∀ D s', F.n ≤ D → St F g (ms ++ [(D, .list (List.replicate k y))]) s' → Q (.ref D) s') : wpAny (model prog w) A (binaryOp .Mult (.ref l) (.int (k : Int) u)) Q E s := by
  obtain ⟨o, ho, n, rfl⟩ := Z.own i hi
  obtain ⟨x, hx⟩ : ∃ x : Int, x = (k : Int) := ⟨_, rfl⟩
  rw [← hx]
  have hl : s.heap.get? l = some { cls := .type "list", dict := none, data := .seq #[y] n, slots := #[] } := ho
  have hrep : ∀ k : Nat, List.foldl (fun x1 x2 => x1 ++ x2) #[] (List.replicate k #[y]) = (List.replicate k y).toArray := by
    have gen : ∀ (k : Nat) (a : Array Value), List.foldl (fun x1 x2 => x1 ++ x2) a (List.replicate k #[y]) = a ++ (List.replicate k y).toArray := by
      intro k
      induction k with
      | zero => intro a; simp
      | succ k ih => intro a; rw [List.replicate_succ, List.foldl_cons, ih, List.replicate_succ]; apply Array.ext'; simp
    intro k; rw [gen]; simp
  have m1 : ¬(!Builtin.List.listFitsIndex x) = true := by simp [Builtin.List.listFitsIndex]; lia
  have m2 : ¬(#[y] : Array Value).size * x.toNat > (2 ^ 63 - 1) / 8 := by simp; lia
  have m3 : ¬Builtin.List.listTooLong ((#[y] : Array Value).size * x.toNat) = true := by
    unfold Builtin.List.listTooLong
    rw [sizeLine_eq]; simp; lia
  refine wpAny_binaryOp_repeat_ref (T := "list") (U := "int") (by decide) ⟨_, hl, rfl⟩ (fun s' => typeIs_int s' _ u) noFill_list_mul PySem.F.fills_int_mul PySem.F.slot_int_rmul repeat_list PySem.F.slot_int_index.lookup
    (call_meets PySem.F.slot_int_rmul (typeIs_int s _ u) PySem.F.entry_int_rmul (PySem.F.args_int_rmul_2 _ _) (int___rmul___int_list _ u l #[y] n)
      ⟨hl, rfl, ⟨_, hl, rfl⟩, call_meets PySem.F.slot_list_mul ⟨_, hl, rfl⟩ PySem.F.entry_list_mul (PySem.F.args_list_mul_2 _ _)
        (AutoListH.list___mul___list_int_3 l #[y] n x u m1 m2 m3)
        ⟨hl, ?_⟩⟩)
  have e : (if (#[y] : Array Value).isEmpty = true then 0 else x.toNat) = k := by simp; lia
  rw [e, hrep]
  exact h _ _ Z.sz (Z.allocM rfl ⟨0, rfl⟩)

theorem seq_list_iadd : seqSlot? (.type "list") "__iadd__" = pure (some (.builtin "list.__iadd__")) := PySem.seqSlot_of PySem.F.slot_list_iadd.lookup (by decide +kernel)
theorem r_iaddList {i j : Nat} {l b : Addr} {xs ys : List Value} {Q : Value → Shared → Prop} (Z : St F g ms s) (hi : ms[i]? = some (l, .list xs)) (hj : ms[j]? = some (b, .list ys)) (hsz : xs.length + ys.length ≤ 2 ^ 20)
    (h : ∀ s', St F g (ms.set i (l, .list (xs ++ ys))) s' → Q (.ref l) s') : wpAny (model prog w) A (inplaceOp .Add (.ref l) (.ref b)) Q E s := by
  obtain ⟨o, ho, n, rfl⟩ := Z.own i hi
  obtain ⟨o2, ho2, n2, rfl⟩ := Z.own j hj
  have ha : s.TypeIs (.ref l) "list" := ⟨_, ho, rfl⟩
  have hb : s.TypeIs (.ref b) "list" := ⟨_, ho2, rfl⟩
  have hfin : fillsInplaceSlot (.type "list") "add" true = pure false := by
    show (typeLookup (.type "list") (dunderI "add") >>= fun fi => pure (fi.isSome && !isSeqSlot fi)) = pure false
    rw [PySem.F.slot_list_iadd.lookup]; rfl
  have n1 : ¬(!xs.toArray.isEmpty && Builtin.List.listTooLong (xs.toArray.size + ys.toArray.size)) = true := by
    unfold Builtin.List.listTooLong
    rw [sizeLine_eq]; simp; lia
  unfold inplaceOp
  refine wpAny_holding (wpAny_bind (wpAny_typeOf ha (wpAny_bind (wpAny_of_eq hfin ?_))))
  show wpAny _ A (if false = true then _ else _) Q E s
  rw [if_neg Bool.false_ne_true]
  refine wpAny_bind (PySem.wpAny_binaryOp1_none (nm := "add") ha hb noFill_list_add ?_)
  refine wpAny_bind (wpAny_of_eq seq_list_iadd ?_)
  refine wpAny_bind (wpAny_rule ?_)
  refine call_meets PySem.F.slot_list_iadd ha PySem.F.entry_list_iadd (PySem.F.args_list_iadd_2 _ _) (AutoSeq1.list___iadd___list_list_0 l xs.toArray n b ys.toArray n2 n1 (by rw [sizeLine_eq]; simp; lia) (by rw [sizeLine_eq]; simp; lia)) ⟨ho, ho2, ?_⟩
  refine h _ ((Z.change i hi (t' := .list (xs ++ ys)) (Heap.SameBut.update ..) ⟨_, Heap.get?_update_self _ ho rfl, ?_⟩).toks _)
  show ∃ n', _ = _
  simp only [Obj.mapSeq]
  have : xs.toArray ++ ys.toArray = (xs ++ ys).toArray := by simp
  exact ⟨_, congrArg (fun z => ({ cls := .type "list", data := .seq z _ } : Obj)) this⟩

/-- calling one of the text's defs by its name, three arguments -/
theorem r_f3 {x : Str} {f : Addr} {nm qual : Str} {d : Stmt} {dflt : Value} {p pos : Pos} {e₁ e₂ e₃ : Expr} {Q : Value → Shared → Prop} (G : GName s.heap x (.ref f))
    (h : wpAny (model prog w) A (eval e₁ env) (fun a s₁ => wpAny (model prog w) A (eval e₂ env) (fun b s₂ => wpAny (model prog w) A (eval e₃ env) (fun c s₃ => FnAt s₃.heap f nm qual d dflt ∧
      codeAny (model prog w) A (.call (.ref f) ⟨[a, b, c], []⟩) (fun r s' => match r with | .ok (.ret v) => Q v s' | .ok _ => False | .error e => E e s') s₃) E s₂) E s₁) E s)
    (htrees : backTo pos (starEach [e₁, e₂, e₃] env) = [(false, eval e₁ env), (false, eval e₂ env), (false, eval e₃ env)] := by rfl)
    (hg : env.globals = mainGlobals := by rfl) (hb : env.builtins = builtinsNs := by rfl)
    (hk : env.scope.kind = .function := by rfl) (hx : env.kindOf x = some .globalImplicit := by rfl) (hd : (x == ("__debug__" : Str)) = false := by decide) :
    wpAny (model prog w) A (eval (.Call (.Name x p) [e₁, e₂, e₃] [] pos) env) Q E s := by
  refine wpAny_Call_NameR (r_glob G ?_ hg hb hk hx hd)
  rw [htrees]
  unfold callWith
  refine wpAny_bind (wpAny_holding (Calls.evalArgs_plain (Calls.spliced_cons (wpAny_mono h (fun a s₁ h₁ => Calls.spliced_cons (wpAny_mono h₁ (fun b s₂ h₂ => Calls.spliced_cons (wpAny_mono h₂ (fun c s₃ h₃ => Calls.spliced_nil (wpAny_bind (wpAny_standAt ?_))) fun _ _ e => e)) fun _ _ e => e)) fun _ _ e => e))))
  obtain ⟨⟨o, doc, pm, cd, ct, an, e1, e2, _⟩, hc⟩ := h₃
  refine wpAny_bind (m := keeperOf (.ref f)) ?_
  unfold keeperOf
  refine wpAny_bind (wpAny_load e1 ?_)
  rw [e2]
  refine wpAny_pure ?_
  refine wpAny_bind (m := callMarked plainCall (.ref f) [a, b, c] []) ?_
  unfold callMarked
  refine Calls.wpAny_keep (wpAny_call (codeAny_mono hc fun r s' hr => ?_))
  cases r with
  | error e => exact hr
  | ok fl => cases fl <;> first | exact hr.elim | exact wpAny_bind (wpAny_holding (wpAny_point (wpAny_pure hr)))

/-- calling the class by its name, two arguments -/
theorem r_cls2 {K : Frag} {x : Str} {f : Addr} {p pos : Pos} {e₁ e₂ : Expr} {Q : Value → Shared → Prop} (G : GName s.heap x (.ref f)) (hkeep : keepIn K (.ref f) = true)
    (h : wpAny (model prog w) A (eval e₁ env) (fun a s₁ => wpAny (model prog w) A (eval e₂ env) (fun b s₂ => K.In s₂.heap ∧
      codeAny (model prog w) A (.call (.ref f) ⟨[a, b], []⟩) (fun r s' => match r with | .ok (.ret v) => Q v s' | .ok _ => False | .error e => E e s') s₂) E s₁) E s)
    (htrees : backTo pos (starEach [e₁, e₂] env) = [(false, eval e₁ env), (false, eval e₂ env)] := by rfl)
    (hg : env.globals = mainGlobals := by rfl) (hb : env.builtins = builtinsNs := by rfl)
    (hk : env.scope.kind = .function := by rfl) (hx : env.kindOf x = some .globalImplicit := by rfl) (hd : (x == ("__debug__" : Str)) = false := by decide) :
    wpAny (model prog w) A (eval (.Call (.Name x p) [e₁, e₂] [] pos) env) Q E s := by
  refine wpAny_Call_NameR (r_glob G ?_ hg hb hk hx hd)
  rw [htrees]
  refine callWith_of (P := fun h => K.In h) (first := []) rfl (fun h X => keeps_K hkeep h X) (Calls.evalArgs_plain (Calls.spliced_cons (wpAny_mono h (fun a s₁ h₁ => Calls.spliced_cons (wpAny_mono h₁ (fun b s₂ h₂ => Calls.spliced_nil ⟨h₂.1, wpAny_call (codeAny_mono h₂.2 fun r s' hr => ?_)⟩) fun _ _ e => e)) fun _ _ e => e)))
  cases r with
  | error e => exact hr
  | ok fl => cases fl <;> first | exact hr.elim | exact hr

/-- a for loop whose body may wake generators -/
inductive LoopSG (F : Fx) (L it : Addr) (t : Thing) (J : Array GenState → View → List (Str × Value) → List (Addr × Thing) → Prop) (s : Shared) : Prop
  | mk (G : Array GenState) (g : View) (vs : List (Str × Value)) (ms : List (Addr × Thing)) (hJ : J G g vs ms) (Z : St (F.gen G) g ((L, .vars vs) :: (it, t) :: ms) s) : LoopSG F L it t J s
inductive ForGP (prog : Program) (w : World) (A : Around) (env : Env) (target : Expr) (body : List Stmt) (Q : Flow → Shared → Prop) (F : Fx) (itv : Value) (s₂ : Shared) : Prop
  | mk (it : Addr) (n : Nat) (th : Nat → Thing) (P : Nat → Value → Prop) (side : Heap → Prop) (J : Nat → Array GenState → View → List (Str × Value) → List (Addr × Thing) → Prop)
      (e : itv = .ref it) (K : ItK prog w A it n th P side) (h0 : LoopSG F env.locals it (th 0) (J 0) s₂)
      (hside : ∀ i G g vs ms (s : Shared), J i G g vs ms → Le g s.heap.get? → Le F.k s.heap.get? → (∀ p ∈ ms, Own s.heap p.1 p.2) → side s.heap)
      (turn : ∀ i x G g vs ms s, i < n → P i x → J i G g vs ms → St (F.gen G) g ((env.locals, .vars vs) :: (it, th (i + 1)) :: ms) s → wpAny (model prog w) A (assign target env x) (fun _ s₂ => wpAny (model prog w) A (execs body env)
        (LoopK (LoopSG F env.locals it (th (i + 1)) (J (i + 1))) Q) (fun _ _ => False) s₂) (fun _ _ => False) s)
      (fin : ∀ G g vs ms s, J n G g vs ms → St (F.gen G) g ((env.locals, .vars vs) :: ms) s → Q .next s) : ForGP prog w A env target body Q F itv s₂
theorem r_forG {target iter : Expr} {body : List Stmt} {pos : Pos} {Q : Flow → Shared → Prop} (hL : F.n ≤ env.locals)
    (h0 : wpAny (model prog w) A (eval iter env) (fun x s₁ => wpAny (model prog w) A (pyIter x) (ForGP prog w A env target body Q F) (fun _ _ => False) s₁) (fun _ _ => False) s)
    (hs : ∀ x, foldedSetIterable iter env x = pure x := by intro _; rfl) :
    wpAny (model prog w) A (exec (.For target iter body [] pos) env) Q (fun _ _ => False) s := by
  refine wpAny_For (wpAny_mono h0 (fun x s₁ h₁ => wpAny_mono h₁ (fun itv s₂ h₂ => ?_) fun _ _ e => e) fun _ _ e => e) hs
  obtain ⟨it, n, th, P, side, J, rfl, K, hI0, hside, turn, fin⟩ := h₂
  refine codeAny_forLoop_any (fun k s' => ∃ i, k = n + 1 - i ∧ i ≤ n ∧ LoopSG F env.locals it (th i) (J i) s') ?_ (n + 1) ⟨0, by simp, Nat.zero_le _, hI0⟩
  rintro k s' ⟨i, rfl, hi, ⟨G, g, vs, ms, hJ, Z⟩⟩
  have hsd := hside i G g vs ms s' hJ Z.dat Z.kp fun p hp => (Z.now p (.tail _ (.tail _ hp))).1
  by_cases hlt : i < n
  · refine K.item i s' _ _ hlt hsd (Z.own 1 rfl) fun x h' tk hP hsb ho => ?_
    have Z' := (Z.change 1 (t' := th (i + 1)) rfl hsb ho).toks tk
    refine K.go (i := i + 1) ho ?_
    refine wpAny_mono (turn i x G g vs ms _ hlt hP hJ Z') (fun _ s₂ h₂ => wpAny_mono h₂ (fun f s₃ h₃ => ?_) fun _ _ e => e.elim) fun _ _ e => e.elim
    cases f with
    | next => exact ⟨n + 1 - (i + 1), by lia, i + 1, rfl, hlt, h₃⟩
    | cont => exact ⟨n + 1 - (i + 1), by lia, i + 1, rfl, hlt, h₃⟩
    | brk => exact h₃
    | ret v => exact h₃
  · have hi' : i = n := by lia
    subst hi'
    refine K.done s' _ _ hsd (Z.own 1 rfl) fun h' tk hsb => ?_
    exact wpAny_execs_nil (fin G g vs ms _ hJ ((Z.dropIter hL 0 rfl hsb).toks tk))

theorem St.takeIn {L : Addr} {t₀ : Thing} (Z : St F g ((L, t₀) :: ms) s) {g' : View} {s' : Shared} {D : Addr} {t : Thing} (o1 : s'.os = s.os) (o2 : s'.gens = s.gens) (o3 : s.heap.objs.size ≤ s'.heap.objs.size) (o4 : Le s.heap.get? s'.heap.get?)
    (U : Up s.heap.objs.size g g') (o6 : Le g' s'.heap.get?) (hD : s.heap.objs.size ≤ D) (o7 : g' D = none) (o8 : Own s'.heap D t) : St F g' ((L, t₀) :: (D, t) :: ms) s' := by
  have hk : F.k D = none := by
    cases e : F.k D with
    | none => rfl
    | some o => exact absurd (Heap.lt_size (Z.kp _ _ e)) (Nat.not_lt.mpr hD)
  have hne : ∀ p ∈ ((L, t₀) :: ms), p.1 ≠ D := fun p hp q => by
    have := (Z.now p hp).1.lt
    rw [q] at this
    exact Nat.lt_irrefl _ (Nat.lt_of_lt_of_le this hD)
  have old : ∀ p ∈ ((L, t₀) :: ms), Own s'.heap p.1 p.2 ∧ g' p.1 = none ∧ F.k p.1 = none := fun p hp => by
    have z := Z.now p hp
    refine ⟨let ⟨o, e, t⟩ := z.1; ⟨o, o4 _ _ e, t⟩, ?_, z.2.2⟩
    cases q : g' p.1 with
    | none => rfl
    | some o =>
      rcases U.2 _ _ q with e | e
      · rw [z.2.1] at e; cases e
      · exact absurd z.1.lt (Nat.not_lt.mpr e)
  refine ⟨o1.trans Z.os, o2.trans Z.gens, Nat.le_trans Z.sz o3, Z.kp.trans o4, o6, fun p hp => ?_, ?_⟩
  · rcases List.mem_cons.mp hp with rfl | hp
    · exact old _ (.head _)
    · rcases List.mem_cons.mp hp with rfl | hp
      · exact ⟨o8, o7, hk⟩
      · exact old p (.tail _ hp)
  · have nd := Z.nd
    simp only [List.map_cons, List.nodup_cons, List.mem_cons, not_or] at nd ⊢
    refine ⟨⟨hne _ (.head _), nd.1⟩, fun hm => ?_, nd.2⟩
    obtain ⟨p, hp, e⟩ := List.mem_map.mp hm
    exact hne p (.tail _ hp) e
theorem St.grow {L : Addr} {t₀ : Thing} (Z : St F g ((L, t₀) :: ms) s) {g' : View} {s' : Shared} (o1 : s'.os = s.os) (o2 : s'.gens = s.gens) (o3 : s.heap.objs.size ≤ s'.heap.objs.size) (o4 : Le s.heap.get? s'.heap.get?)
    (U : Up s.heap.objs.size g g') (o6 : Le g' s'.heap.get?) : St F g' ((L, t₀) :: ms) s' := by
  refine ⟨o1.trans Z.os, o2.trans Z.gens, Nat.le_trans Z.sz o3, Z.kp.trans o4, o6, fun p hp => ?_, Z.nd⟩
  have z := Z.now p hp
  refine ⟨let ⟨o, e, t⟩ := z.1; ⟨o, o4 _ _ e, t⟩, ?_, z.2.2⟩
  cases q : g' p.1 with
  | none => rfl
  | some o =>
    rcases U.2 _ _ q with e | e
    · rw [z.2.1] at e; cases e
    · exact absurd z.1.lt (Nat.not_lt.mpr e)
end
end Mine
end

section
open PySem PySem.W PyProof.Rows PySem.W.X PySem.SeqAt
namespace Mine

theorem TupAt.isTuple {g : View} {h : Heap} {a : Addr} {its : List Value} (x : TupAt g (.ref a) its) (k : Le g h.get?) : h.IsTuple a its.toArray := by
  obtain ⟨b, e, q⟩ := x
  cases e
  exact ⟨_, k _ _ q, rfl, _, rfl⟩

section
variable {A : Around} {s : Shared} {g : View}
theorem num_eq {n : Num} {a b : Value} (ha : NumV n a) (hb : NumV n b) : EqAt A s a b true := by
  cases n with
  | int n =>
    obtain ⟨t, rfl⟩ := ha
    obtain ⟨u, rfl⟩ := hb
    have := EqAt.int_int (A := A) (s := s) (n : Int) t (n : Int) u
    rwa [beq_self_eq_true] at this
  | str l =>
    obtain ⟨t, rfl⟩ := ha
    obtain ⟨u, rfl⟩ := hb
    have := EqAt.str_str (A := A) (s := s) (S l) t (S l) u
    rwa [beq_self_eq_true] at this
theorem piece_eq {va ua : Value} {p : Num × List Nat} (hu : A.units < cLine) (k : Le g s.heap.get?) (ha : PieceAt g va p) (hb : PieceAt g ua p) : EqAt A s va ua true := by
  obtain ⟨na, ta, X1, Y1⟩ := ha
  obtain ⟨nb, tb, X2, Y2⟩ := hb
  obtain ⟨a, rfl, _⟩ := id Y1
  obtain ⟨b, rfl, _⟩ := id Y2
  by_cases q : a = b
  · subst q; exact EqAt.same _
  · have := RcAt.tuples (A := A) (s := s) (e := fun _ => true) (Y1.isTuple k) (Y2.isTuple k) hu (fun j h1 h2 => by
      have hj : j = 0 ∨ j = 1 := by simp at h1; lia
      rcases hj with rfl | rfl
      · exact num_eq X1 X2
      · have := EqAt.str_str (A := A.in1) (s := s) (S p.2) ta (S p.2) tb
        rw [beq_self_eq_true] at this
        exact this)
    exact EqAt.of_refs q this
def DueAt (g : View) (u : Value) (r : RowG) : Prop := ∃ ua ub, PieceAt g ua (sideTx r.a) ∧ PieceAt g ub (sideTx r.b) ∧ TupAt g u [ua, ub, flagV r.fl]
theorem DueAt.mono {g g' : View} {u r} (x : DueAt g u r) (k : Le g g') : DueAt g' u r := let ⟨ua, ub, h1, h2, h3⟩ := x; ⟨ua, ub, h1.mono k, h2.mono k, h3.mono k⟩
theorem RowOk.due {g : View} {v r} (x : RowOk g v r) : DueAt g v r := let ⟨⟨va, vb, h1, h2, h3⟩, _⟩ := x; ⟨va, vb, h1, h2, h3⟩
theorem due_ne {v u : Value} {r : RowG} (hu : A.units + 1 < cLine) (k : Le g s.heap.get?) (hv : DueAt g v r) (hd : DueAt g u r) : RcNeAt A s v u false := by
  obtain ⟨va, vb, a1, a2, a3⟩ := hv
  obtain ⟨ua, ub, b1, b2, b3⟩ := hd
  obtain ⟨a, rfl, _⟩ := id a3
  obtain ⟨b, rfl, _⟩ := id b3
  have hu' : A.in1.units < cLine := by show A.units + 1 < cLine; exact hu
  exact RcNeAt.tuples (A := A) (s := s) (e := fun _ => true) (a3.isTuple k) (b3.isTuple k) (by lia) (fun j h1 h2 => by
      have hj : j = 0 ∨ j = 1 ∨ j = 2 := by simp at h1; lia
      rcases hj with rfl | rfl | rfl
      · exact piece_eq hu' k a1 b1
      · exact piece_eq hu' k a2 b2
      · exact EqAt.same _)
end

section
variable {prog : Program} {w : World} {A : Around} {E : Value → Shared → Prop} {env : Env} {F : Fx} {g : View} {ms : List (Addr × Thing)} {s : Shared} {vs : List (Str × Value)}
theorem r_tupitem {v : Value} {its : List Value} {k : Nat} {t : Tok} {x : Value} {value slice : Expr} {Q : Value → Shared → Prop} (X : TupAt s.heap.get? v its) (hk : k ≤ 2 ^ 20) (hx : its[k]? = some x) (h : Q x s)
    (hs : ∀ a, subscripted slice false (.ref a) (.int (k : Int) t) = operate [.ref a, .int (k : Int) t] (getItem (.ref a) (.int (k : Int) t)) := by intro _; with_unfolding_all rfl) :
    wpAny (model prog w) A (subscriptTail value slice v (.int (k : Int) t)) Q E s := by
  obtain ⟨a, rfl, e⟩ := X
  have ht : IsTup s.heap a its.toArray := ⟨_, e, rfl, _, rfl⟩
  have hlt : k < its.length := (List.getElem?_eq_some_iff.mp hx).1
  refine tail_any ht.typeIs slot_tuple_getitem.lookup (getItem_tuple (j := k) ht (by lia) (by lia) ?_ (by simpa using hx) h) (hs a)
  unfold seqIndex?
  have h1 : ¬ ((k : Int) < 0) := by lia
  simp only [h1, if_false]
  rw [if_pos (by simp; lia)]
  simp
end

def lwFor : Stmt := (defBody dLaw).getD 5 (.Pass default)
def lwDue : Stmt := (forBody lwFor).getD 8 (.Pass default)
abbrev envLw (doc pm cd ct : Value) (an : Option Addr) (L f : Addr) : Env := callEnvC (mkFd "law" "law" dLaw .none doc pm cd ct an) L f
abbrev lv0 (fa DL CL : Addr) : List (Str × Value) := [("flow", .ref fa), ("source", .ref DL), ("columns", .ref CL)]

def lwT (n : Addr) (o3 o2 o1 : Option Value) (DL : Addr) (its : List Value) (os : List (Addr × Thing)) : List (Addr × Thing) :=
  (n + 1 + 1 + 1, .cell o3) :: (n + 1 + 1, .cell o2) :: (n + 1, .cell o1) :: (DL, .list its) :: os
inductive DueJ (lo hi : Nat) (G : Array GenState) (n : Addr) (g : View) (Inv : InvT) (its : List Value) (rows : List RowG) (fa DL CL ot : Addr) (oth : Thing) (o3 o2 o1 : Option Value) (i : Nat) (G' : Array GenState) (g' : View) : List (Str × Value) → List (Addr × Thing) → Prop
  | mk (os' : List (Addr × Thing)) (h1 : GK lo hi G G') (h2 : Up n g g') (h3 : Inv its (rows.drop i) G' g' os') : DueJ lo hi G n g Inv its rows fa DL CL ot oth o3 o2 o1 i G' g' (lv0 fa DL CL) ((ot, oth) :: lwT n o3 o2 o1 DL its os')

section
variable {prog : Program} {w : World} {A : Around} {F : Fx} {g : View} {s : Shared} {doc pm cd ct : Value} {an : Option Addr} {f : Addr}
  {B : View} {K : Frag} {D : Ad} {D2 : Ad2} {n₀ lo hi d : Nat} {DL fa CL ot du : Addr} {oth : Thing} {T : RowG → List RowG} {Inv : InvT} {its dits : List Value} {rows : List RowG} {G : Array GenState} {os : List (Addr × Thing)} {o3 o2 : Option Value}

theorem due_loop (Sr : Src prog w B n₀ lo hi d DL fa T Inv) (hB : Base B K D D2) (hh : A.handled = none) (hd : A.depth + d < recursionLimit) (hu : A.units + 1 < cLine) (hn : F.n ≤ n₀) (hBk : Le B F.k) (hits : its.length ≤ 1000)
    (hG : GenObj g fa (hi - 1)) {fl : Flag} (hfl : ∀ r ∈ rows, r.fl = fl) (hdu : LstAt g (.ref du) dits) (hd2 : All2 (DueAt g) dits rows) (hInv : Inv its rows G g os)
    (Z : St (F.gen G) g ((F.n, .vars (("due", .ref du) :: lv0 fa DL CL)) :: (ot, oth) :: lwT F.n o3 o2 (some (flagV fl)) DL its os) s) {Q : Flow → Shared → Prop}
    (hK : ∀ G' g' os' s', GK lo hi G G' → Up F.n g g' → Inv its [] G' g' os' → St (F.gen G') g' ((F.n, .vars (lv0 fa DL CL)) :: (ot, oth) :: lwT F.n o3 o2 (some (flagV fl)) DL its os') s' → Q .next s') :
    wpAny (model prog w) A (exec lwDue (envLw doc pm cd ct an F.n f)) Q none2 s := by
  have hlen := hd2.length
  refine r_forG (F := F) (env := envLw doc pm cd ct an F.n f) (Nat.le_refl _) ?_
  refine r_ld Z rfl (iter_list Z (hdu.isList Z.dat) fun it s₁ Z => ?_)
  refine ⟨it, dits.length, fun i => .iter du i, fun i x => dits[i]? = some x, fun h => h.IsList du dits.toArray,
    DueJ lo hi G F.n g Inv its rows fa DL CL ot oth o3 o2 (some (flagV fl)),
    rfl, itk_list hh, ⟨G, g, _, _, ⟨os, GK.refl _ _ _, Up.refl _ _, hInv⟩, Z.weak ⟨rfl, rfl, rfl, trivial⟩⟩, ?_, ?_, ?_⟩
  · rintro i G' g' vs ms s' ⟨os', h1, h2, h3⟩ hd _ _
    exact (hdu.mono h2.1).isList hd
  · rintro i x G' g' vs ms s' hi' hx ⟨os', h1, h2, h3⟩ Z
    obtain ⟨r, hr, hdue⟩ := hd2.get hx
    have hdr : rows.drop i = r :: rows.drop (i + 1) := by
      have hlt : i < rows.length := by lia
      rw [List.drop_eq_getElem_cons hlt]
      rw [List.getElem?_eq_getElem hlt] at hr
      cases hr; rfl
    rw [hdr] at h3
    refine r_assign (env := envLw doc pm cd ct an F.n f) Z fun s₂ Z => ?_
    have hN := (hB.txt _ (hBk.trans Z.kp)).nNext
    refine r_seqA (fun K => ∀ G'' g'' os'' v s', GK lo hi G G'' → Up F.n g' g'' → RowOk g'' v r → Inv its (rows.drop (i + 1)) G'' g'' os'' →
      St (F.gen G'') g'' ((F.n, .vars (("told", v) :: ("row", x) :: lv0 fa DL CL)) :: (it, .iter du (i + 1)) :: (ot, oth) :: lwT F.n o3 o2 (some (flagV fl)) DL its os'') s' → K s') (fun K kc => ?_) ?_
    · refine wpAny_Assign_Name (r_b2 hN (r_ld Z rfl (wpAny_Constant_none (call_next2 ((hG.mono h2.1).isGen Z.dat) ?_))))
      refine Sr.next (A := A.in1) (F := F.gen G') (ms := (F.n, .vars (("row", x) :: lv0 fa DL CL)) :: (it, .iter du (i + 1)) :: (ot, oth) :: (F.n + 1 + 1 + 1, .cell o3) :: (F.n + 1 + 1, .cell o2) :: [(F.n + 1, .cell (some (flagV fl)))]) hh hd hBk hn hits h3 (Z.perm (List.perm_middle (l₁ := (F.n, .vars (("row", x) :: lv0 fa DL CL)) :: (it, .iter du (i + 1)) :: (ot, oth) :: (F.n + 1 + 1 + 1, .cell o3) :: (F.n + 1 + 1, .cell o2) :: [(F.n + 1, .cell (some (flagV fl)))]))) (fun q => nomatch q) ?_
      intro r' rest e v G'' g'' os'' s₃ k1 k2 k3 k4 Z
      cases e
      have Z' : St (F.gen G'') g'' ((F.n, .vars (("row", x) :: lv0 fa DL CL)) :: (it, .iter du (i + 1)) :: (ot, oth) :: lwT F.n o3 o2 (some (flagV fl)) DL its os'') s₃ :=
        Z.perm (List.perm_middle (l₁ := (F.n, .vars (("row", x) :: lv0 fa DL CL)) :: (it, .iter du (i + 1)) :: (ot, oth) :: (F.n + 1 + 1 + 1, .cell o3) :: (F.n + 1 + 1, .cell o2) :: [(F.n + 1, .cell (some (flagV fl)))])).symm
      exact r_store (env := envLw doc pm cd ct an F.n f) Z' fun s₄ Z => ⟨rfl, kc G'' g'' os'' v _ (h1.trans k1) k2 k3 k4 Z⟩
    intro G'' g'' os'' v s₃ k1 k2 k3 k4 Z
    have hrf : r.fl = fl := hfl r (mem_of_idx hr)
    refine wpAny_execs_cons (wpAny_If (isTrue_or (wpAny_isTrue_Compare1 (r_ld Z rfl (r_ld Z rfl ?_)))))
    refine due_ne hu Z.dat k3.due (hdue.mono (h2.1.trans k2.1)) prog w _ _ (wpAny_truthy_bool ?_)
    simp only [Bool.false_eq_true, if_false]
    obtain ⟨⟨va, vb, y1, y2, y3⟩, _⟩ := k3
    refine isTrue_or (wpAny_isTrue_Compare1 (Subscript_ (r_ld Z rfl (r_int Z fun t2 s₄ Z => r_tupitem (k := 2) (y3.mono Z.dat) (by lia) rfl (r_ldc (env := envLw doc pm cd ct an F.n f) (i := 5) Z rfl ?_)))))
    rw [hrf]
    refine wpAny_isNot_self (by cases fl <;> rfl) (wpAny_truthy_bool ?_)
    simp only [Bool.false_eq_true, if_false]
    refine isTrue_or_nil ?_
    simp only [Bool.false_eq_true, if_false]
    refine wpAny_execs_nil (wpAny_execs_nil ⟨G'', g'', _, _, ⟨os'', k1, h2.trans k2, k4⟩, Z.weak ⟨rfl, rfl, rfl, trivial⟩⟩)
  · rintro G' g' vs ms s' ⟨os', h1, h2, h3⟩ Z
    rw [List.drop_of_length_le (by lia)] at h3
    exact hK G' g' os' _ h1 h2 h3 Z
end
end Mine
end

section
open PySem PySem.W PyProof.Rows PySem.W.X PySem.SeqAt
namespace Mine

theorem zip_pad (fl : Flag) : ∀ (A B : List Side), zipPad fl A B = List.zipWith (fun a b => RowG.mk a b fl) (A ++ List.replicate (max A.length B.length - A.length) blank) (B ++ List.replicate (max A.length B.length - B.length) blank)
  | [], [] => by simp [zipPad]
  | x :: A, [] => by
    have ih := zip_pad fl A []
    simp only [zipPad, ih, List.length_cons, List.length_nil]
    have e1 : max (A.length + 1) 0 - (A.length + 1) = 0 := by lia
    have e2 : max (A.length + 1) 0 - 0 = A.length + 1 := by lia
    have e3 : max A.length 0 - A.length = 0 := by lia
    have e4 : max A.length 0 - 0 = A.length := by lia
    rw [e1, e2, e3, e4, List.replicate_succ]; simp
  | [], y :: B => by
    have ih := zip_pad fl [] B
    simp only [zipPad, ih, List.length_cons, List.length_nil]
    have e1 : max 0 (B.length + 1) - (B.length + 1) = 0 := by lia
    have e2 : max 0 (B.length + 1) - 0 = B.length + 1 := by lia
    have e3 : max 0 B.length - B.length = 0 := by lia
    have e4 : max 0 B.length - 0 = B.length := by lia
    rw [e1, e2, e3, e4, List.replicate_succ]; simp
  | x :: A, y :: B => by
    have ih := zip_pad fl A B
    simp only [zipPad, ih, List.length_cons]
    have e1 : max (A.length + 1) (B.length + 1) - (A.length + 1) = max A.length B.length - A.length := by lia
    have e2 : max (A.length + 1) (B.length + 1) - (B.length + 1) = max A.length B.length - B.length := by lia
    rw [e1, e2]; simp
theorem zip_fl (fl : Flag) (A B : List Side) : ∀ r ∈ zipPad fl A B, r.fl = fl := by
  rw [zip_pad]
  intro r hr
  obtain ⟨i, hi⟩ := List.getElem?_of_mem hr
  rw [List.getElem?_zipWith] at hi
  split at hi
  · cases hi; rfl
  · cases hi
theorem trQ_fl (Q : Nat → Bool) (r : RowG) : ∀ x ∈ trQ Q r, x.fl = r.fl := by
  unfold trQ
  split
  · intro x hx; rw [List.mem_singleton.mp hx]
  · exact zip_fl _ _ _
theorem all2_rep {α β : Type} {R : α → β → Prop} {a : α} {b : β} (h : R a b) : ∀ n, All2 R (List.replicate n a) (List.replicate n b)
  | 0 => .nil
  | n + 1 => .cons h (all2_rep h n)
theorem all2_unmap {α β γ : Type} {R : α → γ → Prop} {f : β → γ} : ∀ {l : List α} {m : List β}, All2 R l (m.map f) → All2 (fun a b => R a (f b)) l m
  | [], [], _ => .nil
  | _ :: _, _ :: _, .cons h t => .cons h (all2_unmap t)
theorem zip_get {fl : Flag} {A B : List Side} {i : Nat} (h : i < max A.length B.length) : ∃ a b, (A ++ List.replicate (max A.length B.length - A.length) blank)[i]? = some a ∧ (B ++ List.replicate (max A.length B.length - B.length) blank)[i]? = some b ∧
    (zipPad fl A B)[i]? = some ⟨a, b, fl⟩ := by
  have h1 : i < (A ++ List.replicate (max A.length B.length - A.length) blank).length := by simp; lia
  have h2 : i < (B ++ List.replicate (max A.length B.length - B.length) blank).length := by simp; lia
  refine ⟨_, _, List.getElem?_eq_getElem h1, List.getElem?_eq_getElem h2, ?_⟩
  rw [zip_pad, List.getElem?_zipWith, List.getElem?_eq_getElem h1, List.getElem?_eq_getElem h2]
theorem zip_length (fl : Flag) (A B : List Side) : (zipPad fl A B).length = max A.length B.length := by
  rw [zip_pad, List.length_zipWith]
  simp; lia
theorem pieces_bound {l : List Stretch} (h : GoodSide l) (Q : Nat → Bool) (n : Num) : (FQ Q (n, l)).length ≤ 301 := by
  rw [FQ_len]
  have : ∀ (P : Nat → Bool) (k pos : Nat), cntP P pos k ≤ k := by
    intro P k
    induction k with
    | zero => intro pos; exact Nat.le_refl _
    | succ k ih => intro pos; have := ih (pos + 1); simp only [cntP]; split <;> lia
  have h1 := lenOf_good h
  have h2 := this (inN Q (lenOf l)) (lenOf l) 0
  simp only
  split <;> lia

section
variable {prog : Program} {w : World} {A : Around} {F : Fx} {g : View} {s : Shared} {doc pm cd ct : Value} {an : Option Addr} {f : Addr}
  {B : View} {K : Frag} {D : Ad} {D2 : Ad2} {n₀ lo hi d : Nat} {DL fa CL ot : Addr} {oth : Thing} {T : RowG → List RowG} {Inv : InvT} {its : List Value} {G : Array GenState} {os : List (Addr × Thing)} {o3 o2 o1 : Option Value}
  {cols : List Nat}

abbrev rv1 (nv lv ov rv : Value) (fa DL CL : Addr) : List (Str × Value) := ("right", rv) :: ("other", ov) :: ("left", lv) :: ("number", nv) :: lv0 fa DL CL
abbrev lms (F : Fx) (vs : List (Str × Value)) (ex : List (Addr × Thing)) (ot : Addr) (oth : Thing) (o3 o2 o1 : Option Value) (DL : Addr) (its : List Value) (os : List (Addr × Thing)) : List (Addr × Thing) :=
  (F.n, .vars vs) :: (ex ++ (ot, oth) :: lwT F.n o3 o2 o1 DL its os)

theorem law_row (Sr : Src prog w B n₀ lo hi d DL fa T Inv) (hB : Base B K D D2) (hh : A.handled = none) (hd : A.depth + d < recursionLimit) (hd2 : A.depth + 2 < recursionLimit) (hu : A.units + 1 < cLine) (hn : F.n ≤ n₀) (hBk : Le B F.k) (hits : its.length < 1000)
    (hG : GenObj g fa (hi - 1)) (hcols : ColsAt g (.ref CL) cols) (hcp : ∀ c ∈ cols, 0 < c) (hT : ∀ r, T r = trQ (fun k => leaves cols k == 0) r) {row : RowD} {xv : Value} (hrow : RowAt g xv row) (hgood : GoodRow row) (hInv : Inv its [] G g os)
    (Z : St (F.gen G) g (lms F (lv0 fa DL CL) [] ot oth o3 o2 o1 DL its os) s) {Q : Flow → Shared → Prop}
    (hK : ∀ G' g' os' v o3 o2 o1 s', GK lo hi G G' → Up F.n g g' → Inv (its ++ [v]) [] G' g' os' → St (F.gen G') g' (lms F (lv0 fa DL CL) [] ot oth o3 o2 o1 DL (its ++ [v]) os') s' → Q .next s') :
    wpAny (model prog w) A (assign (forTarget lwFor) (envLw doc pm cd ct an F.n f) xv) (fun _ s₂ => wpAny (model prog w) A (execs (forBody lwFor) (envLw doc pm cd ct an F.n f)) Q none2 s₂) none2 s := by
  obtain ⟨n1, l, n2, r, fl⟩ := row
  obtain ⟨nv, lv, ov, rv, Xn, Xl, Xo, Xr, Xt⟩ := hrow
  obtain ⟨gl, gr, gn, go⟩ := hgood
  dsimp only at Xn Xl Xo Xr Xt gl gr gn go
  have TT : ∀ {G : Array GenState} {g ms s'}, St (F.gen G) g ms s' → Txt D s'.heap := fun Z => hB.txt _ (hBk.trans Z.kp)
  refine r_untup Z (Nat.le_refl _) hh (Xt.mono Z.dat) rfl rfl fun s₁ Z _ => ?_
  refine wpAny_assignInOrder_more (r_assign (env := envLw doc pm cd ct an F.n f) Z fun s₂ Z => ?_)
  refine wpAny_assignInOrder_more (r_assign (env := envLw doc pm cd ct an F.n f) Z fun s₂ Z => ?_)
  refine wpAny_assignInOrder_more (r_assign (env := envLw doc pm cd ct an F.n f) Z fun s₂ Z => ?_)
  refine wpAny_assignInOrder_more (r_assign (env := envLw doc pm cd ct an F.n f) Z fun s₂ Z => ?_)
  refine wpAny_assignInOrder_more (r_assignc (env := envLw doc pm cd ct an F.n f) (i := 4) Z rfl fun s₃ Z => wpAny_assignInOrder_none ?_)
  change St (F.gen G) g (lms F (rv1 nv lv ov rv fa DL CL) [] ot oth o3 o2 (some (flagV fl)) DL its os) s₃ at Z
  have bl := count_wt gl.1 gl.2
  have br := count_wt gr.1 gr.2
  -- source.append
  refine r_seqA (φ := fun Kc => ∀ g' v s', Up F.n g g' → RowOk g' v ⟨(n1, l), (n2, r), fl⟩ → St (F.gen G) g' (lms F (rv1 nv lv ov rv fa DL CL) [] ot oth o3 o2 (some (flagV fl)) DL (its ++ [v]) os) s' → Kc s') ?_ ?_
  · intro Kc kc
    refine r_appendS (F := F.gen G) (r_ld (env := envLw doc pm cd ct an F.n f) Z rfl ⟨DL, its, rfl, Z.own 5 rfl, r_tuple3 (r_tuple2 (r_ld (env := envLw doc pm cd ct an F.n f) Z rfl (r_f1 (TT Z).nText (r_ld (env := envLw doc pm cd ct an F.n f) Z rfl ⟨(TT Z).fText, ?_⟩))))⟩)
    refine text_spec (TT Z) (by lia) hh (Xl.mono Z.dat) (by lia) fun s₄ t1 p1 p2 p3 p4 => ?_
    replace Z := Z.ext p1 p2 p3 p4
    refine r_newTuple Z (by simp) fun va g1 s₅ U1 X1 Z => ?_
    refine r_tuple2 (r_ld (env := envLw doc pm cd ct an F.n f) Z rfl (r_f1 (TT Z).nText (r_ld (env := envLw doc pm cd ct an F.n f) Z rfl ⟨(TT Z).fText, ?_⟩)))
    refine text_spec (TT Z) (by lia) hh ((Xr.mono U1.1).mono Z.dat) (by lia) fun s₆ t2 p1 p2 p3 p4 => ?_
    replace Z := Z.ext p1 p2 p3 p4
    refine r_newTuple Z (by simp) fun vb g2 s₇ U2 X2 Z => ?_
    refine r_ldc (env := envLw doc pm cd ct an F.n f) (i := 4) Z rfl (r_newTuple Z (by simp) fun v g3 s₈ U3 X3 Z => ⟨g3, _, 5, its, Z, rfl, by lia, fun s₉ Z => ⟨rfl, kc g3 v _ ((U1.trans U2).trans U3) ?_ Z⟩⟩)
    exact ⟨⟨va, vb, ⟨nv, t1, Xn, X1.mono (U2.1.trans U3.1)⟩, ⟨ov, t2, Xo, X2.mono U3.1⟩, X3⟩, gl, gr, gn, go⟩
  rintro g1 v s₄ U1 Xv Z
  have asc : ∀ {l : List Stretch}, GoodSide l → ∀ x ∈ l, ∀ c ∈ x.2, c < 128 := fun h x hx c hc => ((h.1 x hx).2.2 c hc).2
  have wl := good_wt gl.1
  have wr := good_wt gr.1
  have hll := gl.2
  have hlr := gr.2
  -- ones
  refine r_seqA (φ := fun Kc => ∀ g' D1 p1 s', Up F.n g g' → RowOk g' v ⟨(n1, l), (n2, r), fl⟩ → All2 (PieceAt g') p1 (lawPieces n1 l cols) → St (F.gen G) g' (lms F (rv1 nv lv ov rv fa DL CL) [(D1, .list p1)] ot oth o3 (some (.ref D1)) (some (flagV fl)) DL (its ++ [v]) os) s' → Kc s') ?_ ?_
  · intro Kc kc
    refine wpAny_Assign_Name (r_f3 (TT Z).nPieces (r_ld (env := envLw doc pm cd ct an F.n f) Z rfl (r_ld (env := envLw doc pm cd ct an F.n f) Z rfl (r_ld (env := envLw doc pm cd ct an F.n f) Z rfl ⟨(TT Z).fPieces, ?_⟩))))
    refine pieces_spec (g := g1) (TT Z) (by lia) hh Z.dat Xn gn (Xl.mono U1.1) (hcols.mono U1.1) hcp (by lia) (asc gl) ?_
    intro s₅ g2 D1 p1 q1 q2 q3 q4 q5 q6 q7 q8 q9 q10
    have Z' := Z.takeIn q1 q2 q3 q4 q5 q6 q7 q8 q9
    refine r_stc (env := envLw doc pm cd ct an F.n f) (i := 4) Z' rfl fun s₆ Z => ⟨rfl, kc g2 D1 p1 _ (U1.trans (q5.low (by have := ‹St (F.gen G) g1 _ s₄›.sz; exact this))) (Xv.mono q5.1) q10 Z⟩
  rintro g2 D1 p1 s₅ U2 Xv hp1 Z
  -- others
  refine r_seqA (φ := fun Kc => ∀ g' D2 p2 s', Up F.n g g' → RowOk g' v ⟨(n1, l), (n2, r), fl⟩ → All2 (PieceAt g') p1 (lawPieces n1 l cols) → All2 (PieceAt g') p2 (lawPieces n2 r cols) → St (F.gen G) g' (lms F (rv1 nv lv ov rv fa DL CL) [(D2, .list p2), (D1, .list p1)] ot oth (some (.ref D2)) (some (.ref D1)) (some (flagV fl)) DL (its ++ [v]) os) s' → Kc s') ?_ ?_
  · intro Kc kc
    refine wpAny_Assign_Name (r_f3 (TT Z).nPieces (r_ld (env := envLw doc pm cd ct an F.n f) Z rfl (r_ld (env := envLw doc pm cd ct an F.n f) Z rfl (r_ld (env := envLw doc pm cd ct an F.n f) Z rfl ⟨(TT Z).fPieces, ?_⟩))))
    refine pieces_spec (g := g2) (TT Z) (by lia) hh Z.dat Xo go (Xr.mono U2.1) (hcols.mono U2.1) hcp (by lia) (asc gr) ?_
    intro s₆ g3 D2 p2 q1 q2 q3 q4 q5 q6 q7 q8 q9 q10
    have Z' := Z.takeIn q1 q2 q3 q4 q5 q6 q7 q8 q9
    refine r_stc (env := envLw doc pm cd ct an F.n f) (i := 4) Z' rfl fun s₇ Z => ⟨rfl, kc g3 D2 p2 _ (U2.trans (q5.low (by have := ‹St (F.gen G) g2 _ s₅›.sz; exact this))) (Xv.mono q5.1) (hp1.imp fun _ _ z => z.mono q5.1) q10 Z⟩
  rintro g3 Dt p2 s₆ U3 Xv hp1 hp2 Z
  rw [law_pieces] at hp1 hp2
  have hA := pieces_bound gl (fun k => leaves cols k == 0) n1
  have hBb := pieces_bound gr (fun k => leaves cols k == 0) n2
  generalize hFA : FQ (fun k => leaves cols k == 0) (n1, l) = FA at *
  generalize hFB : FQ (fun k => leaves cols k == 0) (n2, r) = FB at *
  replace hp1 := all2_unmap hp1
  replace hp2 := all2_unmap hp2
  have e1 := hp1.length
  have e2 := hp2.length
  -- size
  refine r_seqA (φ := fun Kc => ∀ t s', St (F.gen G) g3 (lms F (("size", .int ((max FA.length FB.length : Nat) : Int) t) :: rv1 nv lv ov rv fa DL CL) [(Dt, .list p2), (D1, .list p1)] ot oth (some (.ref Dt)) (some (.ref D1)) (some (flagV fl)) DL (its ++ [v]) os) s' → Kc s') ?_ ?_
  · intro Kc kc
    refine wpAny_Assign_Name (r_b2 (TT Z).nMax (r_b1 (TT Z).nLen (r_ldc (env := envLw doc pm cd ct an F.n f) (i := 5) Z rfl (r_len_list Z (own_isList (Z.own 2 rfl)) (by lia) fun ta s₇ Z => r_b1 (TT Z).nLen (r_ldc (env := envLw doc pm cd ct an F.n f) (i := 4) Z rfl (r_len_list Z (own_isList (Z.own 1 rfl)) (by lia) fun tb s₈ Z => max_two_ints hh fun h' tk hk => ?_))))))
    have Z' := Z.extL (Nat.le_refl _) tk hk
    have key : ∃ t, (if (p2.length : Int) > (p1.length : Int) then Value.int (p2.length : Int) tb else Value.int (p1.length : Int) ta) = .int ((max FA.length FB.length : Nat) : Int) t := by
      by_cases q : (p2.length : Int) > (p1.length : Int)
      · rw [if_pos q]; exact ⟨tb, by rw [show ((max FA.length FB.length : Nat) : Int) = (p2.length : Int) by lia]⟩
      · rw [if_neg q]; exact ⟨ta, by rw [show ((max FA.length FB.length : Nat) : Int) = (p1.length : Int) by lia]⟩
    obtain ⟨t, ht⟩ := key
    rw [ht]
    exact r_store (env := envLw doc pm cd ct an F.n f) Z' fun s₉ Z => ⟨rfl, kc t _ Z⟩
  rintro ts s₇ Z
  -- ones += ..
  refine r_seqA (φ := fun Kc => ∀ g' q1 s', Up F.n g g' → RowOk g' v ⟨(n1, l), (n2, r), fl⟩ → All2 (SideAt g') q1 (FA ++ List.replicate (max FA.length FB.length - FA.length) blank) → All2 (SideAt g') p2 FB → St (F.gen G) g' (lms F (("size", .int ((max FA.length FB.length : Nat) : Int) ts) :: rv1 nv lv ov rv fa DL CL) [(Dt, .list p2), (D1, .list q1)] ot oth (some (.ref Dt)) (some (.ref D1)) (some (flagV fl)) DL (its ++ [v]) os) s' → Kc s') ?_ ?_
  · intro Kc kc
    refine wpAny_AugAssign_Name (r_loadc (env := envLw doc pm cd ct an F.n f) (i := 5) Z rfl (wpAny_BinOp (r_list1 (r_tuple2 (r_str Z fun t1 s₈ Z => r_str Z fun t2 s₉ Z => r_newTuple Z (by simp) fun bv g4 s₁₀ U4 X4 Z => r_newList Z (by simp) fun M1 s₁₁ hM Z => ?_)))))
    replace Z := St.iterIn Z
    refine wpAny_BinOp (r_ld (env := envLw doc pm cd ct an F.n f) Z rfl (r_b1 (TT Z).nLen (r_ldc (env := envLw doc pm cd ct an F.n f) (i := 6) Z rfl (r_len_list Z (own_isList (Z.own 3 rfl)) (by lia) fun t3 s₁₂ Z => sub_int ?_))))
    rw [show ((max FA.length FB.length : Nat) : Int) - (p1.length : Int) = ((max FA.length FB.length - FA.length : Nat) : Int) by lia]
    refine r_mulList (i := 1) (Z.toks _) rfl (by lia) fun M2 s₁₃ hM2 Z => ?_
    replace Z := St.iterIn Z
    refine r_iaddList (i := 4) (j := 1) Z rfl rfl (by simp; lia) fun s₁₄ Z => r_stc (env := envLw doc pm cd ct an F.n f) (i := 7) Z rfl fun s₁₅ Z => ⟨rfl, kc g4 _ _ (U3.trans U4) (Xv.mono U4.1) ?_ (hp2.imp fun _ _ z => PieceAt.mono z U4.1) ((Z.drop 1).drop 1)⟩
    exact (hp1.imp fun _ _ z => PieceAt.mono z U4.1).append (all2_rep (blankAt X4) _)
  rintro g4 q1 s₈ U4 Xv hq1 hp2 Z
  have eq1 := hq1.length
  -- others += ..
  refine r_seqA (φ := fun Kc => ∀ g' q2 s', Up F.n g g' → RowOk g' v ⟨(n1, l), (n2, r), fl⟩ → All2 (SideAt g') q1 (FA ++ List.replicate (max FA.length FB.length - FA.length) blank) → All2 (SideAt g') q2 (FB ++ List.replicate (max FA.length FB.length - FB.length) blank) → St (F.gen G) g' (lms F (("size", .int ((max FA.length FB.length : Nat) : Int) ts) :: rv1 nv lv ov rv fa DL CL) [(Dt, .list q2), (D1, .list q1)] ot oth (some (.ref Dt)) (some (.ref D1)) (some (flagV fl)) DL (its ++ [v]) os) s' → Kc s') ?_ ?_
  · intro Kc kc
    refine wpAny_AugAssign_Name (r_loadc (env := envLw doc pm cd ct an F.n f) (i := 4) Z rfl (wpAny_BinOp (r_list1 (r_tuple2 (r_str Z fun t1 s₈ Z => r_str Z fun t2 s₉ Z => r_newTuple Z (by simp) fun bv g4 s₁₀ U5 X4 Z => r_newList Z (by simp) fun M1 s₁₁ hM Z => ?_)))))
    replace Z := St.iterIn Z
    refine wpAny_BinOp (r_ld (env := envLw doc pm cd ct an F.n f) Z rfl (r_b1 (TT Z).nLen (r_ldc (env := envLw doc pm cd ct an F.n f) (i := 5) Z rfl (r_len_list Z (own_isList (Z.own 2 rfl)) (by lia) fun t3 s₁₂ Z => sub_int ?_))))
    rw [show ((max FA.length FB.length : Nat) : Int) - (p2.length : Int) = ((max FA.length FB.length - FB.length : Nat) : Int) by lia]
    refine r_mulList (i := 1) (Z.toks _) rfl (by lia) fun M2 s₁₃ hM2 Z => ?_
    replace Z := St.iterIn Z
    refine r_iaddList (i := 3) (j := 1) Z rfl rfl (by simp; lia) fun s₁₄ Z => r_stc (env := envLw doc pm cd ct an F.n f) (i := 6) Z rfl fun s₁₅ Z => ⟨rfl, kc g4 _ _ (U4.trans U5) (Xv.mono U5.1) (hq1.imp fun _ _ z => PieceAt.mono z U5.1) ?_ ((Z.drop 1).drop 1)⟩
    exact (hp2.imp fun _ _ z => PieceAt.mono z U5.1).append (all2_rep (blankAt X4) _)
  rintro g5 q2 s₉ U5 Xv hq1 hq2 Z
  have eq2 := hq2.length
  -- due
  refine r_seqA (φ := fun Kc => ∀ g' Du dits s', F.n ≤ Du → Up F.n g g' → RowOk g' v ⟨(n1, l), (n2, r), fl⟩ → All2 (DueAt g') dits (zipPad fl FA FB) → St (F.gen G) g' (lms F (("due", .ref Du) :: lv0 fa DL CL) [(Du, .list dits)] ot oth (some (.ref Dt)) (some (.ref D1)) (some (flagV fl)) DL (its ++ [v]) os) s' → Kc s') ?_ ?_
  · intro Kc kc
    refine r_assigncomp (F := F.gen G) (n := max FA.length FB.length) (j := 0) (th := rangeTh (max FA.length FB.length)) (P := fun i x => ∃ t, x = .int (i : Int) t) (side := fun _ => True)
      (cl := [("others", F.n + 1 + 1 + 1), ("ones", F.n + 1 + 1), ("flag", F.n + 1)]) (fun i g' ys => All2 (DueAt g') ys ((zipPad fl FA FB).take i)) (by lia) rfl (by decide +kernel) (by decide +kernel) rfl ?_
    refine r_range (F := F.gen G) (TT Z).nRange (r_ld (env := envLw doc pm cd ct an F.n f) Z rfl ⟨max FA.length FB.length, ts, g5, _, rfl, by lia, Z, fun it s₁₀ Z => ?_⟩)
    refine ⟨it, rfl, itk_range hh, g5, _, _, St.iterIn Z, rfl, fun _ _ _ _ => trivial, by simpa using All2.nil, ?_, ?_⟩
    · rintro C Dd i x g' ys vs s' hC hD hi' ⟨ti, rfl⟩ hI hl' U Z
      refine r_assign (env := compEnvC _ _ C _) Z fun s₁₁ Z => ?_
      obtain ⟨a, b, ha, hb, hz⟩ := zip_get (fl := fl) hi'
      obtain ⟨av, hav, Xa⟩ := hq1.get' ha
      obtain ⟨bv, hbv, Xb⟩ := hq2.get' hb
      refine r_tuple3 (Subscript_ (r_ldc (env := compEnvC _ _ C _) (i := 8) Z rfl (r_ld (env := compEnvC _ _ C _) Z rfl (r_item (own_isList (Z.own 5 rfl)) (by lia) hav ?_))))
      refine Subscript_ (r_ldc (env := compEnvC _ _ C _) (i := 7) Z rfl (r_ld (env := compEnvC _ _ C _) Z rfl (r_item (own_isList (Z.own 4 rfl)) (by lia) hbv ?_)))
      refine r_ldc (env := compEnvC _ _ C _) (i := 9) Z rfl (r_newTuple Z (by simp) fun dv g'' s₁₂ U' X Z => ⟨g'', _, U', ?_, Z⟩)
      rw [List.take_add_one, hz]
      exact (hI.imp fun _ _ z => z.mono U'.1).append (.cons ⟨av, bv, PieceAt.mono Xa (U.1.trans U'.1), PieceAt.mono Xb (U.1.trans U'.1), X⟩ .nil)
    · rintro Dd g' ys s' hD U hI hl' Z
      rw [List.take_of_length_le (by rw [zip_length]; exact Nat.le_refl _)] at hI
      replace Z := St.iterIn Z
      exact ⟨rfl, kc g' Dd ys _ hD (U5.trans U) (Xv.mono U.1) hI (((Z.drop 2).drop 2).weak ⟨rfl, rfl, rfl, rfl, trivial⟩)⟩
  rintro g6 Du dits s₁₀ hDu U6 Xv hdue Z
  have hits' : (its ++ [v]).length ≤ 1000 := by simp; lia
  have frz : ∀ {g7 : View} {Dn : Addr} {xs : List Value} {ms : List (Addr × Thing)} {vs : List (Str × Value)} {s' : Shared}, F.n ≤ Dn → St (F.gen G) g7 ((F.n, .vars vs) :: (Dn, .list xs) :: ms) s' →
      ∃ g8, Up F.n g7 g8 ∧ LstAt g8 (.ref Dn) xs ∧ St (F.gen G) g8 ((F.n, .vars vs) :: ms) s' := by
    intro g7 Dn xs ms vs s' hDn Z
    obtain ⟨o, ⟨n, ho⟩, U, Z'⟩ := Z.freeze 1 rfl hDn
    exact ⟨_, U, ⟨Dn, n, rfl, by rw [put_self, ho]⟩, Z'⟩
  refine r_seqA (φ := fun Kc => ∀ g' du dits' s', Up F.n g g' → RowOk g' v ⟨(n1, l), (n2, r), fl⟩ → LstAt g' (.ref du) dits' → All2 (DueAt g') dits' (T ⟨(n1, l), (n2, r), fl⟩) → St (F.gen G) g' (lms F (("due", .ref du) :: lv0 fa DL CL) [] ot oth (some (.ref Dt)) (some (.ref D1)) (some (flagV fl)) DL (its ++ [v]) os) s' → Kc s') ?_ ?_
  · intro Kc kc
    refine wpAny_If (wpAny_isTrue_Compare1 (r_ldc (env := envLw doc pm cd ct an F.n f) (i := 5) Z rfl (wpAny_Constant_none (is_none_gen (wpAny_truthy_bool ?_)))))
    cases fl with
    | none =>
      have e0 : (flagV none == Value.none) = true := rfl
      rw [e0, if_pos rfl]
      refine wpAny_execs_cons (wpAny_Assign_Name (r_slice (F := F.gen G) (r_ld (env := envLw doc pm cd ct an F.n f) Z rfl (wpAny_evalPart_some (wpAny_UnaryOp (r_int Z fun t1 s₁₁ Z => PyProof.Rows.neg_int (wpAny_evalPart_none
        ⟨DL, its ++ [v], some (-1), none, g6, _, rfl, own_isList (Z.own 6 rfl), by lia, .int _ _, .none, Z.toks _, fun Dn s₁₂ hDn Z => ?_⟩)))))))
      have el : (slicePick (its ++ [v]).toArray (some (-1)) none none).toList = [v] := by
        rw [show (some (-1) : Option Int) = some (-((1 : Nat) : Int)) from rfl, slicePick_last _ 1 (Nat.le_refl _)]
        simp
      rw [el] at Z
      replace Z := St.iterIn Z
      refine r_store (env := envLw doc pm cd ct an F.n f) Z fun s₁₃ Z => wpAny_execs_nil ?_
      obtain ⟨g8, U8, X8, Z⟩ := frz hDn Z
      refine ⟨rfl, kc g8 Dn ([v]) _ (U6.trans U8) (Xv.mono U8.1) X8 ?_ ((Z.drop 1).weak ⟨rfl, rfl, rfl, rfl, trivial⟩)⟩
      rw [hT]
      show All2 _ _ [_]
      exact .cons (Xv.mono U8.1).due .nil
    | some b =>
      have e0 : (flagV (some b) == Value.none) = false := rfl
      rw [e0, if_neg (by decide)]
      refine wpAny_execs_nil ?_
      obtain ⟨g8, U8, X8, Z⟩ := frz hDu Z
      refine ⟨rfl, kc g8 Du dits _ (U6.trans U8) (Xv.mono U8.1) X8 ?_ Z⟩
      rw [hT]
      show All2 _ _ (zipPad (some b) (FQ _ (n1, l)) (FQ _ (n2, r)))
      rw [hFA, hFB]
      exact hdue.imp fun _ _ z => z.mono U8.1
  rintro g7 du dits' s₁₁ U7 Xv Xdu hdue Z
  have hInv' := Sr.push (Sr.mono hInv U7.1) Xv
  rw [List.nil_append] at hInv'
  refine wpAny_execs_cons (due_loop (rows := T ⟨(n1, l), (n2, r), fl⟩) Sr hB hh hd hu hn hBk hits' (hG.mono U7.1) (fun x hx => by rw [hT] at hx; exact trQ_fl _ _ x hx) Xdu hdue hInv' Z fun G' g' os' s₁₂ k1 k2 k3 Z => ?_)
  exact wpAny_execs_nil (hK G' g' os' v _ _ _ _ k1 (U7.trans k2) k3 Z)
end
end Mine
end

section
open PySem PySem.W PyProof.Rows PySem.W.X PySem.SeqAt
namespace Mine

def tsOf (cols : List Nat) (r : RowG) : List RowG := cols.foldl (fun acc c => acc.flatMap (tr c)) [r]
theorem tsOf_snoc (cols : List Nat) (c : Nat) : (fun r => (tsOf cols r).flatMap (tr c)) = tsOf (cols ++ [c]) := by
  funext r; simp [tsOf, List.foldl_append]

section
variable {prog : Program} {w : World} {A : Around} {F : Fx} {g : View} {s : Shared} {doc pm cd ct : Value} {an : Option Addr} {f : Addr}
  {B : View} {K : Frag} {D : Ad} {D2 : Ad2} {DL CL fa : Addr} {G : Array GenState} {os : List (Addr × Thing)} {o3 o2 o1 : Option Value}

/-- the generators built so far -/
structure Built (prog : Program) (w : World) (B : View) (F : Fx) (DL fa : Addr) (cols : List Nat) (its : List Value) (G : Array GenState) (g : View) (os : List (Addr × Thing)) : Prop where
  ex : ∃ (d : Nat) (T : RowG → List RowG) (Inv : InvT), d ≤ 303 + 2 * cols.length ∧ T = tsOf cols ∧ Src prog w B F.n F.gens.size (F.gens.size + cols.length) d DL fa T Inv ∧ Inv its [] G g os
  size : G.size = F.gens.size + cols.length
  old : ∀ j, j < F.gens.size → G[j]? = F.gens[j]?
  gen : cols ≠ [] → GenObj g fa (F.gens.size + cols.length - 1)

def lwMake : Stmt := (defBody dLaw).getD 4 (.Pass default)

theorem make_turn (hB : Base B K D D2) (hM : ∀ h : Heap, Le B h.get? → Mk K D D2 h) (hh : A.handled = none) (hd : A.depth + 2 < recursionLimit) (hBk : Le B F.k) {sv : Value} {cols : List Nat} {c : Nat} {t : Tok} {ot : Addr} {oth : Thing} (hc : 0 < c)
    (hb : Built prog w B F DL fa cols [] G g os)
    (Z : St (F.gen G) g ((F.n, .vars (("column", .int (c : Int) t) :: ("script", sv) :: lv0 fa DL CL)) :: (ot, oth) :: lwT F.n o3 o2 o1 DL [] os) s) {Q : Flow → Shared → Prop}
    (hK : ∀ fa' G' g' os' s', Up F.n g g' → Built prog w B F DL fa' (cols ++ [c]) [] G' g' os' → St (F.gen G') g' ((F.n, .vars (("script", sv) :: lv0 fa' DL CL)) :: (ot, oth) :: lwT F.n o3 o2 o1 DL [] os') s' → Q .next s') :
    wpAny (model prog w) A (execs (forBody lwMake) (envLw doc pm cd ct an F.n f)) Q none2 s := by
  obtain ⟨⟨d, T, Inv, hdd, hT, Sr, hInv⟩, hsz, hold, hgen⟩ := hb
  have TT : ∀ {G : Array GenState} {g ms s'}, St (F.gen G) g ms s' → Txt D s'.heap := fun Z => hB.txt _ (hBk.trans Z.kp)
  have CC : ∀ {G : Array GenState} {g ms s'}, St (F.gen G) g ms s' → CTxt K D D2 s'.heap := fun Z => hB.ctxt _ (hBk.trans Z.kp)
  have MM : ∀ {G : Array GenState} {g ms s'}, St (F.gen G) g ms s' → Mk K D D2 s'.heap := fun Z => hM _ (hBk.trans Z.kp)
  refine wpAny_execs_cons (wpAny_Assign_Name (r_wrapcall (K := K) (D := D) (D2 := D2) (r_cls2 (K := K) (TT Z).nHtml (MM Z).keep (r_int Z fun t8 s₁ Z => r_ld (env := envLw doc pm cd ct an F.n f) Z rfl ⟨(MM Z).kin, ?_⟩))))
  refine make_spec (g := g) (MM Z) (TT Z).lim (by lia) Z.dat fun x g1 s₂ q1 q2 q3 q4 q5 q6 q7 => ?_
  have U1 : Up F.n g g1 := q5.low Z.sz
  replace Z := Z.grow q1 q2 q3 q4 q5 q6
  refine ⟨x, c, rfl, CC Z, q7.mono Z.dat, r_ld (env := envLw doc pm cd ct an F.n f) Z rfl ⟨CC Z, ?_⟩⟩
  refine wrap_spec Z (CC Z).fnWrap (TT Z).lim (by lia) fun doc' pm' cd' ct' an' Lk a g2 s₃ hLk U2 hG Z => ?_
  refine r_store (env := envLw doc pm cd ct an F.n f) Z fun s₄ Z => wpAny_execs_nil ?_
  refine hK a (G.push (.fresh (.func (defBody dWrap) (envWr doc' pm' cd' ct' an' Lk D2.wrap)))) g2 ((Lk, .vars [("diffs", .ref fa), ("self", .ref x)]) :: os) _ (U1.trans U2) ⟨⟨305 + 2 * cols.length, fun r => (T r).flatMap (tr c), InvG prog w D.html (envWr doc' pm' cd' ct' an' Lk D2.wrap) (F.gens.size + cols.length) fa x Lk a c Inv, ?_, ?_, ?_, ?_⟩, ?_, ?_, ?_⟩ ?_
  · simp; lia
  · exact (congrArg (fun T : RowG → List RowG => fun r => (T r).flatMap (tr c)) hT).trans (tsOf_snoc cols c)
  · have := src_step (doc := doc') (pm := pm') (cd := cd') (ct := ct') (an := an') (L := Lk) (f := D2.wrap) (x := x) (a := a) (c := c) (d' := 305 + 2 * cols.length) Sr hB (Nat.le_add_right _ _) hc hLk (by lia) (by lia)
    rw [List.length_append]
    exact this
  · have hpush : ∀ j, j < F.gens.size + cols.length → (G.push (.fresh (.func (defBody dWrap) (envWr doc' pm' cd' ct' an' Lk D2.wrap))))[j]? = G[j]? := fun j hj => by
      rw [Array.getElem?_push, if_neg (by lia)]
    refine ⟨_, [(Lk, .vars [("diffs", .ref fa), ("self", .ref x)])], os, [], [], ?_, rfl, rfl, Sr.gens (Sr.mono hInv (U1.1.trans U2.1)) fun j h1 h2 => hpush j h2, q7.mono U2.1, ?_, .inl ⟨rfl, rfl, rfl⟩⟩
    · rw [Array.getElem?_push, if_pos hsz.symm]
    · have : G.size = F.gens.size + cols.length := hsz
      rw [← this]; exact hG
  · show (G.push _).size = _
    rw [Array.size_push, List.length_append, hsz]; simp; lia
  · intro j hj
    show (G.push _)[j]? = _
    rw [Array.getElem?_push, if_neg (by lia)]
    exact hold j hj
  · intro _
    rw [List.length_append]
    have : F.gens.size + (cols.length + [c].length) - 1 = G.size := by simp; lia
    rw [this]; exact hG
  · refine (Z.weak (vs' := ("script", sv) :: lv0 a DL CL) ⟨rfl, rfl, rfl, rfl, trivial⟩).perm ?_
    exact (((((List.perm_append_singleton _ os).cons _).cons _).cons _).cons _).cons _ |>.cons _
end
end Mine
end

section
open PySem PySem.W PyProof.Rows PySem.W.X PySem.SeqAt
namespace Mine

section
variable {prog : Program} {w : World} {A : Around} {s : Shared}
  {B : View} {K : Frag} {D : Ad} {D2 : Ad2} {fa : Addr}

inductive GensJ (prog : Program) (w : World) (B : View) (F : Fx) (DL CL : Addr) (sv : Value) (cols : List Nat) (g1 : View) (i : Nat) (G : Array GenState) (g' : View) : List (Str × Value) → List (Addr × Thing) → Prop
  | mk (fl : Addr) (os : List (Addr × Thing)) (o3 o2 o1 : Option Value) (h1 : Up F.n g1 g') (h2 : Built prog w B F DL fl (cols.take i) [] G g' os) : GensJ prog w B F DL CL sv cols g1 i G g' (("script", sv) :: lv0 fl DL CL) (lwT F.n o3 o2 o1 DL [] os)
inductive LawJ (lo hi : Nat) (G : Array GenState) (n : Addr) (g : View) (Inv : InvT) (fa DL CL : Addr) (i : Nat) (G' : Array GenState) (g' : View) : List (Str × Value) → List (Addr × Thing) → Prop
  | mk (os' : List (Addr × Thing)) (its' : List Value) (o3 o2 o1 : Option Value) (h0 : its'.length = i) (h1 : GK lo hi G G') (h2 : Up n g g') (h3 : Inv its' [] G' g' os') : LawJ lo hi G n g Inv fa DL CL i G' g' (lv0 fa DL CL) (lwT n o3 o2 o1 DL its' os')

theorem law_spec (hB : Base B K D D2) (hM : ∀ h : Heap, Le B h.get? → Mk K D D2 h) (hBs : Le B s.heap.get?) (X : FnAt s.heap fa "law" "law" dLaw .none) (hh : A.handled = none) (hd : A.depth + 400 < recursionLimit) (hu : A.units + 10 < cLine)
    {sv : Value} {its : List Value} (Xs : LstAt s.heap.get? sv its) (hints : ∀ v ∈ its, ∃ n t, v = Value.int n t) (hlen : its.length ≤ 63) {R : Result → Shared → Prop}
    (h : ∀ s', s'.os = s.os → Le s.heap.get? s'.heap.get? → s'.gens.size = s.gens.size + 3 → (∀ j, j < s.gens.size → s'.gens[j]? = s.gens[j]?) → (∀ j, s.gens.size ≤ j → j < s.gens.size + 3 → s'.gens[j]? = some .finished) → R (.ok (.ret (.bool true))) s') :
    codeAny (model prog w) A (.call (.ref fa) ⟨[sv], []⟩) R s := by
  obtain ⟨sa, sn, rfl, hsa⟩ := Xs
  refine r_callC (g := s.heap.get?) (binds := [("script", .ref sa)]) [("script", .ref sa)] X (hB.txt _ hBs).lim (by lia) (Le.refl _) (fun doc pm cd ct an => rfl)
    (List.forall_mem_cons.mpr ⟨rfl, fun _ h => nomatch h⟩) (fun k => List.forall_mem_cons.mpr ⟨.inl rfl, fun _ h => nomatch h⟩)
    (fun k => by show (["others", "ones", "flag"] : List Str).Nodup; decide +kernel) (fun F doc pm cd ct an A' s₁ f1 f2 f3 f4 a1 a2 a3 Z => ?_)
  replace hh : A'.handled = none := a1.trans hh
  have hBk : Le B F.k := f2 ▸ hBs
  have Xs : LstAt s.heap.get? (.ref sa) its := ⟨sa, sn, rfl, hsa⟩
  have TT : ∀ {G : Array GenState} {g ms s'}, St (F.gen G) g ms s' → Txt D s'.heap := fun Z => hB.txt _ (hBk.trans Z.kp)
  change St (F.gen F.gens) s.heap.get? [(F.n, .vars [("script", .ref sa)]), (F.n + 1 + 1 + 1, .cell none), (F.n + 1 + 1, .cell none), (F.n + 1, .cell none)] s₁ at Z
  -- first
  refine r_seqA (φ := fun Kc => ∀ n t s', St (F.gen F.gens) s.heap.get? [(F.n, .vars [("first", .int n t), ("script", .ref sa)]), (F.n + 1 + 1 + 1, .cell none), (F.n + 1 + 1, .cell none), (F.n + 1, .cell none)] s' → Kc s') ?_ ?_
  · intro Kc kc
    refine wpAny_Assign_Name (Subscript_ (wpAny_BinOp (r_ld (env := envLw doc pm cd ct an F.n fa) Z rfl (r_list1 (r_int Z fun t1 s₂ Z => r_newList Z (by simp) fun D33 s₃ _ Z => r_addlist (St.iterIn Z) (Xs.plain Z.dat) (own_plain ((St.iterIn Z).own 1 rfl)) (by simp; lia) fun Dn s₄ _ Z => ?_)))))
    replace Z := St.iterIn Z
    obtain ⟨n, t, hx⟩ : ∃ n t, (its ++ [Value.int 33 t1])[0]? = some (.int n t) := by
      cases its with
      | nil => exact ⟨33, t1, rfl⟩
      | cons a b => obtain ⟨n, t, rfl⟩ := hints a (.head _); exact ⟨n, t, rfl⟩
    refine r_int Z fun t2 s₅ Z => r_item (k := 0) (own_isList (Z.own 1 rfl)) (by lia) hx ?_
    exact r_store (env := envLw doc pm cd ct an F.n fa) Z fun s₆ Z => ⟨rfl, kc n t _ ((Z.drop 1).drop 1)⟩
  rintro n tn s₂ Z
  -- columns
  refine r_seqA (φ := fun Kc => ∀ g' CL c1 c2 c3 s', Up F.n s.heap.get? g' → ColsAt g' (.ref CL) [c1, c2, c3] → 0 < c1 → 0 < c2 → 0 < c3 → St (F.gen F.gens) g' [(F.n, .vars [("columns", .ref CL), ("script", .ref sa)]), (F.n + 1 + 1 + 1, .cell none), (F.n + 1 + 1, .cell none), (F.n + 1, .cell none)] s' → Kc s') ?_ ?_
  · intro Kc kc
    refine wpAny_Assign_Name (r_list3 (wpAny_BinOp (r_int Z fun t1 s₃ Z => wpAny_BinOp (r_ld (env := envLw doc pm cd ct an F.n fa) Z rfl (r_int Z fun t2 s₄ Z => mod_int' (by lia) ?_)))))
    obtain ⟨N1, hN1, _⟩ := fmod_lt n 5 (by lia)
    rw [show n.fmod 5 = (N1 : Int) from hN1]
    replace Z := Z.toks (s₄.toks + 1)
    refine add_int ?_
    rw [show (2 : Int) + (N1 : Int) = ((2 + N1 : Nat) : Int) by lia]
    replace Z := Z.toks (s₄.toks + 1 + 1)
    refine wpAny_BinOp (r_int Z fun t3 s₅ Z => r_dm (a := 5) (b := 4) (env := envLw doc pm cd ct an F.n fa) Z rfl (by lia) (by lia) fun N2 t4 s₆ hN2 Z => add_int ?_)
    rw [show (1 : Int) + (N2 : Int) = ((1 + N2 : Nat) : Int) by lia]
    replace Z := Z.toks (s₆.toks + 1)
    refine wpAny_BinOp (r_int Z fun t5 s₇ Z => r_dm (a := 20) (b := 3) (env := envLw doc pm cd ct an F.n fa) Z rfl (by lia) (by lia) fun N3 t6 s₈ hN3 Z => add_int ?_)
    rw [show (1 : Int) + (N3 : Int) = ((1 + N3 : Nat) : Int) by lia]
    replace Z := Z.toks (s₈.toks + 1)
    refine r_newList Z (by simp) fun CL s₉ hCL Z => ?_
    replace Z := St.iterIn Z
    refine r_store (env := envLw doc pm cd ct an F.n fa) Z fun s₁₀ Z => ?_
    obtain ⟨o, ⟨nn, ho⟩, U, Z'⟩ := Z.freeze 1 rfl hCL
    refine ⟨rfl, kc _ CL (2 + N1) (1 + N2) (1 + N3) _ U ⟨_, ⟨CL, nn, rfl, by rw [put_self, ho]⟩, .cons ⟨_, rfl⟩ (.cons ⟨_, rfl⟩ (.cons ⟨_, rfl⟩ .nil))⟩ (by lia) (by lia) (by lia) (Z'.weak ⟨rfl, rfl, trivial⟩)⟩
  rintro g1 CL c1 c2 c3 s₃ U1 Xc hc1 hc2 hc3 Z
  -- source
  refine r_seqA (φ := fun Kc => ∀ DL s', F.n ≤ DL → St (F.gen F.gens) g1 [(F.n, .vars [("source", .ref DL), ("columns", .ref CL), ("script", .ref sa)]), (F.n + 1 + 1 + 1, .cell none), (F.n + 1 + 1, .cell none), (F.n + 1, .cell none), (DL, .list [])] s' → Kc s') ?_ ?_
  · intro Kc kc
    exact wpAny_Assign_Name (r_list0 (r_newList Z (by simp) fun DL s₄ hDL Z => r_store (env := envLw doc pm cd ct an F.n fa) Z fun s₅ Z => ⟨rfl, kc DL _ hDL Z⟩))
  rintro DL s₄ hDL Z
  -- flow = iter(source)
  refine r_seqA (φ := fun Kc => ∀ it s', St (F.gen F.gens) g1 ((F.n, .vars (("script", .ref sa) :: lv0 it DL CL)) :: (F.n + 1 + 1 + 1, .cell none) :: (F.n + 1 + 1, .cell none) :: (F.n + 1, .cell none) :: (DL, .list []) :: [(it, .iter DL 0)]) s' → Kc s') ?_ ?_
  · intro Kc kc
    refine wpAny_Assign_Name (r_b1 (TT Z).nIter (r_ld (env := envLw doc pm cd ct an F.n fa) Z rfl (call_iter1 (wpAny_pyIter_list (own_isList (Z.own 4 rfl)) ?_))))
    have Z' := Z.allocM (o := { cls := .type "list_iterator", data := .fields #[.ref DL, .int 0 0] }) (t := .iter DL 0) rfl ⟨rfl, rfl⟩
    exact r_store (env := envLw doc pm cd ct an F.n fa) Z' fun s₅ Z => ⟨rfl, kc _ _ (Z.weak ⟨rfl, rfl, rfl, rfl, trivial⟩)⟩
  rintro it0 s₅ Z
  have b0 : Built prog w B F DL it0 [] [] F.gens g1 [(it0, .iter DL 0)] :=
    ⟨⟨303, fun r => [r], Inv0 DL it0, by simp, rfl, src0 hDL 303, ⟨0, rfl, Nat.le_refl _, .nil⟩⟩, rfl, fun _ _ => rfl, fun q => absurd rfl q⟩
  obtain ⟨cits, Xc1, Xc2⟩ := Xc
  have hcl := Xc2.length
  -- the three generators
  refine r_seqA (φ := fun Kc => ∀ fl G g' os o3 o2 o1 s', Up F.n g1 g' → Built prog w B F DL fl [c1, c2, c3] [] G g' os → St (F.gen G) g' ((F.n, .vars (("script", .ref sa) :: lv0 fl DL CL)) :: lwT F.n o3 o2 o1 DL [] os) s' → Kc s') ?_ ?_
  · intro Kc kc
    refine r_forG (F := F) (env := envLw doc pm cd ct an F.n fa) (Nat.le_refl _) ?_
    refine r_ld (env := envLw doc pm cd ct an F.n fa) Z rfl (iter_list Z (Xc1.isList Z.dat) fun it s₆ Z => ?_)
    refine ⟨it, cits.length, fun i => .iter CL i, fun i x => cits[i]? = some x, fun h => h.IsList CL cits.toArray,
      GensJ prog w B F DL CL (.ref sa) [c1, c2, c3] g1,
      rfl, itk_list hh, ⟨F.gens, g1, _, _, ⟨it0, _, none, none, none, Up.refl _ _, b0⟩, Z⟩, ?_, ?_, ?_⟩
    · rintro i G g' vs ms s' ⟨fl, os, o3, o2, o1, h1, h2⟩ hd _ _
      exact (Xc1.mono h1.1).isList hd
    · rintro i x G g' vs ms s' hi' hx ⟨fl, os, o3, o2, o1, h1, h2⟩ Z
      obtain ⟨c, hc, t, rfl⟩ := Xc2.get hx
      have hcp : 0 < c := by
        have := mem_of_idx hc
        simp at this
        rcases this with rfl | rfl | rfl <;> assumption
      refine r_assign (env := envLw doc pm cd ct an F.n fa) Z fun s₇ Z => ?_
      refine make_turn hB hM hh (by lia) hBk hcp h2 Z fun fa' G' g'' os' s₈ k1 k2 Z => ?_
      refine ⟨G', g'', _, _, ⟨fa', os', _, _, _, h1.trans k1, ?_⟩, Z⟩
      have : [c1, c2, c3].take (i + 1) = [c1, c2, c3].take i ++ [c] := by rw [List.take_add_one, hc]; rfl
      rw [this]; exact k2
    · rintro G g' vs ms s' ⟨fl, os, o3, o2, o1, h1, h2⟩ Z
      rw [List.take_of_length_le (by rw [hcl]; exact Nat.le_refl _)] at h2
      exact ⟨rfl, kc fl G g' os o3 o2 o1 _ h1 h2 Z⟩
  rintro fl3 G g2 os o3 o2 o1 s₆ U2 hb Z
  obtain ⟨⟨d, T, Inv, hdd, hT, Sr, hInv⟩, hsz, hold, hgen⟩ := hb
  have hgen3 := hgen (by simp)
  simp only [List.length_cons, List.length_nil, Nat.zero_add] at hdd hgen3 hsz Sr
  have hTq : ∀ r, T r = trQ (fun k => leaves [c1, c2, c3] k == 0) r := fun r => by
    rw [hT]
    show (([r].flatMap (tr c1)).flatMap (tr c2)).flatMap (tr c3) = _
    rw [List.flatMap_singleton]
    exact three c1 c2 c3 hc1 hc2 hc3 r
  have Xc' : ColsAt g2 (.ref CL) [c1, c2, c3] := ⟨cits, Xc1.mono U2.1, Xc2⟩
  have hcp : ∀ c ∈ [c1, c2, c3], 0 < c := fun c hc => by
    simp at hc
    rcases hc with rfl | rfl | rfl <;> assumption
  -- the rows
  refine r_seqA (φ := fun Kc => ∀ G' g' os' its' o3 o2 o1 s', its'.length ≤ 100 → GK F.gens.size (F.gens.size + 3) G G' → Up F.n g2 g' → Inv its' [] G' g' os' → St (F.gen G') g' ((F.n, .vars (lv0 fl3 DL CL)) :: lwT F.n o3 o2 o1 DL its' os') s' → Kc s') ?_ ?_
  · intro Kc kc
    refine r_forG (F := F) (env := envLw doc pm cd ct an F.n fa) (Nat.le_refl _) ?_
    refine r_f1 (TT Z).nRows (r_ld (env := envLw doc pm cd ct an F.n fa) Z rfl ⟨(TT Z).fRows, ?_⟩)
    refine rows_spec (g := g2) (TT Z) (by lia) hh Z.dat ((Xs.mono (U1.1.trans U2.1)).mono Z.dat) hints hlen fun s₇ g3 v rits rows q1 q2 q3 q4 q5 q6 q7 q8 q9 q10 => ?_
    have U3 : Up F.n g2 g3 := q5.low Z.sz
    replace Z := Z.grow q1 q2 q3 q4 q5 q6
    obtain ⟨la, ln, rfl, hla⟩ := id q7
    refine iter_list Z (q7.isList Z.dat) fun it s₈ Z => ?_
    have hrl := q8.length
    refine ⟨it, rits.length, fun i => .iter la i, fun i x => rits[i]? = some x, fun h => h.IsList la rits.toArray,
      LawJ F.gens.size (F.gens.size + 3) G F.n g3 Inv fl3 DL CL,
      rfl, itk_list hh, ⟨G, g3, _, _, ⟨os, [], _, _, _, rfl, GK.refl _ _ _, Up.refl _ _, Sr.mono hInv U3.1⟩, Z.weak ⟨rfl, rfl, rfl, trivial⟩⟩, ?_, ?_, ?_⟩
    · rintro i G' g' vs ms s' ⟨os', its', o3, o2, o1, h0, h1, h2, h3⟩ hd _ _
      exact (q7.mono h2.1).isList hd
    · rintro i x G' g' vs ms s' hi' hx ⟨os', its', o3, o2, o1, h0, h1, h2, h3⟩ Z
      obtain ⟨row, hr, Xr⟩ := q8.get hx
      have U23 : Up F.n g2 g' := U3.trans h2
      refine law_row (cols := [c1, c2, c3]) Sr hB hh (by lia) (by lia) (by lia) (Nat.le_refl _) hBk (by lia) (hgen3.mono U23.1) (Xc'.mono U23.1) hcp hTq (Xr.mono h2.1) (q9 _ (mem_of_idx hr)) h3 Z
        fun G'' g'' os'' v o3 o2 o1 s₁₀ k1 k2 k3 Z => ?_
      exact ⟨G'', g'', _, _, ⟨os'', its' ++ [v], o3, o2, o1, by simp [h0], h1.trans k1, h2.trans k2, k3⟩, Z⟩
    · rintro G' g' vs ms s' ⟨os', its', o3, o2, o1, h0, h1, h2, h3⟩ Z
      exact ⟨rfl, kc G' g' os' its' o3 o2 o1 _ (by lia) h1 (U3.trans h2) h3 Z⟩
  rintro G' g' os' its' o3 o2 o1 s₇ hl' k1 k2 k3 Z
  -- return next(flow, None) is None
  refine wpAny_execs_cons (wpAny_Return_some (wpAny_Compare1 (r_b2 (TT Z).nNext (r_ld (env := envLw doc pm cd ct an F.n fa) Z rfl (wpAny_Constant_none (call_next2 ((hgen3.mono k2.1).isGen Z.dat) ?_))))))
  refine Sr.next (A := A'.in1) (F := F.gen G') (ms := (F.n, .vars (lv0 fl3 DL CL)) :: (F.n + 1 + 1 + 1, .cell o3) :: (F.n + 1 + 1, .cell o2) :: [(F.n + 1, .cell o1)]) hh (by show A'.depth + d < _; lia) hBk (Nat.le_refl _) (by lia) k3
    (Z.perm (List.perm_middle (l₁ := (F.n, Thing.vars (lv0 fl3 DL CL)) :: (F.n + 1 + 1 + 1, Thing.cell o3) :: (F.n + 1 + 1, Thing.cell o2) :: [(F.n + 1, Thing.cell o1)]))) ?_ (fun _ _ e => nomatch e)
  intro _ G'' g'' s₈ m1 m2 m3 Z
  refine wpAny_Constant_none (is_none_gen ?_)
  have hs : s₈.gens = G'' := Z.gens
  have sz1 : G''.size = s.gens.size + 3 := by rw [m1.1, k1.1, hsz, f4]
  refine h s₈ (Z.os.trans f3) (f2 ▸ Z.kp) (by rw [hs]; exact sz1) (fun j hj => ?_) fun j h1 h2 => ?_
  · rw [hs, m1.2 j (.inl (by show j < F.gens.size; rw [f4]; exact hj)), k1.2 j (.inl (by rw [f4]; exact hj)), hold j (by rw [f4]; exact hj), f4]
  · rw [hs]; exact m2 j (by rw [f4]; exact h1) (by rw [f4]; exact h2)
end
end Mine
end

section
open PySem PySem.W PyProof.Rows
set_option maxHeartbeats 8000000
namespace Mine

/-! the looks at the law's text, the long strings scanned as lists -/
def strOf : Stmt → Str | .Assign _ (.Constant (.str x) _ _) _ => x | _ => ""
def tFile : Str := strOf (stmts.getD 3 (.Pass default))
def tStyles : Str := strOf (stmts.getD 4 (.Pass default))
def tTable : Str := strOf (stmts.getD 5 (.Pass default))
def tLegend : Str := strOf (stmts.getD 6 (.Pass default))
def roadL (l : List Nat) : Bool := l.any (fun c => c == 123 || c == 125) || (l.any (· == 46) && !l.any (· ≤ 32))
theorem road_list (x : Str) : roadStr x = roadL x.cps.toList := by
  unfold roadStr roadL
  rw [Array.any_toList, Array.any_toList, Array.any_toList]
theorem str_ok {k : Look} {x : Str} (h1 : k.word x = true) (h2 : (!roadL x.cps.toList) = true) : k.str x = true := by
  unfold Look.str
  rw [h1, road_list, h2]
  simp
theorem all_gen {P : Stmt → Bool} {PP : List Stmt → Bool} (hn : PP [] = true) (hc : ∀ s r, PP (s :: r) = (P s && PP r)) {d : Stmt} : ∀ (l : List Stmt), (∀ i, i < l.length → P (l.getD i d) = true) → PP l = true
  | [], _ => hn
  | s :: r, h => (hc s r).trans (look_both (h 0 (Nat.succ_pos _)) (all_gen hn hc r fun i hi => h (i + 1) (Nat.succ_lt_succ hi)))
theorem asg_eq (k : Look) (ts : List Expr) (x : Str) (n : Nat) (p q : Pos) : Eq (noRoadLS k (.Assign ts (.Constant (.str x) n p) q)) (and (and (k.stores ts) (noRoadLs k ts)) (k.str x)) := by kernel_rfl
theorem asg_ok {k : Look} {st : Stmt} {ts : List Expr} {x : Str} {n : Nat} {p q : Pos} (e : st = .Assign ts (.Constant (.str x) n p) q) (h1 : (and (k.stores ts) (noRoadLs k ts)) = true) (h2 : k.word x = true) (h3 : (!roadL x.cps.toList) = true) : noRoadLS k st = true := by
  rw [e]
  exact (asg_eq k ts x n p q).trans (look_both h1 (str_ok h2 h3))
theorem cons_eq (k : Look) (s : Stmt) (r : List Stmt) : noRoadLSs k (s :: r) = (noRoadLS k s && noRoadLSs k r) := by kernel_rfl
theorem nil_eq (k : Look) : noRoadLSs k [] = true := by kernel_rfl
def lk0 : Look := { strict := false, foot := none, bare := [] }
theorem e1 : (importedModules PySem.Challenge.rw_dm0065_01.row.prog.main.body).all cThrough.contains = true := by k_qdec
theorem e2 : ((["vars", "dir", "locals"] : List Str).filter (readsOut PySem.Challenge.rw_dm0065_01.row.prog PySem.Challenge.rw_dm0065_01.row.prog.main.body)).isEmpty = true := by k_qdec
theorem s0 : noRoadLS lk0 (stmts.getD 0 (.Pass default)) = true := by k_qdec
theorem s1 : noRoadLS lk0 (stmts.getD 1 (.Pass default)) = true := by k_qdec
theorem s2 : noRoadLS lk0 (stmts.getD 2 (.Pass default)) = true := by k_qdec
theorem s3 : noRoadLS lk0 (stmts.getD 3 (.Pass default)) = true := asg_ok rfl (by k_qdec) (by k_qdec) (by k_qdec)
theorem s4 : noRoadLS lk0 (stmts.getD 4 (.Pass default)) = true := by k_qdec
theorem s5 : noRoadLS lk0 (stmts.getD 5 (.Pass default)) = true := asg_ok rfl (by k_qdec) (by k_qdec) (by k_qdec)
theorem s6 : noRoadLS lk0 (stmts.getD 6 (.Pass default)) = true := asg_ok rfl (by k_qdec) (by k_qdec) (by k_qdec)
theorem s7 : noRoadLS lk0 (stmts.getD 7 (.Pass default)) = true := by k_qdec
theorem s8 : noRoadLS lk0 (stmts.getD 8 (.Pass default)) = true := by k_qdec
theorem s9 : noRoadLS lk0 (stmts.getD 9 (.Pass default)) = true := by k_qdec
theorem s10 : noRoadLS lk0 (stmts.getD 10 (.Pass default)) = true := by k_qdec
theorem s11 : noRoadLS lk0 (stmts.getD 11 (.Pass default)) = true := by k_qdec
theorem s12 : noRoadLS lk0 (stmts.getD 12 (.Pass default)) = true := by k_qdec
theorem s13 : noRoadLS lk0 (stmts.getD 13 (.Pass default)) = true := by k_qdec
theorem len14 : stmts.length = 14 := by decide +kernel
theorem looks : noRoadLSs lk0 stmts = true := by
  refine all_gen (P := noRoadLS lk0) (PP := noRoadLSs lk0) (nil_eq lk0) (cons_eq lk0) (d := .Pass default) stmts fun i hi => ?_
  rw [len14] at hi
  match i, hi with
  | 0, _ => exact s0
  | 1, _ => exact s1
  | 2, _ => exact s2
  | 3, _ => exact s3
  | 4, _ => exact s4
  | 5, _ => exact s5
  | 6, _ => exact s6
  | 7, _ => exact s7
  | 8, _ => exact s8
  | 9, _ => exact s9
  | 10, _ => exact s10
  | 11, _ => exact s11
  | 12, _ => exact s12
  | 13, _ => exact s13
theorem noRoad : noRoadLSs { strict := !(importedModules PySem.Challenge.rw_dm0065_01.row.prog.main.body).all cThrough.contains, foot := none, bare := (["vars", "dir", "locals"] : List Str).filter (readsOut PySem.Challenge.rw_dm0065_01.row.prog PySem.Challenge.rw_dm0065_01.row.prog.main.body) } PySem.Challenge.rw_dm0065_01.row.prog.main.body = true := by
  rw [e1, List.isEmpty_iff.mp e2]
  exact looks
theorem said : PySem.Challenge.rw_dm0065_01.wellSaid = true := by
  delta OpenLaw.wellSaid OpenRow.wellSaid OpenRow.partSaid looksOpen
  with_reducible repeat' refine look_both ?_ ?_
  all_goals first | with_reducible exact noRoad | k_qdec | decide +kernel
end Mine
end

section
open PySem PySem.W PyProof.Rows
set_option maxHeartbeats 8000000
namespace Mine

/-! the objects of the heap behind the top that the law reaches -/
def fnO (nm qual : Str) (d : Stmt) (dflt pm : Value) (cd : Addr) : Obj := { cls := .type "function", data := .func (mkFd nm qual d dflt .none pm (.ref cd) .none none) }
def ent (P : Params) (x : Str) (t : Tok) (v : Value) : DictEntry := { hash := PyData.keyHash P x, key := .str x t, val := v }
def o3 (P : Params) : Obj := { cls := .type "dict", data := .dict #[ent P "__name__" 165 (.str "law_dm0065_01" 371), ent P "__doc__" 166 (.none), ent P "__package__" 167 (.none), ent P "__loader__" 168 (.builtin "__main__.__loader__#opaque"), ent P "__spec__" 169 (.none), ent P "__annotations__" 170 (.ref 6), ent P "__builtins__" 171 (.ref 4), ent P "__file__" 173 (.str "/claim/cut.py" 172), ent P "__cached__" 174 (.none), ent P "_wall" 193 (.ref 21), ent P "IS_CHARACTER_JUNK" 204 (.ref 29), ent P "file_template_difflib" 206 (.str (tFile) 205), ent P "styles_difflib" 208 (.str (tStyles) 207), ent P "table_template_difflib" 210 (.str (tTable) 209), ent P "legend_difflib" 212 (.str (tLegend) 211), ent P "HtmlDiff" 370 (.ref 113), ent P "_law_text" 382 (.ref 124), ent P "_law_size" 388 (.ref 129), ent P "_law_rows" 394 (.ref 134), ent P "_law_pieces" 400 (.ref 139), ent P "law" 406 (.ref 144)] 21 }
def o37 : Obj := { cls := .type "tuple", data := .seq #[.int 8 231, .none, .none, .ref 29] }
def o43 : Obj := { cls := .type "code", data := .fields #[.str "__init__" 232, .str "HtmlDiff.__init__" 233, .str "/claim/cut.py" 234, .int 18 0, .int 5 0, .int 0 0, .int 0 0, .int 3 0, .ref 38, .bool true, .int 181 0, .ref 39, .none, .ref 40, .ref 41, .ref 42, .int 240 0, .int 18 0, .str "/claim/cut.py" 241] }
def o44 : Obj := fnO "__init__" "HtmlDiff.__init__" dInit (.ref 37) (.str "cpy313.difflib" 194) 43
def o66 : Obj := { cls := .type "code", data := .fields #[.str "_split_line" 271, .str "HtmlDiff._split_line" 272, .str "/claim/cut.py" 273, .int 30 0, .int 4 0, .int 0 0, .int 0 0, .int 3 0, .ref 61, .bool true, .int 181 0, .ref 62, .none, .ref 63, .ref 64, .ref 65, .int 285 0, .int 30 0, .str "/claim/cut.py" 286] }
def o67 : Obj := fnO "_split_line" "HtmlDiff._split_line" dSplit (.none) (.str "cpy313.difflib" 194) 66
def o73 : Obj := { cls := .type "code", data := .fields #[.str "_line_wrapper" 288, .str "HtmlDiff._line_wrapper" 289, .str "/claim/cut.py" 290, .int 61 0, .int 2 0, .int 0 0, .int 0 0, .int 35 0, .ref 68, .bool true, .int 181 0, .ref 69, .none, .ref 70, .ref 71, .ref 72, .int 302 0, .int 61 0, .str "/claim/cut.py" 303] }
def o74 : Obj := fnO "_line_wrapper" "HtmlDiff._line_wrapper" dWrap (.none) (.str "cpy313.difflib" 194) 73
def o112 (P : Params) : Obj := { cls := .type "dict", data := .dict #[ent P "__module__" 220 (.str "cpy313.difflib" 194), ent P "__firstlineno__" 224 (.int 11 223), ent P "_file_template" 225 (.str (tFile) 205), ent P "_styles" 226 (.str (tStyles) 207), ent P "_table_template" 227 (.str (tTable) 209), ent P "_legend" 228 (.str (tLegend) 211), ent P "_default_prefix" 230 (.int 0 229), ent P "__init__" 242 (.ref 44), ent P "make_file" 261 (.ref 53), ent P "_tab_newline_replace" 270 (.ref 60), ent P "_split_line" 287 (.ref 67), ent P "_line_wrapper" 304 (.ref 74), ent P "_collect_lines" 312 (.ref 81), ent P "_format_line" 323 (.ref 88), ent P "_make_prefix" 330 (.ref 95), ent P "_convert_flags" 342 (.ref 102), ent P "make_table" 358 (.ref 110), ent P "__static_attributes__" 363 (.ref 111), ent P "__dict__" 365 (.ref 114), ent P "__weakref__" 367 (.ref 115), ent P "__doc__" 368 (.none)] 4 }
def o113 : Obj := { cls := .type "type", data := .cls { name := "HtmlDiff", bases := [.type "object"], mro := [.ref 113, .type "object"], ns := 112, qualname := "HtmlDiff" }, slots := #[some (.ref 30), none, some (.str "HtmlDiff" 213), some (.str "HtmlDiff" 221), some (.builtin "object.__new__"), some (.bool true)] }
def o123 : Obj := { cls := .type "code", data := .fields #[.str "_law_text" 373, .str "_law_text" 374, .str "/claim/cut.py" 375, .int 96 0, .int 1 0, .int 0 0, .int 0 0, .int 3 0, .ref 118, .bool true, .int 181 0, .ref 119, .none, .ref 120, .ref 121, .ref 122, .int 380 0, .int 96 0, .str "/claim/cut.py" 381] }
def o124 : Obj := fnO "_law_text" "_law_text" dText (.none) (.str "law_dm0065_01" 371) 123
def o128 : Obj := { cls := .type "code", data := .fields #[.str "_law_size" 383, .str "_law_size" 384, .str "/claim/cut.py" 385, .int 101 0, .int 1 0, .int 0 0, .int 0 0, .int 3 0, .ref 125, .bool true, .int 181 0, .ref 126, .none, .none, .none, .ref 127, .int 386 0, .int 101 0, .str "/claim/cut.py" 387] }
def o129 : Obj := fnO "_law_size" "_law_size" dSize (.none) (.str "law_dm0065_01" 371) 128
def o133 : Obj := { cls := .type "code", data := .fields #[.str "_law_rows" 389, .str "_law_rows" 390, .str "/claim/cut.py" 391, .int 103 0, .int 1 0, .int 0 0, .int 0 0, .int 3 0, .ref 130, .bool true, .int 181 0, .ref 131, .none, .none, .none, .ref 132, .int 392 0, .int 103 0, .str "/claim/cut.py" 393] }
def o134 : Obj := fnO "_law_rows" "_law_rows" dRows (.none) (.str "law_dm0065_01" 371) 133
def o138 : Obj := { cls := .type "code", data := .fields #[.str "_law_pieces" 395, .str "_law_pieces" 396, .str "/claim/cut.py" 397, .int 118 0, .int 3 0, .int 0 0, .int 0 0, .int 3 0, .ref 135, .bool true, .int 181 0, .ref 136, .none, .none, .none, .ref 137, .int 398 0, .int 118 0, .str "/claim/cut.py" 399] }
def o139 : Obj := fnO "_law_pieces" "_law_pieces" dPieces (.none) (.str "law_dm0065_01" 371) 138
def KK (P : Params) : Frag := [(3, o3 P), (37, o37), (43, o43), (44, o44), (66, o66), (67, o67), (73, o73), (74, o74), (112, o112 P), (113, o113), (123, o123), (124, o124), (128, o128), (129, o129), (133, o133), (134, o134), (138, o138), (139, o139)]
def KA : List Addr := [3, 37, 43, 44, 66, 67, 73, 74, 112, 113, 123, 124, 128, 129, 133, 134, 138, 139]
end Mine
end

section
open PySem PySem.W PyProof.Rows
set_option maxHeartbeats 8000000
namespace Mine

theorem fn_of {K : Frag} {h : Heap} {a : Addr} {nm qual : Str} {d : Stmt} {dflt : Value} (KX : K.In h)
    (hl : ∃ o doc pm cd ct an, K.lookup a = some o ∧ o.data = .func (mkFd nm qual d dflt doc pm cd ct an) ∧ ∃ c oc vs t, cd = .ref c ∧ K.lookup c = some oc ∧ oc.data = .fields vs ∧ vs[1]? = some (.str qual t)) : FnAt h a nm qual d dflt := by
  obtain ⟨o, doc, pm, cd, ct, an, h1, h2, c, oc, vs, t, h3, h4, h5, h6⟩ := hl
  exact ⟨o, doc, pm, cd, ct, an, KX _ _ h1, h2, c, oc, vs, t, h3, KX _ _ h4, h5, h6⟩
theorem glob_of {h : Heap} {mg : Str → Option Value} {es : Array DictEntry} {ep : Nat} {o : Obj} (Tg : h.Ns mainGlobals mg) (e3 : h.get? mainGlobals = some o) (ed : o.data = .dict es ep) : ∀ x, mg x = nsFind es x := by
  obtain ⟨og, esg, epg, h1, h2, h3, h4⟩ := Tg
  intro x
  rw [e3] at h1
  cases h1
  rw [ed] at h2
  cases h2
  exact (h4 x).symm

def DD : Ad := ⟨124, 129, 134, 139, 113⟩
def DD2 : Ad2 := ⟨67, 74, 44⟩

theorem joined : PySem.Challenge.rw_dm0065_01.Holds := by
  w_on; refine holds_law said fun said => ?_; o_head (kHook KK KA (fun _ => by kernel_rfl)); (case hw => w_witness2)
  intro w s₀ s₁ mg mb G Y fa o pm cd doc dV kV ho hd' hcd hD hmg hg args vals as hpre hlay hrd hwl hlo
  have KX := kIn_of Y
  have T := G.T
  have he := Dflts.none hD rfl
  subst he
  have hkv : kV = .none := by
    rcases hD.kw with ⟨_, h⟩ | ⟨h, _⟩
    · exact h
    · exact absurd rfl h
  subst hkv
  wrow_args hpre hlay hrd hwl hlo
  rename_i iv _ _ _ _ _ _ _ la vs _ hLst _ w1 _ hI _ hc63 _
  have hglob : ∀ x, mg x = nsFind _ x := glob_of T.g (KX mainGlobals _ rfl) rfl
  have gfn : ∀ {x : Str} {v : Value}, mg x = some v → GName s₁.heap x v := fun h => ⟨mg, mb, T.g, T.b, .inl h⟩
  have gbi : ∀ {x : Str} {v : Value}, mg x = none → x ≠ "__name__" → bootBuiltins x = some v → GName s₁.heap x v := fun h1 h2 h3 => ⟨mg, mb, T.g, T.b, .inr ⟨h1, (T.builtins _ h2).trans h3⟩⟩
  have T0 : Txt DD s₁.heap :=
    { lim := T.nolimit
      fText := fn_of KX ⟨_, _, _, _, _, _, rfl, rfl, _, _, _, _, rfl, rfl, rfl, rfl⟩
      fSize := fn_of KX ⟨_, _, _, _, _, _, rfl, rfl, _, _, _, _, rfl, rfl, rfl, rfl⟩
      fRows := fn_of KX ⟨_, _, _, _, _, _, rfl, rfl, _, _, _, _, rfl, rfl, rfl, rfl⟩
      fPieces := fn_of KX ⟨_, _, _, _, _, _, rfl, rfl, _, _, _, _, rfl, rfl, rfl, rfl⟩
      nText := gfn ((hglob _).trans rfl)
      nSize := gfn ((hglob _).trans rfl)
      nRows := gfn ((hglob _).trans rfl)
      nPieces := gfn ((hglob _).trans rfl)
      nHtml := gfn ((hglob _).trans rfl)
      nLen := gbi ((hglob _).trans rfl) (by decide +kernel) (by kernel_rfl)
      nSum := gbi ((hglob _).trans rfl) (by decide +kernel) (by kernel_rfl)
      nMax := gbi ((hglob _).trans rfl) (by decide +kernel) (by kernel_rfl)
      nIter := gbi ((hglob _).trans rfl) (by decide +kernel) (by kernel_rfl)
      nNext := gbi ((hglob _).trans rfl) (by decide +kernel) (by kernel_rfl)
      nRange := gbi ((hglob _).trans rfl) (by decide +kernel) (by kernel_rfl) }
  have C0 : CTxt (KK w.params) DD DD2 s₁.heap :=
    { cls := ⟨rfl, rfl, rfl, rfl, rfl, rfl, rfl, rfl⟩
      kin := KX
      fnSplit := fn_of KX ⟨_, _, _, _, _, _, rfl, rfl, _, _, _, _, rfl, rfl, rfl, rfl⟩
      fnWrap := fn_of KX ⟨_, _, _, _, _, _, rfl, rfl, _, _, _, _, rfl, rfl, rfl, rfl⟩ }
  have M0 : Mk (KK w.params) DD DD2 s₁.heap :=
    { kin := KX, makes := rfl, keep := rfl, fInit := rfl, tInit := rfl, seta := rfl, over := rfl, dict := rfl, t1 := rfl, t2 := rfl, t3 := rfl, t4 := rfl
      init := ⟨_, _, _, _, _, _, _, fn_of KX ⟨_, _, _, _, _, _, rfl, rfl, _, _, _, _, rfl, rfl, rfl, rfl⟩, KX _ _ rfl, rfl⟩ }
  have B0 : Base s₁.heap.get? (KK w.params) DD DD2 := ⟨fun h k => T0.mono k, fun h k => C0.mono k⟩
  have M1 : ∀ h : Heap, Le s₁.heap.get? h.get? → Mk (KK w.params) DD DD2 h := fun h k =>
    { M0 with kin := M0.kin.keeps k, init := let ⟨a1, a2, a3, a4, a5, a6, a7, b1, b2, b3⟩ := M0.init; ⟨a1, a2, a3, a4, a5, a6, a7, b1.mono k, k _ _ b2, b3⟩ }
  have F0 : FnAt s₁.heap fa "law" "law" dLaw .none := ⟨o, doc, pm, cd, _, _, ho, hd', hcd⟩
  have hpl : LstAt s₁.heap.get? (.ref la) vs := by
    obtain ⟨q, e⟩ : ∃ q, ofPy (PyData.list (iv.map PyData.int)) = WData.list q := ⟨_, rfl⟩
    rw [e] at w1
    cases w1 with
    | list hget _ =>
      obtain ⟨o', ho', hc', n', hd''⟩ := hLst
      rw [hget] at ho'
      cases ho'
      injection hd'' with h1 h2
      exact ⟨la, 0, rfl, by rw [hget, h1]⟩
  have hints : ∀ v ∈ vs, ∃ n t, v = Value.int n t := by
    have hi : ∀ {vs : List Value} {is : List Int}, IntsAre vs is → ∀ v ∈ vs, ∃ n t, v = Value.int n t := by
      intro vs is h
      induction h with
      | nil => intro v hv; cases hv
      | cons n t _ ih =>
        intro v hv
        rcases List.mem_cons.mp hv with rfl | hv
        · exact ⟨n, t, rfl⟩
        · exact ih v hv
    exact hi hI
  have hlen : vs.length ≤ 63 := by
    have hl : ∀ {vs : List Value} {is : List Int}, IntsAre vs is → vs.length = is.length := by
      intro vs is h
      induction h with
      | nil => rfl
      | cons n t _ ih => simp [ih]
    rw [hl hI]; omega
  refine wpAny_call (law_spec (A := callerA) B0 M1 (Le.refl _) F0 rfl (by decide) (by decide) hpl hints hlen fun s' h1 h2 h3 h4 h5 => ?_)
  refine ⟨.inl ⟨_, .bool true, [], rfl, fun _ => rfl, .bool true, ?_, fun _ => ⟨List.nodup_nil, fun _ h => nomatch h⟩⟩, .of_keep h2, h1, fun y hy => ?_⟩
  · first | (with_unfolding_all rfl) | kernel_rfl
  · obtain ⟨j, hj, rfl⟩ := Array.mem_iff_getElem.mp hy
    rw [hg] at h3 h5
    have hj' : j < 3 := by simpa [h3] using hj
    have := h5 j (Nat.zero_le _) (by simpa using hj')
    rw [Array.getElem?_eq_getElem hj] at this
    cases this' : s'.gens[j] with
    | finished => rfl
    | _ => rw [this'] at this; cases this
end Mine
end

theorem PySem.Challenge.cw_dm0065_01_holds : PySem.Challenge.rw_dm0065_01.Holds := by
  exact Mine.joined
